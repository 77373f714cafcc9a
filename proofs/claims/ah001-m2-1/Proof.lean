import JvmDerived
import JvmDerived.Pilot.@@N@@Statement
import JvmDerived.Pilot.@@N@@Code
set_option linter.unusedVariables false
set_option linter.unusedSimpArgs false
namespace Jvm.RoadKit
open Sem ClassFile Op Lib Jvm.Stand Jvm.Free Jvm.LawKit
/-- the walk that stands at S comes to an end of which P holds -/
def own_Goes (tb : Tables) (e : Env) (below : List Frame) (P : State → Outcome → Prop) (S : State) : Prop := ∃ t o, Steps tb e below S t ∧ P t o
theorem own_Goes.of {tb : Tables} {e : Env} {below : List Frame} {P : State → Outcome → Prop} {S : State} (k : own_Goes tb e below P S) : ∃ t o, Steps tb e below S t ∧ P t o := k
theorem own_Goes.nm {tb : Tables} {e : Env} {below : List Frame} {P : State → Outcome → Prop} {S : State} (k : ∀ P' : State → Outcome → Prop, (∀ t o, P t o → P' t o) → own_Goes tb e below P' S) : own_Goes tb e below P S := k P fun _ _ q => q
theorem own_Goes.st {tb : Tables} {e : Env} {below : List Frame} {P : State → Outcome → Prop} {S S' : State} (k : own_Goes tb e below P S') (h : ∀ t, Steps tb e below S' t → Steps tb e below S t) : own_Goes tb e below P S := by
  obtain ⟨t, o, h1, h2⟩ := k; exact ⟨t, o, h t h1, h2⟩
theorem own_Goes.tr {tb : Tables} {e : Env} {below : List Frame} {P : State → Outcome → Prop} {S S' : State} (h : Steps tb e below S S') (k : own_Goes tb e below P S') : own_Goes tb e below P S := by
  obtain ⟨t, o, h1, h2⟩ := k; exact ⟨t, o, h.trans h1, h2⟩
theorem own_Goes.fin {tb : Tables} {e : Env} {below : List Frame} {P : State → Outcome → Prop} {S : State} (t : State) (o : Outcome) (h : Steps tb e below S t) (k : P t o) : own_Goes tb e below P S := ⟨t, o, h, k⟩
end Jvm.RoadKit
namespace Jvm.Pilot.@@N@@
open Jvm Jvm.ClassFile Sem Op Lib Jvm.Free Jvm.Stand Jvm.LawKit Jvm.RoadKit Bundle Jvm.Pilot.@@N@@.Jvm.D
theorem own_k (y kk : Int32) (h : (y &&& (7 : Int32)) % (5 : Int32) = kk) : kk = 0 ∨ kk = 1 ∨ kk = 2 ∨ kk = 3 ∨ kk = 4 := by
  have m := c_mask y 7 3 (by decide) (by decide)
  have q := (c_irem (y &&& 7) 5 5 (by decide)).1 (by rw [m]; omega)
  rw [h] at q
  have c0 : (0 : Int32).toInt = 0 := by decide
  have c1 : (1 : Int32).toInt = 1 := by decide
  have c2 : (2 : Int32).toInt = 2 := by decide
  have c3 : (3 : Int32).toInt = 3 := by decide
  have c4 : (4 : Int32).toInt = 4 := by decide
  have g : kk.toInt = 0 ∨ kk.toInt = 1 ∨ kk.toInt = 2 ∨ kk.toInt = 3 ∨ kk.toInt = 4 := by omega
  simpa only [← Int32.toInt_inj, c0, c1, c2, c3, c4] using g
def own_imin (i j : Int32) : Int32 := if j < i then j else i
theorem own_ef_imin (m : MethodId) (x0 : Int32) (x1 : Int32) : entryFrame m #[(.int x0), (.int x1)] 2 = mkF m 0 #[.val (.int x0), .val (.int x1)] [] := by first | (simp [entryFrame, mkF, argsToLocals, Value.category]; done) | rfl
theorem own_d_jdk_29_method_69_0 : decode jdk_29_method_69_code 0 = .ok (.iload_n 0, 1) := by decide +kernel
theorem own_d_jdk_29_method_69_1 : decode jdk_29_method_69_code 1 = .ok (.iload_n 1, 1) := by decide +kernel
theorem own_d_jdk_29_method_69_2 : decode jdk_29_method_69_code 2 = .ok (.if_icmp .gt 7, 3) := by decide +kernel
theorem own_d_jdk_29_method_69_9 : decode jdk_29_method_69_code 9 = .ok (.iload_n 1, 1) := by decide +kernel
theorem own_d_jdk_29_method_69_10 : decode jdk_29_method_69_code 10 = .ok (.ireturn, 1) := by decide +kernel
theorem own_d_jdk_29_method_69_5 : decode jdk_29_method_69_code 5 = .ok (.iload_n 0, 1) := by decide +kernel
theorem own_d_jdk_29_method_69_6 : decode jdk_29_method_69_code 6 = .ok (.goto 4, 3) := by decide +kernel
def Q_imin (Z : State) (i : Int32) (j : Int32) (h0 : Heap) (n0 : Nat) (rv_ : Option Value) (h_ : Heap) (L_ : List Loc) : Prop := rv_ = some (.int (own_imin i j)) ∧ Fr n0 L_ ∧ h_ = h0
set_option maxRecDepth 65536 in
set_option maxHeartbeats 40000000 in
theorem rm_imin (l : Launch) (Z : State) (a0 : Array Value) (hw : ∀ d ∈ tables_1, d.before a0 Z = true) (ws : List Jvm.Cond) (i : Int32) (j : Int32) (h0 : Heap) (n0 : Nat) (Z0 : n0 ≤ h0.size) :
    MetFree l (⟨"java/lang/Math", "min", "(II)I"⟩ : MethodName) (head1 (Jvm.Cond.code (⟨"java/lang/Math", "min", "(II)I"⟩ : MethodName) jdk_29_method_69_code 2 (some .int) :: ws) ({ frames := 0, cells := 0, slots := 0, locals := 0 } : Room)) (fun as_ U => as_ = #[(.int i), (.int j)] ∧ Z.Warmed39 U.vm ∧ U.heap = h0) (fun _ _ _ _ _ => True) (fun _ U o U' => ∃ rv_ L_, o = .returned rv_ ∧ Q_imin Z i j h0 n0 rv_ U'.heap L_ ∧ FrameEnd U o U' L_ ({ frames := 0, cells := 0, slots := 0, locals := 0 } : Room).cells ({ frames := 0, cells := 0, slots := 0, locals := 0 } : Room).slots) := by
  refine MetFree.of_bodySF (by decide +kernel) hisR ?_
  intro p e s m args below meth c s₁ Bd hml0 hP hK
  obtain ⟨rfl, hZ, hh⟩ := hP
  have hx := Bd.exec
  have hby := Bd.bytes
  have hml : c.maxLocals = 2 := hml0
  have hown : s.vm.findClass "java/lang/Math" = some m.cls := findClass_of_methodNamed Bd.named
  have hnm := (name_of_methodNamed Bd.named Bd.method).1
  have X0 : Stand p l e ({ frames := 0, cells := 0, slots := 0, locals := 0 } : Room) s m #[(.int i), (.int j)] below meth c s₁ [] 0 0 := Stand.of_body Bd
  have e0 : s₁.heap = h0 := by rw [← hh, Bd.state]; rfl
  have N0 := Fr.nil n0
  refine own_Goes.of ?_
  refine own_Goes.nm (fun P hPP => ?_)
  refine own_Goes.st ?_ (fun _ k => castTop (own_ef_imin m i j) k)
  show own_Goes p.tables e below P (s₁.setTop (mkF m 0 #[.val (.int i), .val (.int j)] []))
  refine own_Goes.st ?_ (fun _ k => XS.iloadN X0.here hx rfl (hb hby own_d_jdk_29_method_69_0) rfl k)
  show own_Goes p.tables e below P (s₁.setTop (mkF m 1 #[.val (.int i), .val (.int j)] [(.int i)]))
  refine own_Goes.st ?_ (fun _ k => XS.iloadN X0.here hx rfl (hb hby own_d_jdk_29_method_69_1) rfl k)
  show own_Goes p.tables e below P (s₁.setTop (mkF m 2 #[.val (.int i), .val (.int j)] [(.int j), (.int i)]))
  by_cases h1 : j < i
  · skip
    refine own_Goes.st ?_ (fun _ k => XS.icmpYes X0.here hx rfl (pc0 := 2) (pc' := 9) rfl (hb hby own_d_jdk_29_method_69_2) rfl (tlt h1).2.2.1 (by decide) (by decide) k)
    show own_Goes p.tables e below P (s₁.setTop (mkF m 9 #[.val (.int i), .val (.int j)] []))
    refine own_Goes.st ?_ (fun _ k => XS.iloadN X0.here hx rfl (hb hby own_d_jdk_29_method_69_9) rfl k)
    show own_Goes p.tables e below P (s₁.setTop (mkF m 10 #[.val (.int i), .val (.int j)] [(.int j)]))
    obtain ⟨fs, hr, hrun, hended, hW, hsame⟩ := X0.leave (v := some (.int j)) (fun h => by rw [Bd.returns] at h; cases h)
    exact own_Goes.fin _ _ (retOut X0 hx (t := .int) Bd.returns rfl (Or.inl ⟨rfl, Or.inl rfl, _, rfl⟩) (hb hby own_d_jdk_29_method_69_10) hr) (hPP _ _ ⟨hrun, hended, _, _, rfl, (by show Q_imin Z i j h0 n0 _ s₁.heap _; rw [e0]; exact ⟨(by rw [own_imin, if_pos h1]), N0, rfl⟩), ⟨_, rfl⟩, hW, hsame.mono (by decide) (by decide)⟩)
  · skip
    refine own_Goes.st ?_ (fun _ k => XS.icmpNo X0.here hx rfl (hb hby own_d_jdk_29_method_69_2) rfl (flt h1).2.2.1 k)
    show own_Goes p.tables e below P (s₁.setTop (mkF m 5 #[.val (.int i), .val (.int j)] []))
    refine own_Goes.st ?_ (fun _ k => XS.iloadN X0.here hx rfl (hb hby own_d_jdk_29_method_69_5) rfl k)
    show own_Goes p.tables e below P (s₁.setTop (mkF m 6 #[.val (.int i), .val (.int j)] [(.int i)]))
    refine own_Goes.st ?_ (fun _ k => XS.goto X0.here hx rfl (pc0 := 6) (pc' := 10) rfl (hb hby own_d_jdk_29_method_69_6) (by decide) (by decide) k)
    show own_Goes p.tables e below P (s₁.setTop (mkF m 10 #[.val (.int i), .val (.int j)] [(.int i)]))
    obtain ⟨fs, hr, hrun, hended, hW, hsame⟩ := X0.leave (v := some (.int i)) (fun h => by rw [Bd.returns] at h; cases h)
    exact own_Goes.fin _ _ (retOut X0 hx (t := .int) Bd.returns rfl (Or.inl ⟨rfl, Or.inl rfl, _, rfl⟩) (hb hby own_d_jdk_29_method_69_10) hr) (hPP _ _ ⟨hrun, hended, _, _, rfl, (by show Q_imin Z i j h0 n0 _ s₁.heap _; rw [e0]; exact ⟨(by rw [own_imin, if_neg h1]), N0, rfl⟩), ⟨_, rfl⟩, hW, hsame.mono (by decide) (by decide)⟩)
theorem own_ef_ctor (m : MethodId) (x0 : Addr) : entryFrame m #[(.ref x0)] 1 = mkF m 0 #[.val (.ref x0)] [] := by first | (simp [entryFrame, mkF, argsToLocals, Value.category]; done) | rfl
theorem own_pn_com_example_taxodelta_taxodelta_taxonomy_IntList : plainName "com/example/taxodelta/taxodelta/taxonomy/IntList" = true := by first | (simp [plainName, overriddenIn]; done) | decide +kernel
theorem own_d_prog_40_method_1_0 : decode prog_40_method_1_code 0 = .ok (.aload_n 0, 1) := by decide +kernel
theorem own_d_prog_40_method_1_1 : decode prog_40_method_1_code 1 = .ok (.invokespecial 1, 3) := by decide +kernel
theorem own_d_prog_40_method_1_4 : decode prog_40_method_1_code 4 = .ok (.aload_n 0, 1) := by decide +kernel
theorem own_d_prog_40_method_1_5 : decode prog_40_method_1_code 5 = .ok (.iconst 2, 1) := by decide +kernel
theorem own_d_prog_40_method_1_6 : decode prog_40_method_1_code 6 = .ok (.newarray .int, 2) := by decide +kernel
theorem own_d_prog_40_method_1_8 : decode prog_40_method_1_code 8 = .ok (.putfield 7, 3) := by decide +kernel
theorem own_d_prog_40_method_1_11 : decode prog_40_method_1_code 11 = .ok (.return_, 1) := by decide +kernel
def Q_ctor (Z : State) (a : Addr) (u1 : Value) (h0 : Heap) (n0 : Nat) (rv_ : Option Value) (h_ : Heap) (L_ : List Loc) : Prop := ∃ (b : Addr) (k : ClassId), rv_ = none ∧ Fr n0 L_ ∧ Keep h0 h_ [a] ∧ (Exa Z h_ a "com/example/taxodelta/taxodelta/taxonomy/IntList") ∧ (Fld Z h_ a "com/example/taxodelta/taxodelta/taxonomy/IntList" "values" "[I" (.ref b)) ∧ (Fld Z h_ a "com/example/taxodelta/taxodelta/taxonomy/IntList" "size" "I" (.int (0 : Int32))) ∧ (h0.size ≤ b) ∧ (Arv Z h_ b k .int (2 : Int32) [(.int (0 : Int32)), (.int (0 : Int32))] (.int 0)) ∧ (Exa Z h_ b "[I")
set_option maxRecDepth 65536 in
set_option maxHeartbeats 40000000 in
theorem rm_ctor (l : Launch) (Z : State) (a0 : Array Value) (hw : ∀ d ∈ tables_1, d.before a0 Z = true) (ws : List Jvm.Cond) (a : Addr) (u1 : Value) (h0 : Heap) (n0 : Nat) (Z0 : n0 ≤ h0.size) (pr0 : Exa Z h0 a "com/example/taxodelta/taxodelta/taxonomy/IntList") (pr1 : Fld Z h0 a "com/example/taxodelta/taxodelta/taxonomy/IntList" "values" "[I" u1) (pr2 : Fld Z h0 a "com/example/taxodelta/taxodelta/taxonomy/IntList" "size" "I" (.int (0 : Int32))) (pr3 : n0 ≤ a) :
    MetFree l (⟨"com/example/taxodelta/taxodelta/taxonomy/IntList", "<init>", "()V"⟩ : MethodName) (head1 (Jvm.Cond.code (⟨"com/example/taxodelta/taxodelta/taxonomy/IntList", "<init>", "()V"⟩ : MethodName) prog_40_method_1_code 1 none :: ws) ({ frames := 1, cells := 1, slots := 2, locals := 12 } : Room)) (fun as_ U => as_ = #[(.ref a)] ∧ Z.Warmed39 U.vm ∧ U.heap = h0) (fun _ _ _ _ _ => True) (fun _ U o U' => ∃ rv_ L_, o = .returned rv_ ∧ Q_ctor Z a u1 h0 n0 rv_ U'.heap L_ ∧ FrameEnd U o U' L_ ({ frames := 1, cells := 1, slots := 2, locals := 12 } : Room).cells ({ frames := 1, cells := 1, slots := 2, locals := 12 } : Room).slots) := by
  refine MetFree.of_bodySF (plainFor_of_name own_pn_com_example_taxodelta_taxodelta_taxonomy_IntList) hisR ?_
  intro p e s m args below meth c s₁ Bd hml0 hP hK
  obtain ⟨rfl, hZ, hh⟩ := hP
  have hx := Bd.exec
  have hby := Bd.bytes
  have hml : c.maxLocals = 1 := hml0
  have hown : s.vm.findClass "com/example/taxodelta/taxodelta/taxonomy/IntList" = some m.cls := findClass_of_methodNamed Bd.named
  have hnm := (name_of_methodNamed Bd.named Bd.method).1
  have X0 : Stand p l e ({ frames := 1, cells := 1, slots := 2, locals := 12 } : Room) s m #[(.ref a)] below meth c s₁ [] 0 0 := Stand.of_body Bd
  have e0 : s₁.heap = h0 := by rw [← hh, Bd.state]; rfl
  have N0 := Fr.nil n0
  refine own_Goes.of ?_
  refine own_Goes.nm (fun P hPP => ?_)
  refine own_Goes.st ?_ (fun _ k => castTop (own_ef_ctor m a) k)
  have K0 : Keep h0 h0 [a] := Keep.refl _ _
  show own_Goes p.tables e below P (s₁.setTop (mkF m 0 #[.val (.ref a)] []))
  refine own_Goes.st ?_ (fun _ k => XS.aloadN X0.here hx rfl (hb hby own_d_prog_40_method_1_0) rfl rfl k)
  show own_Goes p.tables e below P (s₁.setTop (mkF m 1 #[.val (.ref a)] [(.ref a)]))
  obtain ⟨T1, X1, e1, st1⟩ := initO X0 hx hZ hown (hw _ (List.mem_of_getElem? (i := 6) rfl)) (hw _ (List.mem_of_getElem? (i := 7) rfl)) (hw _ (List.mem_of_getElem? (i := 8) rfl)) e0 (g := (mkF m 1 #[.val (.ref a)] [(.ref a)])) rfl (by rw [hml]; rfl) rfl (hb hby own_d_prog_40_method_1_1) (by decide) (W := 0) (by show 2 * 0 + _ ≤ _; exact Nat.le_of_eq rfl) (by decide)
  refine own_Goes.st ?_ st1
  show own_Goes p.tables e below P (T1.setTop (mkF m 4 #[.val (.ref a)] []))
  refine own_Goes.st ?_ (fun _ k => XS.aloadN X1.here hx rfl (hb hby own_d_prog_40_method_1_4) rfl rfl k)
  show own_Goes p.tables e below P (T1.setTop (mkF m 5 #[.val (.ref a)] [(.ref a)]))
  refine own_Goes.st ?_ (fun _ k => XS.iconst X1.here hx rfl (hb hby own_d_prog_40_method_1_5) k)
  show own_Goes p.tables e below P (T1.setTop (mkF m 6 #[.val (.ref a)] [(.int (2 : Int32)), (.ref a)]))
  obtain ⟨T2, h2, k2, X2, e2, E2, A2, J2, st2⟩ := newPE X1 hx hZ (hw _ (List.mem_of_getElem? (i := 9) rfl)) e1 (g := (mkF m 6 #[.val (.ref a)] [(.int (2 : Int32)), (.ref a)])) rfl (hb hby own_d_prog_40_method_1_6) rfl (by decide) (cap := 2) (by decide) (by decide) (by decide) (by decide) (ad := "[I") rfl
  obtain ⟨b2, g2⟩ : ∃ z, z = h0.size := ⟨_, rfl⟩
  rw [← g2] at A2 J2 st2
  have ne3 : a ≠ b2 := Nat.ne_of_lt (Nat.lt_of_lt_of_eq pr0.lt g2.symm)
  have ge_b2 : n0 ≤ b2 := Nat.le_trans Z0 (Nat.le_of_eq g2.symm)
  have sz_b2 : h0.size ≤ b2 := Nat.le_trans K0.1 (Nat.le_of_eq g2.symm)
  refine own_Goes.st ?_ st2
  have Z4 : n0 ≤ h2.size := Nat.le_trans Z0 E2.1
  have K5 := K0.ext E2
  have V6 : Arv Z h2 b2 k2 .int (2 : Int32) [(.int (0 : Int32)), (.int (0 : Int32))] (.int 0) := (Arv.new A2 (by decide)).pad (pad_rep [] _ 2)
  show own_Goes p.tables e below P (T2.setTop (mkF m 8 #[.val (.ref a)] [(.ref b2), (.ref a)]))
  have F7 : Fld Z h2 a "com/example/taxodelta/taxodelta/taxonomy/IntList" "values" "[I" u1 := (pr1.ext E2)
  have F8 : Exa Z h2 a "com/example/taxodelta/taxodelta/taxonomy/IntList" := (pr0.ext E2)
  obtain ⟨T9, h9, X9, e9, W9, st9⟩ := putF X2 hx hZ hown (host := "") (Or.inl (hw _ (List.mem_of_getElem? (i := 10) rfl))) Via.refl e2 F7 F8 (Or.inl (hw _ (List.mem_of_getElem? (i := 11) rfl))) (hw _ (List.mem_of_getElem? (i := 1) rfl)) (ty := (.array .int)) (by decide) rfl rfl (g := (mkF m 8 #[.val (.ref a)] [(.ref b2), (.ref a)])) rfl rfl (hb hby own_d_prog_40_method_1_8)
  refine own_Goes.st ?_ st9
  have F10 : Fld Z h9 a "com/example/taxodelta/taxodelta/taxonomy/IntList" "values" "[I" (.ref b2) := F7.same W9
  have Z11 : n0 ≤ h9.size := by rw [W9.size]; exact Z4
  have K12 := K5.wr W9 (Or.inl (List.mem_of_getElem? (i := 0) rfl))
  have N13 := Fr.snoc X9 N0 pr3
  show own_Goes p.tables e below P (T9.setTop (mkF m 11 #[.val (.ref a)] []))
  obtain ⟨fs, hr, hrun, hended, hW, hsame⟩ := X9.leave (v := none) (fun _ => rfl)
  have F14 : Exa Z h9 a "com/example/taxodelta/taxodelta/taxonomy/IntList" := (F8.wr W9)
  have F15 : Fld Z h9 a "com/example/taxodelta/taxodelta/taxonomy/IntList" "size" "I" (.int (0 : Int32)) := ((pr2.ext E2).other W9 (Or.inr (slot_ne (Or.inl (hw _ (List.mem_of_getElem? (i := 18) rfl))) (Or.inl (hw _ (List.mem_of_getElem? (i := 11) rfl))) (by decide) (t := .int) (t' := (.array .int)) (by decide) (by decide))))
  have F16 : Arv Z h9 b2 k2 .int (2 : Int32) [(.int (0 : Int32)), (.int (0 : Int32))] (.int 0) := (V6.other W9 (Ne.symm ne3))
  have F17 : Exa Z h9 b2 "[I" := (J2.wr W9)
  exact own_Goes.fin _ _ (X9.returnOut hx Bd.returns (hb hby own_d_prog_40_method_1_11) hr) (hPP _ _ ⟨hrun, hended, _, _, rfl, (by show Q_ctor Z a u1 h0 n0 _ T9.heap _; rw [e9]; exact ⟨b2, k2, rfl, N13, K12, F14, F10, F15, sz_b2, F16, F17⟩), ⟨_, rfl⟩, hW, hsame.mono (by decide) (by decide)⟩)
theorem own_ef_add_0 (m : MethodId) (x0 : Addr) (x1 : Int32) : entryFrame m #[(.ref x0), (.int x1)] 2 = mkF m 0 #[.val (.ref x0), .val (.int x1)] [] := by first | (simp [entryFrame, mkF, argsToLocals, Value.category]; done) | rfl
theorem own_d_prog_40_method_2_0 : decode prog_40_method_2_code 0 = .ok (.aload_n 0, 1) := by decide +kernel
theorem own_d_prog_40_method_2_1 : decode prog_40_method_2_code 1 = .ok (.getfield 13, 3) := by decide +kernel
theorem own_d_prog_40_method_2_4 : decode prog_40_method_2_code 4 = .ok (.aload_n 0, 1) := by decide +kernel
theorem own_d_prog_40_method_2_5 : decode prog_40_method_2_code 5 = .ok (.getfield 7, 3) := by decide +kernel
theorem own_d_prog_40_method_2_8 : decode prog_40_method_2_code 8 = .ok (.arraylength, 1) := by decide +kernel
theorem own_d_prog_40_method_2_9 : decode prog_40_method_2_code 9 = .ok (.if_icmp .ne 20, 3) := by decide +kernel
theorem own_d_prog_40_method_2_29 : decode prog_40_method_2_code 29 = .ok (.aload_n 0, 1) := by decide +kernel
theorem own_d_prog_40_method_2_30 : decode prog_40_method_2_code 30 = .ok (.getfield 7, 3) := by decide +kernel
theorem own_d_prog_40_method_2_33 : decode prog_40_method_2_code 33 = .ok (.aload_n 0, 1) := by decide +kernel
theorem own_d_prog_40_method_2_34 : decode prog_40_method_2_code 34 = .ok (.dup, 1) := by decide +kernel
theorem own_d_prog_40_method_2_35 : decode prog_40_method_2_code 35 = .ok (.getfield 13, 3) := by decide +kernel
theorem own_d_prog_40_method_2_38 : decode prog_40_method_2_code 38 = .ok (.dup_x1, 1) := by decide +kernel
theorem own_d_prog_40_method_2_39 : decode prog_40_method_2_code 39 = .ok (.iconst 1, 1) := by decide +kernel
theorem own_d_prog_40_method_2_40 : decode prog_40_method_2_code 40 = .ok (.iadd, 1) := by decide +kernel
theorem own_d_prog_40_method_2_41 : decode prog_40_method_2_code 41 = .ok (.putfield 13, 3) := by decide +kernel
theorem own_d_prog_40_method_2_44 : decode prog_40_method_2_code 44 = .ok (.iload_n 1, 1) := by decide +kernel
theorem own_d_prog_40_method_2_45 : decode prog_40_method_2_code 45 = .ok (.iastore, 1) := by decide +kernel
theorem own_d_prog_40_method_2_46 : decode prog_40_method_2_code 46 = .ok (.return_, 1) := by decide +kernel
def Q_add_0 (Z : State) (a : Addr) (v : Int32) (b : Addr) (k : ClassId) (h0 : Heap) (n0 : Nat) (rv_ : Option Value) (h_ : Heap) (L_ : List Loc) : Prop := rv_ = none ∧ Fr n0 L_ ∧ Keep h0 h_ [a, b] ∧ (Exa Z h_ a "com/example/taxodelta/taxodelta/taxonomy/IntList") ∧ (Fld Z h_ a "com/example/taxodelta/taxodelta/taxonomy/IntList" "values" "[I" (.ref b)) ∧ (Fld Z h_ a "com/example/taxodelta/taxodelta/taxonomy/IntList" "size" "I" (.int (1 : Int32))) ∧ (Arv Z h_ b k .int (2 : Int32) [(.int v), (.int (0 : Int32))] (.int 0)) ∧ (Exa Z h_ b "[I")
set_option maxRecDepth 65536 in
set_option maxHeartbeats 40000000 in
theorem rm_add_0 (l : Launch) (Z : State) (a0 : Array Value) (hw : ∀ d ∈ tables_1, d.before a0 Z = true) (ws : List Jvm.Cond) (a : Addr) (v : Int32) (b : Addr) (k : ClassId) (h0 : Heap) (n0 : Nat) (Z0 : n0 ≤ h0.size) (pr0 : Exa Z h0 a "com/example/taxodelta/taxodelta/taxonomy/IntList") (pr1 : Fld Z h0 a "com/example/taxodelta/taxodelta/taxonomy/IntList" "values" "[I" (.ref b)) (pr2 : Fld Z h0 a "com/example/taxodelta/taxodelta/taxonomy/IntList" "size" "I" (.int (0 : Int32))) (pr3 : Arv Z h0 b k .int (2 : Int32) [(.int (0 : Int32)), (.int (0 : Int32))] (.int 0)) (pr4 : Exa Z h0 b "[I") (pr5 : n0 ≤ a) (pr6 : n0 ≤ b) (pr7 : a ≠ b) :
    MetFree l (⟨"com/example/taxodelta/taxodelta/taxonomy/IntList", "add", "(I)V"⟩ : MethodName) (head1 (Jvm.Cond.code (⟨"com/example/taxodelta/taxodelta/taxonomy/IntList", "add", "(I)V"⟩ : MethodName) prog_40_method_2_code 2 none :: ws) ({ frames := 0, cells := 0, slots := 0, locals := 0 } : Room)) (fun as_ U => as_ = #[(.ref a), (.int v)] ∧ Z.Warmed39 U.vm ∧ U.heap = h0) (fun _ _ _ _ _ => True) (fun _ U o U' => ∃ rv_ L_, o = .returned rv_ ∧ Q_add_0 Z a v b k h0 n0 rv_ U'.heap L_ ∧ FrameEnd U o U' L_ ({ frames := 0, cells := 0, slots := 0, locals := 0 } : Room).cells ({ frames := 0, cells := 0, slots := 0, locals := 0 } : Room).slots) := by
  refine MetFree.of_bodySF (plainFor_of_name own_pn_com_example_taxodelta_taxodelta_taxonomy_IntList) hisR ?_
  intro p e s m args below meth c s₁ Bd hml0 hP hK
  obtain ⟨rfl, hZ, hh⟩ := hP
  have hx := Bd.exec
  have hby := Bd.bytes
  have hml : c.maxLocals = 2 := hml0
  have hown : s.vm.findClass "com/example/taxodelta/taxodelta/taxonomy/IntList" = some m.cls := findClass_of_methodNamed Bd.named
  have hnm := (name_of_methodNamed Bd.named Bd.method).1
  have X0 : Stand p l e ({ frames := 0, cells := 0, slots := 0, locals := 0 } : Room) s m #[(.ref a), (.int v)] below meth c s₁ [] 0 0 := Stand.of_body Bd
  have e0 : s₁.heap = h0 := by rw [← hh, Bd.state]; rfl
  have N0 := Fr.nil n0
  refine own_Goes.of ?_
  refine own_Goes.nm (fun P hPP => ?_)
  refine own_Goes.st ?_ (fun _ k => castTop (own_ef_add_0 m a v) k)
  have K0 : Keep h0 h0 [a, b] := Keep.refl _ _
  show own_Goes p.tables e below P (s₁.setTop (mkF m 0 #[.val (.ref a), .val (.int v)] []))
  refine own_Goes.st ?_ (fun _ k => XS.aloadN X0.here hx rfl (hb hby own_d_prog_40_method_2_0) rfl rfl k)
  show own_Goes p.tables e below P (s₁.setTop (mkF m 1 #[.val (.ref a), .val (.int v)] [(.ref a)]))
  obtain ⟨T1, X1, e1, st1⟩ := getF X0 hx hZ hown (host := "") (Or.inl (hw _ (List.mem_of_getElem? (i := 17) rfl))) Via.refl e0 pr2 (g := (mkF m 1 #[.val (.ref a), .val (.int v)] [(.ref a)])) rfl rfl (hb hby own_d_prog_40_method_2_1)
  refine own_Goes.st ?_ st1
  show own_Goes p.tables e below P (T1.setTop (mkF m 4 #[.val (.ref a), .val (.int v)] [(.int (0 : Int32))]))
  refine own_Goes.st ?_ (fun _ k => XS.aloadN X1.here hx rfl (hb hby own_d_prog_40_method_2_4) rfl rfl k)
  show own_Goes p.tables e below P (T1.setTop (mkF m 5 #[.val (.ref a), .val (.int v)] [(.ref a), (.int (0 : Int32))]))
  obtain ⟨T2, X2, e2, st2⟩ := getF X1 hx hZ hown (host := "") (Or.inl (hw _ (List.mem_of_getElem? (i := 10) rfl))) Via.refl e1 pr1 (g := (mkF m 5 #[.val (.ref a), .val (.int v)] [(.ref a), (.int (0 : Int32))])) rfl rfl (hb hby own_d_prog_40_method_2_5)
  refine own_Goes.st ?_ st2
  show own_Goes p.tables e below P (T2.setTop (mkF m 8 #[.val (.ref a), .val (.int v)] [(.ref b), (.int (0 : Int32))]))
  have Vc3 := pr3
  obtain ⟨cl3, Ar3, q3, S3, Nn3, Hs3, Gs3⟩ := Vc3
  refine own_Goes.st ?_ (X2.arraylength hx (by rw [e2]; exact Ar3.1) (State.isArrayOf_alike hZ.alike Ar3.2.1) (g := (mkF m 8 #[.val (.ref a), .val (.int v)] [(.ref b), (.int (0 : Int32))])) rfl rfl (hb hby own_d_prog_40_method_2_8))
  rw [len_of S3 Nn3]
  show own_Goes p.tables e below P (T2.setTop (mkF m 9 #[.val (.ref a), .val (.int v)] [(.int (2 : Int32)), (.int (0 : Int32))]))
  refine own_Goes.st ?_ (fun _ k => XS.icmpYes X2.here hx rfl (pc0 := 9) (pc' := 29) rfl (hb hby own_d_prog_40_method_2_9) rfl (feq (by decide : ¬ ((0 : Int32) = (2 : Int32)))).2 (by decide) (by decide) k)
  show own_Goes p.tables e below P (T2.setTop (mkF m 29 #[.val (.ref a), .val (.int v)] []))
  refine own_Goes.st ?_ (fun _ k => XS.aloadN X2.here hx rfl (hb hby own_d_prog_40_method_2_29) rfl rfl k)
  show own_Goes p.tables e below P (T2.setTop (mkF m 30 #[.val (.ref a), .val (.int v)] [(.ref a)]))
  obtain ⟨T4, X4, e4, st4⟩ := getF X2 hx hZ hown (host := "") (Or.inl (hw _ (List.mem_of_getElem? (i := 10) rfl))) Via.refl e2 pr1 (g := (mkF m 30 #[.val (.ref a), .val (.int v)] [(.ref a)])) rfl rfl (hb hby own_d_prog_40_method_2_30)
  refine own_Goes.st ?_ st4
  show own_Goes p.tables e below P (T4.setTop (mkF m 33 #[.val (.ref a), .val (.int v)] [(.ref b)]))
  refine own_Goes.st ?_ (fun _ k => XS.aloadN X4.here hx rfl (hb hby own_d_prog_40_method_2_33) rfl rfl k)
  show own_Goes p.tables e below P (T4.setTop (mkF m 34 #[.val (.ref a), .val (.int v)] [(.ref a), (.ref b)]))
  refine own_Goes.st ?_ (fun _ k => XS.dup X4.here hx rfl (hb hby own_d_prog_40_method_2_34) rfl rfl k)
  show own_Goes p.tables e below P (T4.setTop (mkF m 35 #[.val (.ref a), .val (.int v)] [(.ref a), (.ref a), (.ref b)]))
  obtain ⟨T5, X5, e5, st5⟩ := getF X4 hx hZ hown (host := "") (Or.inl (hw _ (List.mem_of_getElem? (i := 17) rfl))) Via.refl e4 pr2 (g := (mkF m 35 #[.val (.ref a), .val (.int v)] [(.ref a), (.ref a), (.ref b)])) rfl rfl (hb hby own_d_prog_40_method_2_35)
  refine own_Goes.st ?_ st5
  show own_Goes p.tables e below P (T5.setTop (mkF m 38 #[.val (.ref a), .val (.int v)] [(.int (0 : Int32)), (.ref a), (.ref b)]))
  refine own_Goes.st ?_ (fun _ k => XS.dupX1 X5.here hx rfl (hb hby own_d_prog_40_method_2_38) rfl rfl rfl k)
  show own_Goes p.tables e below P (T5.setTop (mkF m 39 #[.val (.ref a), .val (.int v)] [(.int (0 : Int32)), (.ref a), (.int (0 : Int32)), (.ref b)]))
  refine own_Goes.st ?_ (fun _ k => XS.iconst X5.here hx rfl (hb hby own_d_prog_40_method_2_39) k)
  show own_Goes p.tables e below P (T5.setTop (mkF m 40 #[.val (.ref a), .val (.int v)] [(.int (1 : Int32)), (.int (0 : Int32)), (.ref a), (.int (0 : Int32)), (.ref b)]))
  refine own_Goes.st ?_ (fun _ k => XS.iadd X5.here hx rfl (hb hby own_d_prog_40_method_2_40) rfl k)
  show own_Goes p.tables e below P (T5.setTop (mkF m 41 #[.val (.ref a), .val (.int v)] [(.int (1 : Int32)), (.ref a), (.int (0 : Int32)), (.ref b)]))
  obtain ⟨T6, h6, X6, e6, W6, st6⟩ := putF X5 hx hZ hown (host := "") (Or.inl (hw _ (List.mem_of_getElem? (i := 17) rfl))) Via.refl e5 pr2 pr0 (Or.inl (hw _ (List.mem_of_getElem? (i := 18) rfl))) (hw _ (List.mem_of_getElem? (i := 1) rfl)) (ty := .int) (by decide) rfl rfl (g := (mkF m 41 #[.val (.ref a), .val (.int v)] [(.int (1 : Int32)), (.ref a), (.int (0 : Int32)), (.ref b)])) rfl rfl (hb hby own_d_prog_40_method_2_41)
  refine own_Goes.st ?_ st6
  have F7 : Fld Z h6 a "com/example/taxodelta/taxodelta/taxonomy/IntList" "size" "I" (.int (1 : Int32)) := pr2.same W6
  have Z8 : n0 ≤ h6.size := by rw [W6.size]; exact Z0
  have K9 := K0.wr W6 (Or.inl (List.mem_of_getElem? (i := 0) rfl))
  have N10 := Fr.snoc X6 N0 pr5
  show own_Goes p.tables e below P (T6.setTop (mkF m 44 #[.val (.ref a), .val (.int v)] [(.int (0 : Int32)), (.ref b)]))
  refine own_Goes.st ?_ (fun _ k => XS.iloadN X6.here hx rfl (hb hby own_d_prog_40_method_2_44) rfl k)
  show own_Goes p.tables e below P (T6.setTop (mkF m 45 #[.val (.ref a), .val (.int v)] [(.int v), (.int (0 : Int32)), (.ref b)]))
  have F11 : Arv Z h6 b k .int (2 : Int32) [(.int (0 : Int32)), (.int (0 : Int32))] (.int 0) := (pr3.other W6 (Ne.symm pr7))
  have Vc12 := F11
  obtain ⟨cl12, Ar12, q12, S12, Nn12, Hs12, Gs12⟩ := Vc12
  have hin13 : ¬ ((0 : Int32) < 0 ∨ cl12.slots.size ≤ ((0 : Int32)).toNatClampNeg) := inb_of S12 ⟨by decide, by decide⟩
  obtain ⟨T13, h13, X13, e13, W13, st13⟩ := stI X6 hx hZ e6 Ar12 (j := (0 : Int32)) hin13 (g := (mkF m 45 #[.val (.ref a), .val (.int v)] [(.int v), (.int (0 : Int32)), (.ref b)])) rfl rfl (hb hby own_d_prog_40_method_2_45)
  refine own_Goes.st ?_ st13
  have V14 : Arv Z h13 b k .int (2 : Int32) [(.int v), (.int (0 : Int32))] (.int 0) := Arv.set Ar12 q12 S12 Nn12 Hs12 Gs12 rfl W13 0 rfl (Nat.le_of_ble_eq_true rfl)
  have Z15 : n0 ≤ h13.size := by rw [W13.size]; exact Z8
  have K16 := K9.wr W13 (Or.inl (List.mem_of_getElem? (i := 1) rfl))
  have N17 := Fr.snoc X13 N10 pr6
  show own_Goes p.tables e below P (T13.setTop (mkF m 46 #[.val (.ref a), .val (.int v)] []))
  have F18 : Fld Z h13 a "com/example/taxodelta/taxodelta/taxonomy/IntList" "values" "[I" (.ref b) := ((pr1.other W6 (Or.inr (slot_ne (Or.inl (hw _ (List.mem_of_getElem? (i := 11) rfl))) (Or.inl (hw _ (List.mem_of_getElem? (i := 18) rfl))) (by decide) (t := (.array .int)) (t' := .int) (by decide) (by decide)))).other W13 (Or.inl pr7))
  obtain ⟨fs, hr, hrun, hended, hW, hsame⟩ := X13.leave (v := none) (fun _ => rfl)
  have F19 : Exa Z h13 a "com/example/taxodelta/taxodelta/taxonomy/IntList" := ((pr0.wr W6).wr W13)
  have F20 : Fld Z h13 a "com/example/taxodelta/taxodelta/taxonomy/IntList" "size" "I" (.int (1 : Int32)) := (F7.other W13 (Or.inl pr7))
  have F21 : Exa Z h13 b "[I" := ((pr4.wr W6).wr W13)
  exact own_Goes.fin _ _ (X13.returnOut hx Bd.returns (hb hby own_d_prog_40_method_2_46) hr) (hPP _ _ ⟨hrun, hended, _, _, rfl, (by show Q_add_0 Z a v b k h0 n0 _ T13.heap _; rw [e13]; exact ⟨rfl, N17, K16, F19, F18, F20, V14, F21⟩), ⟨_, rfl⟩, hW, hsame.mono (by decide) (by decide)⟩)
theorem own_ef_add_1 (m : MethodId) (x0 : Addr) (x1 : Int32) : entryFrame m #[(.ref x0), (.int x1)] 2 = mkF m 0 #[.val (.ref x0), .val (.int x1)] [] := by first | (simp [entryFrame, mkF, argsToLocals, Value.category]; done) | rfl
def Q_add_1 (Z : State) (a : Addr) (v : Int32) (b : Addr) (k : ClassId) (x0 : Int32) (h0 : Heap) (n0 : Nat) (rv_ : Option Value) (h_ : Heap) (L_ : List Loc) : Prop := rv_ = none ∧ Fr n0 L_ ∧ Keep h0 h_ [a, b] ∧ (Exa Z h_ a "com/example/taxodelta/taxodelta/taxonomy/IntList") ∧ (Fld Z h_ a "com/example/taxodelta/taxodelta/taxonomy/IntList" "values" "[I" (.ref b)) ∧ (Fld Z h_ a "com/example/taxodelta/taxodelta/taxonomy/IntList" "size" "I" (.int (2 : Int32))) ∧ (Arv Z h_ b k .int (2 : Int32) [(.int x0), (.int v)] (.int 0)) ∧ (Exa Z h_ b "[I")
set_option maxRecDepth 65536 in
set_option maxHeartbeats 40000000 in
theorem rm_add_1 (l : Launch) (Z : State) (a0 : Array Value) (hw : ∀ d ∈ tables_1, d.before a0 Z = true) (ws : List Jvm.Cond) (a : Addr) (v : Int32) (b : Addr) (k : ClassId) (x0 : Int32) (h0 : Heap) (n0 : Nat) (Z0 : n0 ≤ h0.size) (pr0 : Exa Z h0 a "com/example/taxodelta/taxodelta/taxonomy/IntList") (pr1 : Fld Z h0 a "com/example/taxodelta/taxodelta/taxonomy/IntList" "values" "[I" (.ref b)) (pr2 : Fld Z h0 a "com/example/taxodelta/taxodelta/taxonomy/IntList" "size" "I" (.int (1 : Int32))) (pr3 : Arv Z h0 b k .int (2 : Int32) [(.int x0), (.int (0 : Int32))] (.int 0)) (pr4 : Exa Z h0 b "[I") (pr5 : n0 ≤ a) (pr6 : n0 ≤ b) (pr7 : a ≠ b) :
    MetFree l (⟨"com/example/taxodelta/taxodelta/taxonomy/IntList", "add", "(I)V"⟩ : MethodName) (head1 (Jvm.Cond.code (⟨"com/example/taxodelta/taxodelta/taxonomy/IntList", "add", "(I)V"⟩ : MethodName) prog_40_method_2_code 2 none :: ws) ({ frames := 0, cells := 0, slots := 0, locals := 0 } : Room)) (fun as_ U => as_ = #[(.ref a), (.int v)] ∧ Z.Warmed39 U.vm ∧ U.heap = h0) (fun _ _ _ _ _ => True) (fun _ U o U' => ∃ rv_ L_, o = .returned rv_ ∧ Q_add_1 Z a v b k x0 h0 n0 rv_ U'.heap L_ ∧ FrameEnd U o U' L_ ({ frames := 0, cells := 0, slots := 0, locals := 0 } : Room).cells ({ frames := 0, cells := 0, slots := 0, locals := 0 } : Room).slots) := by
  refine MetFree.of_bodySF (plainFor_of_name own_pn_com_example_taxodelta_taxodelta_taxonomy_IntList) hisR ?_
  intro p e s m args below meth c s₁ Bd hml0 hP hK
  obtain ⟨rfl, hZ, hh⟩ := hP
  have hx := Bd.exec
  have hby := Bd.bytes
  have hml : c.maxLocals = 2 := hml0
  have hown : s.vm.findClass "com/example/taxodelta/taxodelta/taxonomy/IntList" = some m.cls := findClass_of_methodNamed Bd.named
  have hnm := (name_of_methodNamed Bd.named Bd.method).1
  have X0 : Stand p l e ({ frames := 0, cells := 0, slots := 0, locals := 0 } : Room) s m #[(.ref a), (.int v)] below meth c s₁ [] 0 0 := Stand.of_body Bd
  have e0 : s₁.heap = h0 := by rw [← hh, Bd.state]; rfl
  have N0 := Fr.nil n0
  refine own_Goes.of ?_
  refine own_Goes.nm (fun P hPP => ?_)
  refine own_Goes.st ?_ (fun _ k => castTop (own_ef_add_1 m a v) k)
  have K0 : Keep h0 h0 [a, b] := Keep.refl _ _
  show own_Goes p.tables e below P (s₁.setTop (mkF m 0 #[.val (.ref a), .val (.int v)] []))
  refine own_Goes.st ?_ (fun _ k => XS.aloadN X0.here hx rfl (hb hby own_d_prog_40_method_2_0) rfl rfl k)
  show own_Goes p.tables e below P (s₁.setTop (mkF m 1 #[.val (.ref a), .val (.int v)] [(.ref a)]))
  obtain ⟨T1, X1, e1, st1⟩ := getF X0 hx hZ hown (host := "") (Or.inl (hw _ (List.mem_of_getElem? (i := 17) rfl))) Via.refl e0 pr2 (g := (mkF m 1 #[.val (.ref a), .val (.int v)] [(.ref a)])) rfl rfl (hb hby own_d_prog_40_method_2_1)
  refine own_Goes.st ?_ st1
  show own_Goes p.tables e below P (T1.setTop (mkF m 4 #[.val (.ref a), .val (.int v)] [(.int (1 : Int32))]))
  refine own_Goes.st ?_ (fun _ k => XS.aloadN X1.here hx rfl (hb hby own_d_prog_40_method_2_4) rfl rfl k)
  show own_Goes p.tables e below P (T1.setTop (mkF m 5 #[.val (.ref a), .val (.int v)] [(.ref a), (.int (1 : Int32))]))
  obtain ⟨T2, X2, e2, st2⟩ := getF X1 hx hZ hown (host := "") (Or.inl (hw _ (List.mem_of_getElem? (i := 10) rfl))) Via.refl e1 pr1 (g := (mkF m 5 #[.val (.ref a), .val (.int v)] [(.ref a), (.int (1 : Int32))])) rfl rfl (hb hby own_d_prog_40_method_2_5)
  refine own_Goes.st ?_ st2
  show own_Goes p.tables e below P (T2.setTop (mkF m 8 #[.val (.ref a), .val (.int v)] [(.ref b), (.int (1 : Int32))]))
  have Vc3 := pr3
  obtain ⟨cl3, Ar3, q3, S3, Nn3, Hs3, Gs3⟩ := Vc3
  refine own_Goes.st ?_ (X2.arraylength hx (by rw [e2]; exact Ar3.1) (State.isArrayOf_alike hZ.alike Ar3.2.1) (g := (mkF m 8 #[.val (.ref a), .val (.int v)] [(.ref b), (.int (1 : Int32))])) rfl rfl (hb hby own_d_prog_40_method_2_8))
  rw [len_of S3 Nn3]
  show own_Goes p.tables e below P (T2.setTop (mkF m 9 #[.val (.ref a), .val (.int v)] [(.int (2 : Int32)), (.int (1 : Int32))]))
  refine own_Goes.st ?_ (fun _ k => XS.icmpYes X2.here hx rfl (pc0 := 9) (pc' := 29) rfl (hb hby own_d_prog_40_method_2_9) rfl (feq (by decide : ¬ ((1 : Int32) = (2 : Int32)))).2 (by decide) (by decide) k)
  show own_Goes p.tables e below P (T2.setTop (mkF m 29 #[.val (.ref a), .val (.int v)] []))
  refine own_Goes.st ?_ (fun _ k => XS.aloadN X2.here hx rfl (hb hby own_d_prog_40_method_2_29) rfl rfl k)
  show own_Goes p.tables e below P (T2.setTop (mkF m 30 #[.val (.ref a), .val (.int v)] [(.ref a)]))
  obtain ⟨T4, X4, e4, st4⟩ := getF X2 hx hZ hown (host := "") (Or.inl (hw _ (List.mem_of_getElem? (i := 10) rfl))) Via.refl e2 pr1 (g := (mkF m 30 #[.val (.ref a), .val (.int v)] [(.ref a)])) rfl rfl (hb hby own_d_prog_40_method_2_30)
  refine own_Goes.st ?_ st4
  show own_Goes p.tables e below P (T4.setTop (mkF m 33 #[.val (.ref a), .val (.int v)] [(.ref b)]))
  refine own_Goes.st ?_ (fun _ k => XS.aloadN X4.here hx rfl (hb hby own_d_prog_40_method_2_33) rfl rfl k)
  show own_Goes p.tables e below P (T4.setTop (mkF m 34 #[.val (.ref a), .val (.int v)] [(.ref a), (.ref b)]))
  refine own_Goes.st ?_ (fun _ k => XS.dup X4.here hx rfl (hb hby own_d_prog_40_method_2_34) rfl rfl k)
  show own_Goes p.tables e below P (T4.setTop (mkF m 35 #[.val (.ref a), .val (.int v)] [(.ref a), (.ref a), (.ref b)]))
  obtain ⟨T5, X5, e5, st5⟩ := getF X4 hx hZ hown (host := "") (Or.inl (hw _ (List.mem_of_getElem? (i := 17) rfl))) Via.refl e4 pr2 (g := (mkF m 35 #[.val (.ref a), .val (.int v)] [(.ref a), (.ref a), (.ref b)])) rfl rfl (hb hby own_d_prog_40_method_2_35)
  refine own_Goes.st ?_ st5
  show own_Goes p.tables e below P (T5.setTop (mkF m 38 #[.val (.ref a), .val (.int v)] [(.int (1 : Int32)), (.ref a), (.ref b)]))
  refine own_Goes.st ?_ (fun _ k => XS.dupX1 X5.here hx rfl (hb hby own_d_prog_40_method_2_38) rfl rfl rfl k)
  show own_Goes p.tables e below P (T5.setTop (mkF m 39 #[.val (.ref a), .val (.int v)] [(.int (1 : Int32)), (.ref a), (.int (1 : Int32)), (.ref b)]))
  refine own_Goes.st ?_ (fun _ k => XS.iconst X5.here hx rfl (hb hby own_d_prog_40_method_2_39) k)
  show own_Goes p.tables e below P (T5.setTop (mkF m 40 #[.val (.ref a), .val (.int v)] [(.int (1 : Int32)), (.int (1 : Int32)), (.ref a), (.int (1 : Int32)), (.ref b)]))
  refine own_Goes.st ?_ (fun _ k => XS.iadd X5.here hx rfl (hb hby own_d_prog_40_method_2_40) rfl k)
  show own_Goes p.tables e below P (T5.setTop (mkF m 41 #[.val (.ref a), .val (.int v)] [(.int (2 : Int32)), (.ref a), (.int (1 : Int32)), (.ref b)]))
  obtain ⟨T6, h6, X6, e6, W6, st6⟩ := putF X5 hx hZ hown (host := "") (Or.inl (hw _ (List.mem_of_getElem? (i := 17) rfl))) Via.refl e5 pr2 pr0 (Or.inl (hw _ (List.mem_of_getElem? (i := 18) rfl))) (hw _ (List.mem_of_getElem? (i := 1) rfl)) (ty := .int) (by decide) rfl rfl (g := (mkF m 41 #[.val (.ref a), .val (.int v)] [(.int (2 : Int32)), (.ref a), (.int (1 : Int32)), (.ref b)])) rfl rfl (hb hby own_d_prog_40_method_2_41)
  refine own_Goes.st ?_ st6
  have F7 : Fld Z h6 a "com/example/taxodelta/taxodelta/taxonomy/IntList" "size" "I" (.int (2 : Int32)) := pr2.same W6
  have Z8 : n0 ≤ h6.size := by rw [W6.size]; exact Z0
  have K9 := K0.wr W6 (Or.inl (List.mem_of_getElem? (i := 0) rfl))
  have N10 := Fr.snoc X6 N0 pr5
  show own_Goes p.tables e below P (T6.setTop (mkF m 44 #[.val (.ref a), .val (.int v)] [(.int (1 : Int32)), (.ref b)]))
  refine own_Goes.st ?_ (fun _ k => XS.iloadN X6.here hx rfl (hb hby own_d_prog_40_method_2_44) rfl k)
  show own_Goes p.tables e below P (T6.setTop (mkF m 45 #[.val (.ref a), .val (.int v)] [(.int v), (.int (1 : Int32)), (.ref b)]))
  have F11 : Arv Z h6 b k .int (2 : Int32) [(.int x0), (.int (0 : Int32))] (.int 0) := (pr3.other W6 (Ne.symm pr7))
  have Vc12 := F11
  obtain ⟨cl12, Ar12, q12, S12, Nn12, Hs12, Gs12⟩ := Vc12
  have hin13 : ¬ ((1 : Int32) < 0 ∨ cl12.slots.size ≤ ((1 : Int32)).toNatClampNeg) := inb_of S12 ⟨by decide, by decide⟩
  obtain ⟨T13, h13, X13, e13, W13, st13⟩ := stI X6 hx hZ e6 Ar12 (j := (1 : Int32)) hin13 (g := (mkF m 45 #[.val (.ref a), .val (.int v)] [(.int v), (.int (1 : Int32)), (.ref b)])) rfl rfl (hb hby own_d_prog_40_method_2_45)
  refine own_Goes.st ?_ st13
  have V14 : Arv Z h13 b k .int (2 : Int32) [(.int x0), (.int v)] (.int 0) := Arv.set Ar12 q12 S12 Nn12 Hs12 Gs12 rfl W13 1 rfl (Nat.le_of_ble_eq_true rfl)
  have Z15 : n0 ≤ h13.size := by rw [W13.size]; exact Z8
  have K16 := K9.wr W13 (Or.inl (List.mem_of_getElem? (i := 1) rfl))
  have N17 := Fr.snoc X13 N10 pr6
  show own_Goes p.tables e below P (T13.setTop (mkF m 46 #[.val (.ref a), .val (.int v)] []))
  have F18 : Fld Z h13 a "com/example/taxodelta/taxodelta/taxonomy/IntList" "values" "[I" (.ref b) := ((pr1.other W6 (Or.inr (slot_ne (Or.inl (hw _ (List.mem_of_getElem? (i := 11) rfl))) (Or.inl (hw _ (List.mem_of_getElem? (i := 18) rfl))) (by decide) (t := (.array .int)) (t' := .int) (by decide) (by decide)))).other W13 (Or.inl pr7))
  obtain ⟨fs, hr, hrun, hended, hW, hsame⟩ := X13.leave (v := none) (fun _ => rfl)
  have F19 : Exa Z h13 a "com/example/taxodelta/taxodelta/taxonomy/IntList" := ((pr0.wr W6).wr W13)
  have F20 : Fld Z h13 a "com/example/taxodelta/taxodelta/taxonomy/IntList" "size" "I" (.int (2 : Int32)) := (F7.other W13 (Or.inl pr7))
  have F21 : Exa Z h13 b "[I" := ((pr4.wr W6).wr W13)
  exact own_Goes.fin _ _ (X13.returnOut hx Bd.returns (hb hby own_d_prog_40_method_2_46) hr) (hPP _ _ ⟨hrun, hended, _, _, rfl, (by show Q_add_1 Z a v b k x0 h0 n0 _ T13.heap _; rw [e13]; exact ⟨rfl, N17, K16, F19, F18, F20, V14, F21⟩), ⟨_, rfl⟩, hW, hsame.mono (by decide) (by decide)⟩)
theorem own_ef_copy_2_2_4 (m : MethodId) (x0 : Addr) : entryFrame m #[(.ref x0), (.int (4 : Int32))] 3 = mkF m 0 #[.val (.ref x0), .val (.int (4 : Int32)), .unset] [] := by first | (simp [entryFrame, mkF, argsToLocals, Value.category]; done) | rfl
theorem own_pn_java_util_Arrays : plainName "java/util/Arrays" = true := by first | (simp [plainName, overriddenIn]; done) | decide +kernel
theorem own_d_jdk_65_method_123_0 : decode jdk_65_method_123_code 0 = .ok (.iload_n 1, 1) := by decide +kernel
theorem own_d_jdk_65_method_123_1 : decode jdk_65_method_123_code 1 = .ok (.aload_n 0, 1) := by decide +kernel
theorem own_d_jdk_65_method_123_2 : decode jdk_65_method_123_code 2 = .ok (.arraylength, 1) := by decide +kernel
theorem own_d_jdk_65_method_123_3 : decode jdk_65_method_123_code 3 = .ok (.if_icmp .ne 11, 3) := by decide +kernel
theorem own_d_jdk_65_method_123_14 : decode jdk_65_method_123_code 14 = .ok (.iload_n 1, 1) := by decide +kernel
theorem own_d_jdk_65_method_123_15 : decode jdk_65_method_123_code 15 = .ok (.newarray .int, 2) := by decide +kernel
theorem own_d_jdk_65_method_123_17 : decode jdk_65_method_123_code 17 = .ok (.astore_n 2, 1) := by decide +kernel
theorem own_d_jdk_65_method_123_18 : decode jdk_65_method_123_code 18 = .ok (.aload_n 0, 1) := by decide +kernel
theorem own_d_jdk_65_method_123_19 : decode jdk_65_method_123_code 19 = .ok (.iconst 0, 1) := by decide +kernel
theorem own_d_jdk_65_method_123_20 : decode jdk_65_method_123_code 20 = .ok (.aload_n 2, 1) := by decide +kernel
theorem own_d_jdk_65_method_123_21 : decode jdk_65_method_123_code 21 = .ok (.iconst 0, 1) := by decide +kernel
theorem own_d_jdk_65_method_123_22 : decode jdk_65_method_123_code 22 = .ok (.aload_n 0, 1) := by decide +kernel
theorem own_d_jdk_65_method_123_23 : decode jdk_65_method_123_code 23 = .ok (.arraylength, 1) := by decide +kernel
theorem own_d_jdk_65_method_123_24 : decode jdk_65_method_123_code 24 = .ok (.iload_n 1, 1) := by decide +kernel
theorem own_pd__28_II_29_I : parseMethodDescriptor "(II)I" = some ⟨[.int, .int], some .int⟩ := by decide +kernel
theorem own_d_jdk_65_method_123_25 : decode jdk_65_method_123_code 25 = .ok (.invokestatic 304, 3) := by decide +kernel
theorem own_d_jdk_65_method_123_28 : decode jdk_65_method_123_code 28 = .ok (.invokestatic 150, 3) := by decide +kernel
theorem own_d_jdk_65_method_123_31 : decode jdk_65_method_123_code 31 = .ok (.aload_n 2, 1) := by decide +kernel
theorem own_d_jdk_65_method_123_32 : decode jdk_65_method_123_code 32 = .ok (.areturn, 1) := by decide +kernel
def Q_copy_2_2_4 (Z : State) (b : Addr) (k : ClassId) (x0 : Int32) (x1 : Int32) (h0 : Heap) (n0 : Nat) (rv_ : Option Value) (h_ : Heap) (L_ : List Loc) : Prop := ∃ (r : Addr) (q : ClassId), rv_ = some (.ref r) ∧ Fr n0 L_ ∧ Keep h0 h_ [] ∧ (h0.size ≤ r) ∧ (Arv Z h_ r q .int (4 : Int32) [(.int x0), (.int x1), (.int (0 : Int32)), (.int (0 : Int32))] (.int 0)) ∧ (Exa Z h_ r "[I")
set_option maxRecDepth 65536 in
set_option maxHeartbeats 40000000 in
theorem rm_copy_2_2_4 (l : Launch) (Z : State) (a0 : Array Value) (hw : ∀ d ∈ tables_1, d.before a0 Z = true) (ws : List Jvm.Cond) (b : Addr) (k : ClassId) (x0 : Int32) (x1 : Int32) (h0 : Heap) (n0 : Nat) (Z0 : n0 ≤ h0.size) (pr0 : Arv Z h0 b k .int (2 : Int32) [(.int x0), (.int x1)] (.int 0)) (pr1 : Exa Z h0 b "[I") :
    MetFree l (⟨"java/util/Arrays", "copyOf", "([II)[I"⟩ : MethodName) (head1 (Jvm.Cond.code (⟨"java/util/Arrays", "copyOf", "([II)[I"⟩ : MethodName) jdk_65_method_123_code 3 (some (.array .int)) :: ws) ({ frames := 1, cells := 1, slots := 4, locals := 18 } : Room)) (fun as_ U => as_ = #[(.ref b), (.int (4 : Int32))] ∧ Z.Warmed39 U.vm ∧ U.heap = h0) (fun _ _ _ _ _ => True) (fun _ U o U' => ∃ rv_ L_, o = .returned rv_ ∧ Q_copy_2_2_4 Z b k x0 x1 h0 n0 rv_ U'.heap L_ ∧ FrameEnd U o U' L_ ({ frames := 1, cells := 1, slots := 4, locals := 18 } : Room).cells ({ frames := 1, cells := 1, slots := 4, locals := 18 } : Room).slots) := by
  refine MetFree.of_bodySF (plainFor_of_name own_pn_java_util_Arrays) hisR ?_
  intro p e s m args below meth c s₁ Bd hml0 hP hK
  obtain ⟨rfl, hZ, hh⟩ := hP
  have hx := Bd.exec
  have hby := Bd.bytes
  have hml : c.maxLocals = 3 := hml0
  have hown : s.vm.findClass "java/util/Arrays" = some m.cls := findClass_of_methodNamed Bd.named
  have hnm := (name_of_methodNamed Bd.named Bd.method).1
  have X0 : Stand p l e ({ frames := 1, cells := 1, slots := 4, locals := 18 } : Room) s m #[(.ref b), (.int (4 : Int32))] below meth c s₁ [] 0 0 := Stand.of_body Bd
  have e0 : s₁.heap = h0 := by rw [← hh, Bd.state]; rfl
  have N0 := Fr.nil n0
  refine own_Goes.of ?_
  refine own_Goes.nm (fun P hPP => ?_)
  refine own_Goes.st ?_ (fun _ k => castTop (own_ef_copy_2_2_4 m b) k)
  have K0 : Keep h0 h0 [] := Keep.refl _ _
  show own_Goes p.tables e below P (s₁.setTop (mkF m 0 #[.val (.ref b), .val (.int (4 : Int32)), .unset] []))
  refine own_Goes.st ?_ (fun _ k => XS.iloadN X0.here hx rfl (hb hby own_d_jdk_65_method_123_0) rfl k)
  show own_Goes p.tables e below P (s₁.setTop (mkF m 1 #[.val (.ref b), .val (.int (4 : Int32)), .unset] [(.int (4 : Int32))]))
  refine own_Goes.st ?_ (fun _ k => XS.aloadN X0.here hx rfl (hb hby own_d_jdk_65_method_123_1) rfl rfl k)
  show own_Goes p.tables e below P (s₁.setTop (mkF m 2 #[.val (.ref b), .val (.int (4 : Int32)), .unset] [(.ref b), (.int (4 : Int32))]))
  have Vc1 := pr0
  obtain ⟨cl1, Ar1, q1, S1, Nn1, Hs1, Gs1⟩ := Vc1
  refine own_Goes.st ?_ (X0.arraylength hx (by rw [e0]; exact Ar1.1) (State.isArrayOf_alike hZ.alike Ar1.2.1) (g := (mkF m 2 #[.val (.ref b), .val (.int (4 : Int32)), .unset] [(.ref b), (.int (4 : Int32))])) rfl rfl (hb hby own_d_jdk_65_method_123_2))
  rw [len_of S1 Nn1]
  show own_Goes p.tables e below P (s₁.setTop (mkF m 3 #[.val (.ref b), .val (.int (4 : Int32)), .unset] [(.int (2 : Int32)), (.int (4 : Int32))]))
  refine own_Goes.st ?_ (fun _ k => XS.icmpYes X0.here hx rfl (pc0 := 3) (pc' := 14) rfl (hb hby own_d_jdk_65_method_123_3) rfl (feq (by decide : ¬ ((4 : Int32) = (2 : Int32)))).2 (by decide) (by decide) k)
  show own_Goes p.tables e below P (s₁.setTop (mkF m 14 #[.val (.ref b), .val (.int (4 : Int32)), .unset] []))
  refine own_Goes.st ?_ (fun _ k => XS.iloadN X0.here hx rfl (hb hby own_d_jdk_65_method_123_14) rfl k)
  show own_Goes p.tables e below P (s₁.setTop (mkF m 15 #[.val (.ref b), .val (.int (4 : Int32)), .unset] [(.int (4 : Int32))]))
  obtain ⟨T2, h2, k2, X2, e2, E2, A2, J2, st2⟩ := newPE X0 hx hZ (hw _ (List.mem_of_getElem? (i := 9) rfl)) e0 (g := (mkF m 15 #[.val (.ref b), .val (.int (4 : Int32)), .unset] [(.int (4 : Int32))])) rfl (hb hby own_d_jdk_65_method_123_15) rfl (by decide) (cap := 4) (by decide) (by decide) (by decide) (by decide) (ad := "[I") rfl
  obtain ⟨b2, g2⟩ : ∃ z, z = h0.size := ⟨_, rfl⟩
  rw [← g2] at A2 J2 st2
  have ne3 : b ≠ b2 := Nat.ne_of_lt (Nat.lt_of_lt_of_eq pr0.lt g2.symm)
  have ge_b2 : n0 ≤ b2 := Nat.le_trans Z0 (Nat.le_of_eq g2.symm)
  have sz_b2 : h0.size ≤ b2 := Nat.le_trans K0.1 (Nat.le_of_eq g2.symm)
  refine own_Goes.st ?_ st2
  have Z4 : n0 ≤ h2.size := Nat.le_trans Z0 E2.1
  have K5 := K0.ext E2
  have V6 : Arv Z h2 b2 k2 .int (4 : Int32) [(.int (0 : Int32)), (.int (0 : Int32)), (.int (0 : Int32)), (.int (0 : Int32))] (.int 0) := (Arv.new A2 (by decide)).pad (pad_rep [] _ 4)
  show own_Goes p.tables e below P (T2.setTop (mkF m 17 #[.val (.ref b), .val (.int (4 : Int32)), .unset] [(.ref b2)]))
  refine own_Goes.st ?_ (fun _ k => XS.astoreN X2.here hx rfl (hb hby own_d_jdk_65_method_123_17) rfl rfl (l' := #[.val (.ref b), .val (.int (4 : Int32)), .val (.ref b2)]) rfl k)
  show own_Goes p.tables e below P (T2.setTop (mkF m 18 #[.val (.ref b), .val (.int (4 : Int32)), .val (.ref b2)] []))
  refine own_Goes.st ?_ (fun _ k => XS.aloadN X2.here hx rfl (hb hby own_d_jdk_65_method_123_18) rfl rfl k)
  show own_Goes p.tables e below P (T2.setTop (mkF m 19 #[.val (.ref b), .val (.int (4 : Int32)), .val (.ref b2)] [(.ref b)]))
  refine own_Goes.st ?_ (fun _ k => XS.iconst X2.here hx rfl (hb hby own_d_jdk_65_method_123_19) k)
  show own_Goes p.tables e below P (T2.setTop (mkF m 20 #[.val (.ref b), .val (.int (4 : Int32)), .val (.ref b2)] [(.int (0 : Int32)), (.ref b)]))
  refine own_Goes.st ?_ (fun _ k => XS.aloadN X2.here hx rfl (hb hby own_d_jdk_65_method_123_20) rfl rfl k)
  show own_Goes p.tables e below P (T2.setTop (mkF m 21 #[.val (.ref b), .val (.int (4 : Int32)), .val (.ref b2)] [(.ref b2), (.int (0 : Int32)), (.ref b)]))
  refine own_Goes.st ?_ (fun _ k => XS.iconst X2.here hx rfl (hb hby own_d_jdk_65_method_123_21) k)
  show own_Goes p.tables e below P (T2.setTop (mkF m 22 #[.val (.ref b), .val (.int (4 : Int32)), .val (.ref b2)] [(.int (0 : Int32)), (.ref b2), (.int (0 : Int32)), (.ref b)]))
  refine own_Goes.st ?_ (fun _ k => XS.aloadN X2.here hx rfl (hb hby own_d_jdk_65_method_123_22) rfl rfl k)
  show own_Goes p.tables e below P (T2.setTop (mkF m 23 #[.val (.ref b), .val (.int (4 : Int32)), .val (.ref b2)] [(.ref b), (.int (0 : Int32)), (.ref b2), (.int (0 : Int32)), (.ref b)]))
  have F7 : Arv Z h2 b k .int (2 : Int32) [(.int x0), (.int x1)] (.int 0) := (pr0.ext E2)
  have Vc8 := F7
  obtain ⟨cl8, Ar8, q8, S8, Nn8, Hs8, Gs8⟩ := Vc8
  refine own_Goes.st ?_ (X2.arraylength hx (by rw [e2]; exact Ar8.1) (State.isArrayOf_alike hZ.alike Ar8.2.1) (g := (mkF m 23 #[.val (.ref b), .val (.int (4 : Int32)), .val (.ref b2)] [(.ref b), (.int (0 : Int32)), (.ref b2), (.int (0 : Int32)), (.ref b)])) rfl rfl (hb hby own_d_jdk_65_method_123_23))
  rw [len_of S8 Nn8]
  show own_Goes p.tables e below P (T2.setTop (mkF m 24 #[.val (.ref b), .val (.int (4 : Int32)), .val (.ref b2)] [(.int (2 : Int32)), (.int (0 : Int32)), (.ref b2), (.int (0 : Int32)), (.ref b)]))
  refine own_Goes.st ?_ (fun _ k => XS.iloadN X2.here hx rfl (hb hby own_d_jdk_65_method_123_24) rfl k)
  show own_Goes p.tables e below P (T2.setTop (mkF m 25 #[.val (.ref b), .val (.int (4 : Int32)), .val (.ref b2)] [(.int (4 : Int32)), (.int (2 : Int32)), (.int (0 : Int32)), (.ref b2), (.int (0 : Int32)), (.ref b)]))
  obtain ⟨_, _, ⟨T9, L9, k9, n9⟩, -, X9, ⟨Lc9, hQ9, l9, y9, z9⟩, st9⟩ := Jvm.LawKit.callS X2 hx (y := (⟨"java/lang/Math", "min", "(II)I"⟩ : MethodName)) hown (mvT hZ (hw _ (List.mem_of_getElem? (i := 23) rfl))) (mvT hZ (hw _ (List.mem_of_getElem? (i := 24) rfl))) (mvT hZ (hw _ (List.mem_of_getElem? (i := 25) rfl))) (mvT hZ (hw _ (List.mem_of_getElem? (i := 26) rfl))) (by decide) (backOf (W := 4) (rm_imin l Z a0 hw [] (2 : Int32) (4 : Int32) h2 n0 Z4) hZ (hw _ (List.mem_of_getElem? (i := 26) rfl)) (hw _ (List.mem_of_getElem? (i := 25) rfl)) (by decide) (by decide)) (g := (mkF m 25 #[.val (.ref b), .val (.int (4 : Int32)), .val (.ref b2)] [(.int (4 : Int32)), (.int (2 : Int32)), (.int (0 : Int32)), (.ref b2), (.int (0 : Int32)), (.ref b)])) rfl (by rw [hml]; rfl) (argsL := [(.int (2 : Int32)), (.int (4 : Int32))]) (rest := [(.int (0 : Int32)), (.ref b2), (.int (0 : Int32)), (.ref b)]) (lenOf own_pd__28_II_29_I rfl) rfl (by show 2 * 0 + _ ≤ _; exact Nat.le_of_eq rfl) (hb hby own_d_jdk_65_method_123_25) (fun _ _ => ⟨rfl, e2, (by decide : 1 + 0 ≤ _), (by decide : 4 + 0 ≤ _)⟩)
  dsimp only [Pt.U, Pt.locs, Pt.cells, Pt.slots] at X9 l9 y9 z9 st9 hQ9
  subst l9 y9 z9
  obtain ⟨rfl, Nq9, e9⟩ := hQ9
  have N9 := Fr.app N0 Nq9
  refine own_Goes.st ?_ st9
  show own_Goes p.tables e below P (T9.setTop (mkF m 28 #[.val (.ref b), .val (.int (4 : Int32)), .val (.ref b2)] [(.int (own_imin (2 : Int32) (4 : Int32))), (.int (0 : Int32)), (.ref b2), (.int (0 : Int32)), (.ref b)]))
  rw [(rfl : own_imin (2 : Int32) (4 : Int32) = (2 : Int32))]
  show own_Goes p.tables e below P (T9.setTop (mkF m 28 #[.val (.ref b), .val (.int (4 : Int32)), .val (.ref b2)] [(.int (2 : Int32)), (.int (0 : Int32)), (.ref b2), (.int (0 : Int32)), (.ref b)]))
  obtain ⟨T10, h10, L10, X10, e10, N10, K10, V10, st10⟩ := cpA X9 hx hZ hown (hw _ (List.mem_of_getElem? (i := 27) rfl)) (hw _ (List.mem_of_getElem? (i := 30) rfl)) (hw _ (List.mem_of_getElem? (i := 28) rfl)) (hw _ (List.mem_of_getElem? (i := 29) rfl)) e9 (sp := (0 : Int32)) (dp := (0 : Int32)) (nn := (2 : Int32)) (us := [(.int x0), (.int x1)]) F7 V6 (Or.inl ⟨rfl, rfl⟩) (by decide) (by decide) (by decide) (by decide) (by decide) rfl (by decide) N9 ge_b2 (g := (mkF m 28 #[.val (.ref b), .val (.int (4 : Int32)), .val (.ref b2)] [(.int (2 : Int32)), (.int (0 : Int32)), (.ref b2), (.int (0 : Int32)), (.ref b)])) rfl (by rw [hml]; rfl) rfl (hb hby own_d_jdk_65_method_123_28) (by decide) (W := 0) (by show 2 * 0 + _ ≤ _; exact Nat.le_of_eq rfl) (by decide)
  refine own_Goes.st ?_ st10
  have V11 : Arv Z h10 b2 k2 .int (4 : Int32) [(.int x0), (.int x1), (.int (0 : Int32)), (.int (0 : Int32))] (.int 0) := V10
  have Z12 : n0 ≤ h10.size := Nat.le_trans Z4 K10.1
  have K13 := K5.trans K10 (allS (Or.inr sz_b2) all0)
  show own_Goes p.tables e below P (T10.setTop (mkF m 31 #[.val (.ref b), .val (.int (4 : Int32)), .val (.ref b2)] []))
  refine own_Goes.st ?_ (fun _ k => XS.aloadN X10.here hx rfl (hb hby own_d_jdk_65_method_123_31) rfl rfl k)
  show own_Goes p.tables e below P (T10.setTop (mkF m 32 #[.val (.ref b), .val (.int (4 : Int32)), .val (.ref b2)] [(.ref b2)]))
  obtain ⟨fs, hr, hrun, hended, hW, hsame⟩ := X10.leave (v := some (.ref b2)) (fun h => by rw [Bd.returns] at h; cases h)
  have F14 : Exa Z h10 b2 "[I" := (J2.keep K10)
  exact own_Goes.fin _ _ (retOut X10 hx (t := (.array .int)) Bd.returns rfl (Or.inr (Or.inr (Or.inr (Or.inr ⟨rfl, rfl, rfl⟩)))) (hb hby own_d_jdk_65_method_123_32) hr) (hPP _ _ ⟨hrun, hended, _, _, rfl, (by show Q_copy_2_2_4 Z b k x0 x1 h0 n0 _ T10.heap _; rw [e10]; exact ⟨b2, k2, rfl, N10, K13, sz_b2, V11, F14⟩), ⟨_, rfl⟩, hW, hsame.mono (by decide) (by decide)⟩)
theorem own_ef_add_2 (m : MethodId) (x0 : Addr) (x1 : Int32) : entryFrame m #[(.ref x0), (.int x1)] 2 = mkF m 0 #[.val (.ref x0), .val (.int x1)] [] := by first | (simp [entryFrame, mkF, argsToLocals, Value.category]; done) | rfl
theorem own_d_prog_40_method_2_12 : decode prog_40_method_2_code 12 = .ok (.aload_n 0, 1) := by decide +kernel
theorem own_d_prog_40_method_2_13 : decode prog_40_method_2_code 13 = .ok (.aload_n 0, 1) := by decide +kernel
theorem own_d_prog_40_method_2_14 : decode prog_40_method_2_code 14 = .ok (.getfield 7, 3) := by decide +kernel
theorem own_d_prog_40_method_2_17 : decode prog_40_method_2_code 17 = .ok (.aload_n 0, 1) := by decide +kernel
theorem own_d_prog_40_method_2_18 : decode prog_40_method_2_code 18 = .ok (.getfield 13, 3) := by decide +kernel
theorem own_d_prog_40_method_2_21 : decode prog_40_method_2_code 21 = .ok (.iconst 2, 1) := by decide +kernel
theorem own_d_prog_40_method_2_22 : decode prog_40_method_2_code 22 = .ok (.imul, 1) := by decide +kernel
theorem own_pd__28__5b_II_29__5b_I : parseMethodDescriptor "([II)[I" = some ⟨[(.array .int), .int], some (.array .int)⟩ := by decide +kernel
theorem own_d_prog_40_method_2_23 : decode prog_40_method_2_code 23 = .ok (.invokestatic 17, 3) := by decide +kernel
theorem own_d_prog_40_method_2_26 : decode prog_40_method_2_code 26 = .ok (.putfield 7, 3) := by decide +kernel
def Q_add_2 (Z : State) (a : Addr) (v : Int32) (b : Addr) (k : ClassId) (x0 : Int32) (x1 : Int32) (h0 : Heap) (n0 : Nat) (rv_ : Option Value) (h_ : Heap) (L_ : List Loc) : Prop := ∃ (b2 : Addr) (k2 : ClassId), rv_ = none ∧ Fr n0 L_ ∧ Keep h0 h_ [a, b] ∧ (Exa Z h_ a "com/example/taxodelta/taxodelta/taxonomy/IntList") ∧ (Fld Z h_ a "com/example/taxodelta/taxodelta/taxonomy/IntList" "values" "[I" (.ref b2)) ∧ (Fld Z h_ a "com/example/taxodelta/taxodelta/taxonomy/IntList" "size" "I" (.int (3 : Int32))) ∧ (h0.size ≤ b2) ∧ (Arv Z h_ b2 k2 .int (4 : Int32) [(.int x0), (.int x1), (.int v), (.int (0 : Int32))] (.int 0)) ∧ (Exa Z h_ b2 "[I")
set_option maxRecDepth 65536 in
set_option maxHeartbeats 40000000 in
theorem rm_add_2 (l : Launch) (Z : State) (a0 : Array Value) (hw : ∀ d ∈ tables_1, d.before a0 Z = true) (ws : List Jvm.Cond) (a : Addr) (v : Int32) (b : Addr) (k : ClassId) (x0 : Int32) (x1 : Int32) (h0 : Heap) (n0 : Nat) (Z0 : n0 ≤ h0.size) (pr0 : Exa Z h0 a "com/example/taxodelta/taxodelta/taxonomy/IntList") (pr1 : Fld Z h0 a "com/example/taxodelta/taxodelta/taxonomy/IntList" "values" "[I" (.ref b)) (pr2 : Fld Z h0 a "com/example/taxodelta/taxodelta/taxonomy/IntList" "size" "I" (.int (2 : Int32))) (pr3 : Arv Z h0 b k .int (2 : Int32) [(.int x0), (.int x1)] (.int 0)) (pr4 : Exa Z h0 b "[I") (pr5 : n0 ≤ a) (pr6 : n0 ≤ b) (pr7 : a ≠ b) :
    MetFree l (⟨"com/example/taxodelta/taxodelta/taxonomy/IntList", "add", "(I)V"⟩ : MethodName) (head1 (Jvm.Cond.code (⟨"com/example/taxodelta/taxodelta/taxonomy/IntList", "add", "(I)V"⟩ : MethodName) prog_40_method_2_code 2 none :: ws) ({ frames := 2, cells := 1, slots := 4, locals := 33 } : Room)) (fun as_ U => as_ = #[(.ref a), (.int v)] ∧ Z.Warmed39 U.vm ∧ U.heap = h0) (fun _ _ _ _ _ => True) (fun _ U o U' => ∃ rv_ L_, o = .returned rv_ ∧ Q_add_2 Z a v b k x0 x1 h0 n0 rv_ U'.heap L_ ∧ FrameEnd U o U' L_ ({ frames := 2, cells := 1, slots := 4, locals := 33 } : Room).cells ({ frames := 2, cells := 1, slots := 4, locals := 33 } : Room).slots) := by
  refine MetFree.of_bodySF (plainFor_of_name own_pn_com_example_taxodelta_taxodelta_taxonomy_IntList) hisR ?_
  intro p e s m args below meth c s₁ Bd hml0 hP hK
  obtain ⟨rfl, hZ, hh⟩ := hP
  have hx := Bd.exec
  have hby := Bd.bytes
  have hml : c.maxLocals = 2 := hml0
  have hown : s.vm.findClass "com/example/taxodelta/taxodelta/taxonomy/IntList" = some m.cls := findClass_of_methodNamed Bd.named
  have hnm := (name_of_methodNamed Bd.named Bd.method).1
  have X0 : Stand p l e ({ frames := 2, cells := 1, slots := 4, locals := 33 } : Room) s m #[(.ref a), (.int v)] below meth c s₁ [] 0 0 := Stand.of_body Bd
  have e0 : s₁.heap = h0 := by rw [← hh, Bd.state]; rfl
  have N0 := Fr.nil n0
  refine own_Goes.of ?_
  refine own_Goes.nm (fun P hPP => ?_)
  refine own_Goes.st ?_ (fun _ k => castTop (own_ef_add_2 m a v) k)
  have K0 : Keep h0 h0 [a, b] := Keep.refl _ _
  show own_Goes p.tables e below P (s₁.setTop (mkF m 0 #[.val (.ref a), .val (.int v)] []))
  refine own_Goes.st ?_ (fun _ k => XS.aloadN X0.here hx rfl (hb hby own_d_prog_40_method_2_0) rfl rfl k)
  show own_Goes p.tables e below P (s₁.setTop (mkF m 1 #[.val (.ref a), .val (.int v)] [(.ref a)]))
  obtain ⟨T1, X1, e1, st1⟩ := getF X0 hx hZ hown (host := "") (Or.inl (hw _ (List.mem_of_getElem? (i := 17) rfl))) Via.refl e0 pr2 (g := (mkF m 1 #[.val (.ref a), .val (.int v)] [(.ref a)])) rfl rfl (hb hby own_d_prog_40_method_2_1)
  refine own_Goes.st ?_ st1
  show own_Goes p.tables e below P (T1.setTop (mkF m 4 #[.val (.ref a), .val (.int v)] [(.int (2 : Int32))]))
  refine own_Goes.st ?_ (fun _ k => XS.aloadN X1.here hx rfl (hb hby own_d_prog_40_method_2_4) rfl rfl k)
  show own_Goes p.tables e below P (T1.setTop (mkF m 5 #[.val (.ref a), .val (.int v)] [(.ref a), (.int (2 : Int32))]))
  obtain ⟨T2, X2, e2, st2⟩ := getF X1 hx hZ hown (host := "") (Or.inl (hw _ (List.mem_of_getElem? (i := 10) rfl))) Via.refl e1 pr1 (g := (mkF m 5 #[.val (.ref a), .val (.int v)] [(.ref a), (.int (2 : Int32))])) rfl rfl (hb hby own_d_prog_40_method_2_5)
  refine own_Goes.st ?_ st2
  show own_Goes p.tables e below P (T2.setTop (mkF m 8 #[.val (.ref a), .val (.int v)] [(.ref b), (.int (2 : Int32))]))
  have Vc3 := pr3
  obtain ⟨cl3, Ar3, q3, S3, Nn3, Hs3, Gs3⟩ := Vc3
  refine own_Goes.st ?_ (X2.arraylength hx (by rw [e2]; exact Ar3.1) (State.isArrayOf_alike hZ.alike Ar3.2.1) (g := (mkF m 8 #[.val (.ref a), .val (.int v)] [(.ref b), (.int (2 : Int32))])) rfl rfl (hb hby own_d_prog_40_method_2_8))
  rw [len_of S3 Nn3]
  show own_Goes p.tables e below P (T2.setTop (mkF m 9 #[.val (.ref a), .val (.int v)] [(.int (2 : Int32)), (.int (2 : Int32))]))
  refine own_Goes.st ?_ (fun _ k => XS.icmpNo X2.here hx rfl (hb hby own_d_prog_40_method_2_9) rfl (teq (by decide : (2 : Int32) = (2 : Int32))).2 k)
  show own_Goes p.tables e below P (T2.setTop (mkF m 12 #[.val (.ref a), .val (.int v)] []))
  refine own_Goes.st ?_ (fun _ k => XS.aloadN X2.here hx rfl (hb hby own_d_prog_40_method_2_12) rfl rfl k)
  show own_Goes p.tables e below P (T2.setTop (mkF m 13 #[.val (.ref a), .val (.int v)] [(.ref a)]))
  refine own_Goes.st ?_ (fun _ k => XS.aloadN X2.here hx rfl (hb hby own_d_prog_40_method_2_13) rfl rfl k)
  show own_Goes p.tables e below P (T2.setTop (mkF m 14 #[.val (.ref a), .val (.int v)] [(.ref a), (.ref a)]))
  obtain ⟨T4, X4, e4, st4⟩ := getF X2 hx hZ hown (host := "") (Or.inl (hw _ (List.mem_of_getElem? (i := 10) rfl))) Via.refl e2 pr1 (g := (mkF m 14 #[.val (.ref a), .val (.int v)] [(.ref a), (.ref a)])) rfl rfl (hb hby own_d_prog_40_method_2_14)
  refine own_Goes.st ?_ st4
  show own_Goes p.tables e below P (T4.setTop (mkF m 17 #[.val (.ref a), .val (.int v)] [(.ref b), (.ref a)]))
  refine own_Goes.st ?_ (fun _ k => XS.aloadN X4.here hx rfl (hb hby own_d_prog_40_method_2_17) rfl rfl k)
  show own_Goes p.tables e below P (T4.setTop (mkF m 18 #[.val (.ref a), .val (.int v)] [(.ref a), (.ref b), (.ref a)]))
  obtain ⟨T5, X5, e5, st5⟩ := getF X4 hx hZ hown (host := "") (Or.inl (hw _ (List.mem_of_getElem? (i := 17) rfl))) Via.refl e4 pr2 (g := (mkF m 18 #[.val (.ref a), .val (.int v)] [(.ref a), (.ref b), (.ref a)])) rfl rfl (hb hby own_d_prog_40_method_2_18)
  refine own_Goes.st ?_ st5
  show own_Goes p.tables e below P (T5.setTop (mkF m 21 #[.val (.ref a), .val (.int v)] [(.int (2 : Int32)), (.ref b), (.ref a)]))
  refine own_Goes.st ?_ (fun _ k => XS.iconst X5.here hx rfl (hb hby own_d_prog_40_method_2_21) k)
  show own_Goes p.tables e below P (T5.setTop (mkF m 22 #[.val (.ref a), .val (.int v)] [(.int (2 : Int32)), (.int (2 : Int32)), (.ref b), (.ref a)]))
  refine own_Goes.st ?_ (fun _ k => XS.imul X5.here hx rfl (hb hby own_d_prog_40_method_2_22) rfl k)
  show own_Goes p.tables e below P (T5.setTop (mkF m 23 #[.val (.ref a), .val (.int v)] [(.int (4 : Int32)), (.ref b), (.ref a)]))
  obtain ⟨_, _, ⟨T6, L6, k6, n6⟩, -, X6, ⟨Lc6, hQ6, l6, y6, z6⟩, st6⟩ := Jvm.LawKit.callS X5 hx (y := (⟨"java/util/Arrays", "copyOf", "([II)[I"⟩ : MethodName)) hown (mvT hZ (hw _ (List.mem_of_getElem? (i := 19) rfl))) (mvT hZ (hw _ (List.mem_of_getElem? (i := 20) rfl))) (mvT hZ (hw _ (List.mem_of_getElem? (i := 21) rfl))) (mvT hZ (hw _ (List.mem_of_getElem? (i := 22) rfl))) (by decide) (backOf (W := 1) (rm_copy_2_2_4 l Z a0 hw [] b k x0 x1 h0 n0 Z0 pr3 pr4) hZ (hw _ (List.mem_of_getElem? (i := 22) rfl)) (hw _ (List.mem_of_getElem? (i := 21) rfl)) (by decide) (by decide)) (g := (mkF m 23 #[.val (.ref a), .val (.int v)] [(.int (4 : Int32)), (.ref b), (.ref a)])) rfl (by rw [hml]; rfl) (argsL := [(.ref b), (.int (4 : Int32))]) (rest := [(.ref a)]) (lenOf own_pd__28__5b_II_29__5b_I rfl) rfl (by show 2 * 0 + _ ≤ _; exact Nat.le_of_eq rfl) (hb hby own_d_prog_40_method_2_23) (fun _ _ => ⟨rfl, e5, (by decide : 0 + 1 ≤ _), (by decide : 0 + 4 ≤ _)⟩)
  dsimp only [Pt.U, Pt.locs, Pt.cells, Pt.slots] at X6 l6 y6 z6 st6 hQ6
  subst l6 y6 z6
  obtain ⟨r6, q6, rfl, Nq6, K6, f7, f8, f9⟩ := hQ6
  have N6 := Fr.app N0 Nq6
  refine own_Goes.st ?_ st6
  have ne10 : a ≠ r6 := Nat.ne_of_lt (Nat.lt_of_lt_of_le pr0.lt f7)
  have ne11 : b ≠ r6 := Nat.ne_of_lt (Nat.lt_of_lt_of_le pr3.lt f7)
  have ge_r6 : n0 ≤ r6 := Nat.le_trans Z0 f7
  have sz_r6 : h0.size ≤ r6 := Nat.le_trans K0.1 f7
  have Z12 : n0 ≤ T6.heap.size := Nat.le_trans Z0 K6.1
  have K13 := K0.trans K6 all0
  show own_Goes p.tables e below P (T6.setTop (mkF m 26 #[.val (.ref a), .val (.int v)] [(.ref r6), (.ref a)]))
  have F14 : Fld Z T6.heap a "com/example/taxodelta/taxodelta/taxonomy/IntList" "values" "[I" (.ref b) := (pr1.keep K6 nin0)
  have F15 : Exa Z T6.heap a "com/example/taxodelta/taxodelta/taxonomy/IntList" := (pr0.keep K6)
  obtain ⟨T16, h16, X16, e16, W16, st16⟩ := putF X6 hx hZ hown (host := "") (Or.inl (hw _ (List.mem_of_getElem? (i := 10) rfl))) Via.refl rfl F14 F15 (Or.inl (hw _ (List.mem_of_getElem? (i := 11) rfl))) (hw _ (List.mem_of_getElem? (i := 1) rfl)) (ty := (.array .int)) (by decide) rfl rfl (g := (mkF m 26 #[.val (.ref a), .val (.int v)] [(.ref r6), (.ref a)])) rfl rfl (hb hby own_d_prog_40_method_2_26)
  refine own_Goes.st ?_ st16
  have F17 : Fld Z h16 a "com/example/taxodelta/taxodelta/taxonomy/IntList" "values" "[I" (.ref r6) := F14.same W16
  have Z18 : n0 ≤ h16.size := by rw [W16.size]; exact Z12
  have K19 := K13.wr W16 (Or.inl (List.mem_of_getElem? (i := 0) rfl))
  have N20 := Fr.snoc X16 N6 pr5
  show own_Goes p.tables e below P (T16.setTop (mkF m 29 #[.val (.ref a), .val (.int v)] []))
  refine own_Goes.st ?_ (fun _ k => XS.aloadN X16.here hx rfl (hb hby own_d_prog_40_method_2_29) rfl rfl k)
  show own_Goes p.tables e below P (T16.setTop (mkF m 30 #[.val (.ref a), .val (.int v)] [(.ref a)]))
  obtain ⟨T21, X21, e21, st21⟩ := getF X16 hx hZ hown (host := "") (Or.inl (hw _ (List.mem_of_getElem? (i := 10) rfl))) Via.refl e16 F17 (g := (mkF m 30 #[.val (.ref a), .val (.int v)] [(.ref a)])) rfl rfl (hb hby own_d_prog_40_method_2_30)
  refine own_Goes.st ?_ st21
  show own_Goes p.tables e below P (T21.setTop (mkF m 33 #[.val (.ref a), .val (.int v)] [(.ref r6)]))
  refine own_Goes.st ?_ (fun _ k => XS.aloadN X21.here hx rfl (hb hby own_d_prog_40_method_2_33) rfl rfl k)
  show own_Goes p.tables e below P (T21.setTop (mkF m 34 #[.val (.ref a), .val (.int v)] [(.ref a), (.ref r6)]))
  refine own_Goes.st ?_ (fun _ k => XS.dup X21.here hx rfl (hb hby own_d_prog_40_method_2_34) rfl rfl k)
  show own_Goes p.tables e below P (T21.setTop (mkF m 35 #[.val (.ref a), .val (.int v)] [(.ref a), (.ref a), (.ref r6)]))
  have F22 : Fld Z h16 a "com/example/taxodelta/taxodelta/taxonomy/IntList" "size" "I" (.int (2 : Int32)) := ((pr2.keep K6 nin0).other W16 (Or.inr (slot_ne (Or.inl (hw _ (List.mem_of_getElem? (i := 18) rfl))) (Or.inl (hw _ (List.mem_of_getElem? (i := 11) rfl))) (by decide) (t := .int) (t' := (.array .int)) (by decide) (by decide))))
  obtain ⟨T23, X23, e23, st23⟩ := getF X21 hx hZ hown (host := "") (Or.inl (hw _ (List.mem_of_getElem? (i := 17) rfl))) Via.refl e21 F22 (g := (mkF m 35 #[.val (.ref a), .val (.int v)] [(.ref a), (.ref a), (.ref r6)])) rfl rfl (hb hby own_d_prog_40_method_2_35)
  refine own_Goes.st ?_ st23
  show own_Goes p.tables e below P (T23.setTop (mkF m 38 #[.val (.ref a), .val (.int v)] [(.int (2 : Int32)), (.ref a), (.ref r6)]))
  refine own_Goes.st ?_ (fun _ k => XS.dupX1 X23.here hx rfl (hb hby own_d_prog_40_method_2_38) rfl rfl rfl k)
  show own_Goes p.tables e below P (T23.setTop (mkF m 39 #[.val (.ref a), .val (.int v)] [(.int (2 : Int32)), (.ref a), (.int (2 : Int32)), (.ref r6)]))
  refine own_Goes.st ?_ (fun _ k => XS.iconst X23.here hx rfl (hb hby own_d_prog_40_method_2_39) k)
  show own_Goes p.tables e below P (T23.setTop (mkF m 40 #[.val (.ref a), .val (.int v)] [(.int (1 : Int32)), (.int (2 : Int32)), (.ref a), (.int (2 : Int32)), (.ref r6)]))
  refine own_Goes.st ?_ (fun _ k => XS.iadd X23.here hx rfl (hb hby own_d_prog_40_method_2_40) rfl k)
  show own_Goes p.tables e below P (T23.setTop (mkF m 41 #[.val (.ref a), .val (.int v)] [(.int (3 : Int32)), (.ref a), (.int (2 : Int32)), (.ref r6)]))
  have F24 : Exa Z h16 a "com/example/taxodelta/taxodelta/taxonomy/IntList" := (F15.wr W16)
  obtain ⟨T25, h25, X25, e25, W25, st25⟩ := putF X23 hx hZ hown (host := "") (Or.inl (hw _ (List.mem_of_getElem? (i := 17) rfl))) Via.refl e23 F22 F24 (Or.inl (hw _ (List.mem_of_getElem? (i := 18) rfl))) (hw _ (List.mem_of_getElem? (i := 1) rfl)) (ty := .int) (by decide) rfl rfl (g := (mkF m 41 #[.val (.ref a), .val (.int v)] [(.int (3 : Int32)), (.ref a), (.int (2 : Int32)), (.ref r6)])) rfl rfl (hb hby own_d_prog_40_method_2_41)
  refine own_Goes.st ?_ st25
  have F26 : Fld Z h25 a "com/example/taxodelta/taxodelta/taxonomy/IntList" "size" "I" (.int (3 : Int32)) := F22.same W25
  have Z27 : n0 ≤ h25.size := by rw [W25.size]; exact Z18
  have K28 := K19.wr W25 (Or.inl (List.mem_of_getElem? (i := 0) rfl))
  have N29 := Fr.snoc X25 N20 pr5
  show own_Goes p.tables e below P (T25.setTop (mkF m 44 #[.val (.ref a), .val (.int v)] [(.int (2 : Int32)), (.ref r6)]))
  refine own_Goes.st ?_ (fun _ k => XS.iloadN X25.here hx rfl (hb hby own_d_prog_40_method_2_44) rfl k)
  show own_Goes p.tables e below P (T25.setTop (mkF m 45 #[.val (.ref a), .val (.int v)] [(.int v), (.int (2 : Int32)), (.ref r6)]))
  have F30 : Arv Z h25 r6 q6 .int (4 : Int32) [(.int x0), (.int x1), (.int (0 : Int32)), (.int (0 : Int32))] (.int 0) := ((f8.other W16 (Ne.symm ne10)).other W25 (Ne.symm ne10))
  have Vc31 := F30
  obtain ⟨cl31, Ar31, q31, S31, Nn31, Hs31, Gs31⟩ := Vc31
  have hin32 : ¬ ((2 : Int32) < 0 ∨ cl31.slots.size ≤ ((2 : Int32)).toNatClampNeg) := inb_of S31 ⟨by decide, by decide⟩
  obtain ⟨T32, h32, X32, e32, W32, st32⟩ := stI X25 hx hZ e25 Ar31 (j := (2 : Int32)) hin32 (g := (mkF m 45 #[.val (.ref a), .val (.int v)] [(.int v), (.int (2 : Int32)), (.ref r6)])) rfl rfl (hb hby own_d_prog_40_method_2_45)
  refine own_Goes.st ?_ st32
  have V33 : Arv Z h32 r6 q6 .int (4 : Int32) [(.int x0), (.int x1), (.int v), (.int (0 : Int32))] (.int 0) := Arv.set Ar31 q31 S31 Nn31 Hs31 Gs31 rfl W32 2 rfl (Nat.le_of_ble_eq_true rfl)
  have Z34 : n0 ≤ h32.size := by rw [W32.size]; exact Z27
  have K35 := K28.wr W32 (Or.inr sz_r6)
  have N36 := Fr.snoc X32 N29 ge_r6
  show own_Goes p.tables e below P (T32.setTop (mkF m 46 #[.val (.ref a), .val (.int v)] []))
  have F37 : Fld Z h32 a "com/example/taxodelta/taxodelta/taxonomy/IntList" "values" "[I" (.ref r6) := ((F17.other W25 (Or.inr (slot_ne (Or.inl (hw _ (List.mem_of_getElem? (i := 11) rfl))) (Or.inl (hw _ (List.mem_of_getElem? (i := 18) rfl))) (by decide) (t := (.array .int)) (t' := .int) (by decide) (by decide)))).other W32 (Or.inl ne10))
  obtain ⟨fs, hr, hrun, hended, hW, hsame⟩ := X32.leave (v := none) (fun _ => rfl)
  have F38 : Exa Z h32 a "com/example/taxodelta/taxodelta/taxonomy/IntList" := ((F24.wr W25).wr W32)
  have F39 : Fld Z h32 a "com/example/taxodelta/taxodelta/taxonomy/IntList" "size" "I" (.int (3 : Int32)) := (F26.other W32 (Or.inl ne10))
  have F40 : Exa Z h32 r6 "[I" := (((f9.wr W16).wr W25).wr W32)
  exact own_Goes.fin _ _ (X32.returnOut hx Bd.returns (hb hby own_d_prog_40_method_2_46) hr) (hPP _ _ ⟨hrun, hended, _, _, rfl, (by show Q_add_2 Z a v b k x0 x1 h0 n0 _ T32.heap _; rw [e32]; exact ⟨r6, q6, rfl, N36, K35, F38, F37, F39, sz_r6, V33, F40⟩), ⟨_, rfl⟩, hW, hsame.mono (by decide) (by decide)⟩)
theorem own_ef_add_3 (m : MethodId) (x0 : Addr) (x1 : Int32) : entryFrame m #[(.ref x0), (.int x1)] 2 = mkF m 0 #[.val (.ref x0), .val (.int x1)] [] := by first | (simp [entryFrame, mkF, argsToLocals, Value.category]; done) | rfl
def Q_add_3 (Z : State) (a : Addr) (v : Int32) (b : Addr) (k : ClassId) (x0 : Int32) (x1 : Int32) (x2 : Int32) (h0 : Heap) (n0 : Nat) (rv_ : Option Value) (h_ : Heap) (L_ : List Loc) : Prop := rv_ = none ∧ Fr n0 L_ ∧ Keep h0 h_ [a, b] ∧ (Exa Z h_ a "com/example/taxodelta/taxodelta/taxonomy/IntList") ∧ (Fld Z h_ a "com/example/taxodelta/taxodelta/taxonomy/IntList" "values" "[I" (.ref b)) ∧ (Fld Z h_ a "com/example/taxodelta/taxodelta/taxonomy/IntList" "size" "I" (.int (4 : Int32))) ∧ (Arv Z h_ b k .int (4 : Int32) [(.int x0), (.int x1), (.int x2), (.int v)] (.int 0)) ∧ (Exa Z h_ b "[I")
set_option maxRecDepth 65536 in
set_option maxHeartbeats 40000000 in
theorem rm_add_3 (l : Launch) (Z : State) (a0 : Array Value) (hw : ∀ d ∈ tables_1, d.before a0 Z = true) (ws : List Jvm.Cond) (a : Addr) (v : Int32) (b : Addr) (k : ClassId) (x0 : Int32) (x1 : Int32) (x2 : Int32) (h0 : Heap) (n0 : Nat) (Z0 : n0 ≤ h0.size) (pr0 : Exa Z h0 a "com/example/taxodelta/taxodelta/taxonomy/IntList") (pr1 : Fld Z h0 a "com/example/taxodelta/taxodelta/taxonomy/IntList" "values" "[I" (.ref b)) (pr2 : Fld Z h0 a "com/example/taxodelta/taxodelta/taxonomy/IntList" "size" "I" (.int (3 : Int32))) (pr3 : Arv Z h0 b k .int (4 : Int32) [(.int x0), (.int x1), (.int x2), (.int (0 : Int32))] (.int 0)) (pr4 : Exa Z h0 b "[I") (pr5 : n0 ≤ a) (pr6 : n0 ≤ b) (pr7 : a ≠ b) :
    MetFree l (⟨"com/example/taxodelta/taxodelta/taxonomy/IntList", "add", "(I)V"⟩ : MethodName) (head1 (Jvm.Cond.code (⟨"com/example/taxodelta/taxodelta/taxonomy/IntList", "add", "(I)V"⟩ : MethodName) prog_40_method_2_code 2 none :: ws) ({ frames := 0, cells := 0, slots := 0, locals := 0 } : Room)) (fun as_ U => as_ = #[(.ref a), (.int v)] ∧ Z.Warmed39 U.vm ∧ U.heap = h0) (fun _ _ _ _ _ => True) (fun _ U o U' => ∃ rv_ L_, o = .returned rv_ ∧ Q_add_3 Z a v b k x0 x1 x2 h0 n0 rv_ U'.heap L_ ∧ FrameEnd U o U' L_ ({ frames := 0, cells := 0, slots := 0, locals := 0 } : Room).cells ({ frames := 0, cells := 0, slots := 0, locals := 0 } : Room).slots) := by
  refine MetFree.of_bodySF (plainFor_of_name own_pn_com_example_taxodelta_taxodelta_taxonomy_IntList) hisR ?_
  intro p e s m args below meth c s₁ Bd hml0 hP hK
  obtain ⟨rfl, hZ, hh⟩ := hP
  have hx := Bd.exec
  have hby := Bd.bytes
  have hml : c.maxLocals = 2 := hml0
  have hown : s.vm.findClass "com/example/taxodelta/taxodelta/taxonomy/IntList" = some m.cls := findClass_of_methodNamed Bd.named
  have hnm := (name_of_methodNamed Bd.named Bd.method).1
  have X0 : Stand p l e ({ frames := 0, cells := 0, slots := 0, locals := 0 } : Room) s m #[(.ref a), (.int v)] below meth c s₁ [] 0 0 := Stand.of_body Bd
  have e0 : s₁.heap = h0 := by rw [← hh, Bd.state]; rfl
  have N0 := Fr.nil n0
  refine own_Goes.of ?_
  refine own_Goes.nm (fun P hPP => ?_)
  refine own_Goes.st ?_ (fun _ k => castTop (own_ef_add_3 m a v) k)
  have K0 : Keep h0 h0 [a, b] := Keep.refl _ _
  show own_Goes p.tables e below P (s₁.setTop (mkF m 0 #[.val (.ref a), .val (.int v)] []))
  refine own_Goes.st ?_ (fun _ k => XS.aloadN X0.here hx rfl (hb hby own_d_prog_40_method_2_0) rfl rfl k)
  show own_Goes p.tables e below P (s₁.setTop (mkF m 1 #[.val (.ref a), .val (.int v)] [(.ref a)]))
  obtain ⟨T1, X1, e1, st1⟩ := getF X0 hx hZ hown (host := "") (Or.inl (hw _ (List.mem_of_getElem? (i := 17) rfl))) Via.refl e0 pr2 (g := (mkF m 1 #[.val (.ref a), .val (.int v)] [(.ref a)])) rfl rfl (hb hby own_d_prog_40_method_2_1)
  refine own_Goes.st ?_ st1
  show own_Goes p.tables e below P (T1.setTop (mkF m 4 #[.val (.ref a), .val (.int v)] [(.int (3 : Int32))]))
  refine own_Goes.st ?_ (fun _ k => XS.aloadN X1.here hx rfl (hb hby own_d_prog_40_method_2_4) rfl rfl k)
  show own_Goes p.tables e below P (T1.setTop (mkF m 5 #[.val (.ref a), .val (.int v)] [(.ref a), (.int (3 : Int32))]))
  obtain ⟨T2, X2, e2, st2⟩ := getF X1 hx hZ hown (host := "") (Or.inl (hw _ (List.mem_of_getElem? (i := 10) rfl))) Via.refl e1 pr1 (g := (mkF m 5 #[.val (.ref a), .val (.int v)] [(.ref a), (.int (3 : Int32))])) rfl rfl (hb hby own_d_prog_40_method_2_5)
  refine own_Goes.st ?_ st2
  show own_Goes p.tables e below P (T2.setTop (mkF m 8 #[.val (.ref a), .val (.int v)] [(.ref b), (.int (3 : Int32))]))
  have Vc3 := pr3
  obtain ⟨cl3, Ar3, q3, S3, Nn3, Hs3, Gs3⟩ := Vc3
  refine own_Goes.st ?_ (X2.arraylength hx (by rw [e2]; exact Ar3.1) (State.isArrayOf_alike hZ.alike Ar3.2.1) (g := (mkF m 8 #[.val (.ref a), .val (.int v)] [(.ref b), (.int (3 : Int32))])) rfl rfl (hb hby own_d_prog_40_method_2_8))
  rw [len_of S3 Nn3]
  show own_Goes p.tables e below P (T2.setTop (mkF m 9 #[.val (.ref a), .val (.int v)] [(.int (4 : Int32)), (.int (3 : Int32))]))
  refine own_Goes.st ?_ (fun _ k => XS.icmpYes X2.here hx rfl (pc0 := 9) (pc' := 29) rfl (hb hby own_d_prog_40_method_2_9) rfl (feq (by decide : ¬ ((3 : Int32) = (4 : Int32)))).2 (by decide) (by decide) k)
  show own_Goes p.tables e below P (T2.setTop (mkF m 29 #[.val (.ref a), .val (.int v)] []))
  refine own_Goes.st ?_ (fun _ k => XS.aloadN X2.here hx rfl (hb hby own_d_prog_40_method_2_29) rfl rfl k)
  show own_Goes p.tables e below P (T2.setTop (mkF m 30 #[.val (.ref a), .val (.int v)] [(.ref a)]))
  obtain ⟨T4, X4, e4, st4⟩ := getF X2 hx hZ hown (host := "") (Or.inl (hw _ (List.mem_of_getElem? (i := 10) rfl))) Via.refl e2 pr1 (g := (mkF m 30 #[.val (.ref a), .val (.int v)] [(.ref a)])) rfl rfl (hb hby own_d_prog_40_method_2_30)
  refine own_Goes.st ?_ st4
  show own_Goes p.tables e below P (T4.setTop (mkF m 33 #[.val (.ref a), .val (.int v)] [(.ref b)]))
  refine own_Goes.st ?_ (fun _ k => XS.aloadN X4.here hx rfl (hb hby own_d_prog_40_method_2_33) rfl rfl k)
  show own_Goes p.tables e below P (T4.setTop (mkF m 34 #[.val (.ref a), .val (.int v)] [(.ref a), (.ref b)]))
  refine own_Goes.st ?_ (fun _ k => XS.dup X4.here hx rfl (hb hby own_d_prog_40_method_2_34) rfl rfl k)
  show own_Goes p.tables e below P (T4.setTop (mkF m 35 #[.val (.ref a), .val (.int v)] [(.ref a), (.ref a), (.ref b)]))
  obtain ⟨T5, X5, e5, st5⟩ := getF X4 hx hZ hown (host := "") (Or.inl (hw _ (List.mem_of_getElem? (i := 17) rfl))) Via.refl e4 pr2 (g := (mkF m 35 #[.val (.ref a), .val (.int v)] [(.ref a), (.ref a), (.ref b)])) rfl rfl (hb hby own_d_prog_40_method_2_35)
  refine own_Goes.st ?_ st5
  show own_Goes p.tables e below P (T5.setTop (mkF m 38 #[.val (.ref a), .val (.int v)] [(.int (3 : Int32)), (.ref a), (.ref b)]))
  refine own_Goes.st ?_ (fun _ k => XS.dupX1 X5.here hx rfl (hb hby own_d_prog_40_method_2_38) rfl rfl rfl k)
  show own_Goes p.tables e below P (T5.setTop (mkF m 39 #[.val (.ref a), .val (.int v)] [(.int (3 : Int32)), (.ref a), (.int (3 : Int32)), (.ref b)]))
  refine own_Goes.st ?_ (fun _ k => XS.iconst X5.here hx rfl (hb hby own_d_prog_40_method_2_39) k)
  show own_Goes p.tables e below P (T5.setTop (mkF m 40 #[.val (.ref a), .val (.int v)] [(.int (1 : Int32)), (.int (3 : Int32)), (.ref a), (.int (3 : Int32)), (.ref b)]))
  refine own_Goes.st ?_ (fun _ k => XS.iadd X5.here hx rfl (hb hby own_d_prog_40_method_2_40) rfl k)
  show own_Goes p.tables e below P (T5.setTop (mkF m 41 #[.val (.ref a), .val (.int v)] [(.int (4 : Int32)), (.ref a), (.int (3 : Int32)), (.ref b)]))
  obtain ⟨T6, h6, X6, e6, W6, st6⟩ := putF X5 hx hZ hown (host := "") (Or.inl (hw _ (List.mem_of_getElem? (i := 17) rfl))) Via.refl e5 pr2 pr0 (Or.inl (hw _ (List.mem_of_getElem? (i := 18) rfl))) (hw _ (List.mem_of_getElem? (i := 1) rfl)) (ty := .int) (by decide) rfl rfl (g := (mkF m 41 #[.val (.ref a), .val (.int v)] [(.int (4 : Int32)), (.ref a), (.int (3 : Int32)), (.ref b)])) rfl rfl (hb hby own_d_prog_40_method_2_41)
  refine own_Goes.st ?_ st6
  have F7 : Fld Z h6 a "com/example/taxodelta/taxodelta/taxonomy/IntList" "size" "I" (.int (4 : Int32)) := pr2.same W6
  have Z8 : n0 ≤ h6.size := by rw [W6.size]; exact Z0
  have K9 := K0.wr W6 (Or.inl (List.mem_of_getElem? (i := 0) rfl))
  have N10 := Fr.snoc X6 N0 pr5
  show own_Goes p.tables e below P (T6.setTop (mkF m 44 #[.val (.ref a), .val (.int v)] [(.int (3 : Int32)), (.ref b)]))
  refine own_Goes.st ?_ (fun _ k => XS.iloadN X6.here hx rfl (hb hby own_d_prog_40_method_2_44) rfl k)
  show own_Goes p.tables e below P (T6.setTop (mkF m 45 #[.val (.ref a), .val (.int v)] [(.int v), (.int (3 : Int32)), (.ref b)]))
  have F11 : Arv Z h6 b k .int (4 : Int32) [(.int x0), (.int x1), (.int x2), (.int (0 : Int32))] (.int 0) := (pr3.other W6 (Ne.symm pr7))
  have Vc12 := F11
  obtain ⟨cl12, Ar12, q12, S12, Nn12, Hs12, Gs12⟩ := Vc12
  have hin13 : ¬ ((3 : Int32) < 0 ∨ cl12.slots.size ≤ ((3 : Int32)).toNatClampNeg) := inb_of S12 ⟨by decide, by decide⟩
  obtain ⟨T13, h13, X13, e13, W13, st13⟩ := stI X6 hx hZ e6 Ar12 (j := (3 : Int32)) hin13 (g := (mkF m 45 #[.val (.ref a), .val (.int v)] [(.int v), (.int (3 : Int32)), (.ref b)])) rfl rfl (hb hby own_d_prog_40_method_2_45)
  refine own_Goes.st ?_ st13
  have V14 : Arv Z h13 b k .int (4 : Int32) [(.int x0), (.int x1), (.int x2), (.int v)] (.int 0) := Arv.set Ar12 q12 S12 Nn12 Hs12 Gs12 rfl W13 3 rfl (Nat.le_of_ble_eq_true rfl)
  have Z15 : n0 ≤ h13.size := by rw [W13.size]; exact Z8
  have K16 := K9.wr W13 (Or.inl (List.mem_of_getElem? (i := 1) rfl))
  have N17 := Fr.snoc X13 N10 pr6
  show own_Goes p.tables e below P (T13.setTop (mkF m 46 #[.val (.ref a), .val (.int v)] []))
  have F18 : Fld Z h13 a "com/example/taxodelta/taxodelta/taxonomy/IntList" "values" "[I" (.ref b) := ((pr1.other W6 (Or.inr (slot_ne (Or.inl (hw _ (List.mem_of_getElem? (i := 11) rfl))) (Or.inl (hw _ (List.mem_of_getElem? (i := 18) rfl))) (by decide) (t := (.array .int)) (t' := .int) (by decide) (by decide)))).other W13 (Or.inl pr7))
  obtain ⟨fs, hr, hrun, hended, hW, hsame⟩ := X13.leave (v := none) (fun _ => rfl)
  have F19 : Exa Z h13 a "com/example/taxodelta/taxodelta/taxonomy/IntList" := ((pr0.wr W6).wr W13)
  have F20 : Fld Z h13 a "com/example/taxodelta/taxodelta/taxonomy/IntList" "size" "I" (.int (4 : Int32)) := (F7.other W13 (Or.inl pr7))
  have F21 : Exa Z h13 b "[I" := ((pr4.wr W6).wr W13)
  exact own_Goes.fin _ _ (X13.returnOut hx Bd.returns (hb hby own_d_prog_40_method_2_46) hr) (hPP _ _ ⟨hrun, hended, _, _, rfl, (by show Q_add_3 Z a v b k x0 x1 x2 h0 n0 _ T13.heap _; rw [e13]; exact ⟨rfl, N17, K16, F19, F18, F20, V14, F21⟩), ⟨_, rfl⟩, hW, hsame.mono (by decide) (by decide)⟩)
theorem own_ef_has_0 (m : MethodId) (x0 : Addr) (x1 : Int32) : entryFrame m #[(.ref x0), (.int x1)] 3 = mkF m 0 #[.val (.ref x0), .val (.int x1), .unset] [] := by first | (simp [entryFrame, mkF, argsToLocals, Value.category]; done) | rfl
theorem own_d_prog_40_method_6_0 : decode prog_40_method_6_code 0 = .ok (.iconst 0, 1) := by decide +kernel
theorem own_d_prog_40_method_6_1 : decode prog_40_method_6_code 1 = .ok (.istore_n 2, 1) := by decide +kernel
theorem own_d_prog_40_method_6_2 : decode prog_40_method_6_code 2 = .ok (.iload_n 2, 1) := by decide +kernel
theorem own_d_prog_40_method_6_3 : decode prog_40_method_6_code 3 = .ok (.aload_n 0, 1) := by decide +kernel
theorem own_d_prog_40_method_6_4 : decode prog_40_method_6_code 4 = .ok (.getfield 13, 3) := by decide +kernel
theorem own_d_prog_40_method_6_7 : decode prog_40_method_6_code 7 = .ok (.if_icmp .ge 21, 3) := by decide +kernel
theorem own_d_prog_40_method_6_28 : decode prog_40_method_6_code 28 = .ok (.iconst 0, 1) := by decide +kernel
theorem own_d_prog_40_method_6_29 : decode prog_40_method_6_code 29 = .ok (.ireturn, 1) := by decide +kernel
def Q_has_0 (Z : State) (a : Addr) (v : Int32) (b : Addr) (k : ClassId) (h0 : Heap) (n0 : Nat) (rv_ : Option Value) (h_ : Heap) (L_ : List Loc) : Prop := rv_ = some (.int (0 : Int32)) ∧ Fr n0 L_ ∧ h_ = h0
set_option maxRecDepth 65536 in
set_option maxHeartbeats 40000000 in
theorem rm_has_0 (l : Launch) (Z : State) (a0 : Array Value) (hw : ∀ d ∈ tables_1, d.before a0 Z = true) (ws : List Jvm.Cond) (a : Addr) (v : Int32) (b : Addr) (k : ClassId) (h0 : Heap) (n0 : Nat) (Z0 : n0 ≤ h0.size) (pr0 : Fld Z h0 a "com/example/taxodelta/taxodelta/taxonomy/IntList" "values" "[I" (.ref b)) (pr1 : Fld Z h0 a "com/example/taxodelta/taxodelta/taxonomy/IntList" "size" "I" (.int (0 : Int32))) (pr2 : Arv Z h0 b k .int (2 : Int32) [(.int (0 : Int32)), (.int (0 : Int32))] (.int 0)) :
    MetFree l (⟨"com/example/taxodelta/taxodelta/taxonomy/IntList", "contains", "(I)Z"⟩ : MethodName) (head1 (Jvm.Cond.code (⟨"com/example/taxodelta/taxodelta/taxonomy/IntList", "contains", "(I)Z"⟩ : MethodName) prog_40_method_6_code 3 (some .boolean) :: ws) ({ frames := 0, cells := 0, slots := 0, locals := 0 } : Room)) (fun as_ U => as_ = #[(.ref a), (.int v)] ∧ Z.Warmed39 U.vm ∧ U.heap = h0) (fun _ _ _ _ _ => True) (fun _ U o U' => ∃ rv_ L_, o = .returned rv_ ∧ Q_has_0 Z a v b k h0 n0 rv_ U'.heap L_ ∧ FrameEnd U o U' L_ ({ frames := 0, cells := 0, slots := 0, locals := 0 } : Room).cells ({ frames := 0, cells := 0, slots := 0, locals := 0 } : Room).slots) := by
  refine MetFree.of_bodySF (plainFor_of_name own_pn_com_example_taxodelta_taxodelta_taxonomy_IntList) hisR ?_
  intro p e s m args below meth c s₁ Bd hml0 hP hK
  obtain ⟨rfl, hZ, hh⟩ := hP
  have hx := Bd.exec
  have hby := Bd.bytes
  have hml : c.maxLocals = 3 := hml0
  have hown : s.vm.findClass "com/example/taxodelta/taxodelta/taxonomy/IntList" = some m.cls := findClass_of_methodNamed Bd.named
  have hnm := (name_of_methodNamed Bd.named Bd.method).1
  have X0 : Stand p l e ({ frames := 0, cells := 0, slots := 0, locals := 0 } : Room) s m #[(.ref a), (.int v)] below meth c s₁ [] 0 0 := Stand.of_body Bd
  have e0 : s₁.heap = h0 := by rw [← hh, Bd.state]; rfl
  have N0 := Fr.nil n0
  refine own_Goes.of ?_
  refine own_Goes.nm (fun P hPP => ?_)
  refine own_Goes.st ?_ (fun _ k => castTop (own_ef_has_0 m a v) k)
  show own_Goes p.tables e below P (s₁.setTop (mkF m 0 #[.val (.ref a), .val (.int v), .unset] []))
  refine own_Goes.st ?_ (fun _ k => XS.iconst X0.here hx rfl (hb hby own_d_prog_40_method_6_0) k)
  show own_Goes p.tables e below P (s₁.setTop (mkF m 1 #[.val (.ref a), .val (.int v), .unset] [(.int (0 : Int32))]))
  refine own_Goes.st ?_ (fun _ k => XS.istoreN X0.here hx rfl (hb hby own_d_prog_40_method_6_1) rfl (l' := #[.val (.ref a), .val (.int v), .val (.int (0 : Int32))]) rfl k)
  show own_Goes p.tables e below P (s₁.setTop (mkF m 2 #[.val (.ref a), .val (.int v), .val (.int (0 : Int32))] []))
  refine own_Goes.st ?_ (fun _ k => XS.iloadN X0.here hx rfl (hb hby own_d_prog_40_method_6_2) rfl k)
  show own_Goes p.tables e below P (s₁.setTop (mkF m 3 #[.val (.ref a), .val (.int v), .val (.int (0 : Int32))] [(.int (0 : Int32))]))
  refine own_Goes.st ?_ (fun _ k => XS.aloadN X0.here hx rfl (hb hby own_d_prog_40_method_6_3) rfl rfl k)
  show own_Goes p.tables e below P (s₁.setTop (mkF m 4 #[.val (.ref a), .val (.int v), .val (.int (0 : Int32))] [(.ref a), (.int (0 : Int32))]))
  obtain ⟨T1, X1, e1, st1⟩ := getF X0 hx hZ hown (host := "") (Or.inl (hw _ (List.mem_of_getElem? (i := 17) rfl))) Via.refl e0 pr1 (g := (mkF m 4 #[.val (.ref a), .val (.int v), .val (.int (0 : Int32))] [(.ref a), (.int (0 : Int32))])) rfl rfl (hb hby own_d_prog_40_method_6_4)
  refine own_Goes.st ?_ st1
  show own_Goes p.tables e below P (T1.setTop (mkF m 7 #[.val (.ref a), .val (.int v), .val (.int (0 : Int32))] [(.int (0 : Int32)), (.int (0 : Int32))]))
  refine own_Goes.st ?_ (fun _ k => XS.icmpYes X1.here hx rfl (pc0 := 7) (pc' := 28) rfl (hb hby own_d_prog_40_method_6_7) rfl (flt (by decide : ¬ ((0 : Int32) < (0 : Int32)))).2.1 (by decide) (by decide) k)
  show own_Goes p.tables e below P (T1.setTop (mkF m 28 #[.val (.ref a), .val (.int v), .val (.int (0 : Int32))] []))
  refine own_Goes.st ?_ (fun _ k => XS.iconst X1.here hx rfl (hb hby own_d_prog_40_method_6_28) k)
  show own_Goes p.tables e below P (T1.setTop (mkF m 29 #[.val (.ref a), .val (.int v), .val (.int (0 : Int32))] [(.int (0 : Int32))]))
  obtain ⟨fs, hr, hrun, hended, hW, hsame⟩ := X1.leave (v := some (.int (0 : Int32))) (fun h => by rw [Bd.returns] at h; cases h)
  exact own_Goes.fin _ _ (retOut X1 hx (t := .boolean) Bd.returns rfl (Or.inl ⟨rfl, Or.inr (Or.inl rfl), _, rfl⟩) (hb hby own_d_prog_40_method_6_29) hr) (hPP _ _ ⟨hrun, hended, _, _, rfl, (by show Q_has_0 Z a v b k h0 n0 _ T1.heap _; rw [e1]; exact ⟨rfl, N0, rfl⟩), ⟨_, rfl⟩, hW, hsame.mono (by decide) (by decide)⟩)
theorem own_ef_has_1 (m : MethodId) (x0 : Addr) (x1 : Int32) : entryFrame m #[(.ref x0), (.int x1)] 3 = mkF m 0 #[.val (.ref x0), .val (.int x1), .unset] [] := by first | (simp [entryFrame, mkF, argsToLocals, Value.category]; done) | rfl
theorem own_d_prog_40_method_6_10 : decode prog_40_method_6_code 10 = .ok (.aload_n 0, 1) := by decide +kernel
theorem own_d_prog_40_method_6_11 : decode prog_40_method_6_code 11 = .ok (.getfield 7, 3) := by decide +kernel
theorem own_d_prog_40_method_6_14 : decode prog_40_method_6_code 14 = .ok (.iload_n 2, 1) := by decide +kernel
theorem own_d_prog_40_method_6_15 : decode prog_40_method_6_code 15 = .ok (.iaload, 1) := by decide +kernel
theorem own_d_prog_40_method_6_16 : decode prog_40_method_6_code 16 = .ok (.iload_n 1, 1) := by decide +kernel
theorem own_d_prog_40_method_6_17 : decode prog_40_method_6_code 17 = .ok (.if_icmp .ne 5, 3) := by decide +kernel
theorem own_d_prog_40_method_6_20 : decode prog_40_method_6_code 20 = .ok (.iconst 1, 1) := by decide +kernel
theorem own_d_prog_40_method_6_21 : decode prog_40_method_6_code 21 = .ok (.ireturn, 1) := by decide +kernel
theorem own_d_prog_40_method_6_22 : decode prog_40_method_6_code 22 = .ok (.iinc 2 1, 3) := by decide +kernel
theorem own_d_prog_40_method_6_25 : decode prog_40_method_6_code 25 = .ok (.goto (-23), 3) := by decide +kernel
def Q_has_1 (Z : State) (a : Addr) (v : Int32) (b : Addr) (k : ClassId) (x0 : Int32) (h0 : Heap) (n0 : Nat) (rv_ : Option Value) (h_ : Heap) (L_ : List Loc) : Prop := rv_ = some (.int (if x0 = v then 1 else 0)) ∧ Fr n0 L_ ∧ h_ = h0
set_option maxRecDepth 65536 in
set_option maxHeartbeats 40000000 in
theorem rm_has_1 (l : Launch) (Z : State) (a0 : Array Value) (hw : ∀ d ∈ tables_1, d.before a0 Z = true) (ws : List Jvm.Cond) (a : Addr) (v : Int32) (b : Addr) (k : ClassId) (x0 : Int32) (h0 : Heap) (n0 : Nat) (Z0 : n0 ≤ h0.size) (pr0 : Fld Z h0 a "com/example/taxodelta/taxodelta/taxonomy/IntList" "values" "[I" (.ref b)) (pr1 : Fld Z h0 a "com/example/taxodelta/taxodelta/taxonomy/IntList" "size" "I" (.int (1 : Int32))) (pr2 : Arv Z h0 b k .int (2 : Int32) [(.int x0), (.int (0 : Int32))] (.int 0)) :
    MetFree l (⟨"com/example/taxodelta/taxodelta/taxonomy/IntList", "contains", "(I)Z"⟩ : MethodName) (head1 (Jvm.Cond.code (⟨"com/example/taxodelta/taxodelta/taxonomy/IntList", "contains", "(I)Z"⟩ : MethodName) prog_40_method_6_code 3 (some .boolean) :: ws) ({ frames := 0, cells := 0, slots := 0, locals := 0 } : Room)) (fun as_ U => as_ = #[(.ref a), (.int v)] ∧ Z.Warmed39 U.vm ∧ U.heap = h0) (fun _ _ _ _ _ => True) (fun _ U o U' => ∃ rv_ L_, o = .returned rv_ ∧ Q_has_1 Z a v b k x0 h0 n0 rv_ U'.heap L_ ∧ FrameEnd U o U' L_ ({ frames := 0, cells := 0, slots := 0, locals := 0 } : Room).cells ({ frames := 0, cells := 0, slots := 0, locals := 0 } : Room).slots) := by
  refine MetFree.of_bodySF (plainFor_of_name own_pn_com_example_taxodelta_taxodelta_taxonomy_IntList) hisR ?_
  intro p e s m args below meth c s₁ Bd hml0 hP hK
  obtain ⟨rfl, hZ, hh⟩ := hP
  have hx := Bd.exec
  have hby := Bd.bytes
  have hml : c.maxLocals = 3 := hml0
  have hown : s.vm.findClass "com/example/taxodelta/taxodelta/taxonomy/IntList" = some m.cls := findClass_of_methodNamed Bd.named
  have hnm := (name_of_methodNamed Bd.named Bd.method).1
  have X0 : Stand p l e ({ frames := 0, cells := 0, slots := 0, locals := 0 } : Room) s m #[(.ref a), (.int v)] below meth c s₁ [] 0 0 := Stand.of_body Bd
  have e0 : s₁.heap = h0 := by rw [← hh, Bd.state]; rfl
  have N0 := Fr.nil n0
  refine own_Goes.of ?_
  refine own_Goes.nm (fun P hPP => ?_)
  refine own_Goes.st ?_ (fun _ k => castTop (own_ef_has_1 m a v) k)
  show own_Goes p.tables e below P (s₁.setTop (mkF m 0 #[.val (.ref a), .val (.int v), .unset] []))
  refine own_Goes.st ?_ (fun _ k => XS.iconst X0.here hx rfl (hb hby own_d_prog_40_method_6_0) k)
  show own_Goes p.tables e below P (s₁.setTop (mkF m 1 #[.val (.ref a), .val (.int v), .unset] [(.int (0 : Int32))]))
  refine own_Goes.st ?_ (fun _ k => XS.istoreN X0.here hx rfl (hb hby own_d_prog_40_method_6_1) rfl (l' := #[.val (.ref a), .val (.int v), .val (.int (0 : Int32))]) rfl k)
  show own_Goes p.tables e below P (s₁.setTop (mkF m 2 #[.val (.ref a), .val (.int v), .val (.int (0 : Int32))] []))
  refine own_Goes.st ?_ (fun _ k => XS.iloadN X0.here hx rfl (hb hby own_d_prog_40_method_6_2) rfl k)
  show own_Goes p.tables e below P (s₁.setTop (mkF m 3 #[.val (.ref a), .val (.int v), .val (.int (0 : Int32))] [(.int (0 : Int32))]))
  refine own_Goes.st ?_ (fun _ k => XS.aloadN X0.here hx rfl (hb hby own_d_prog_40_method_6_3) rfl rfl k)
  show own_Goes p.tables e below P (s₁.setTop (mkF m 4 #[.val (.ref a), .val (.int v), .val (.int (0 : Int32))] [(.ref a), (.int (0 : Int32))]))
  obtain ⟨T1, X1, e1, st1⟩ := getF X0 hx hZ hown (host := "") (Or.inl (hw _ (List.mem_of_getElem? (i := 17) rfl))) Via.refl e0 pr1 (g := (mkF m 4 #[.val (.ref a), .val (.int v), .val (.int (0 : Int32))] [(.ref a), (.int (0 : Int32))])) rfl rfl (hb hby own_d_prog_40_method_6_4)
  refine own_Goes.st ?_ st1
  show own_Goes p.tables e below P (T1.setTop (mkF m 7 #[.val (.ref a), .val (.int v), .val (.int (0 : Int32))] [(.int (1 : Int32)), (.int (0 : Int32))]))
  refine own_Goes.st ?_ (fun _ k => XS.icmpNo X1.here hx rfl (hb hby own_d_prog_40_method_6_7) rfl (tlt (by decide : (0 : Int32) < (1 : Int32))).2.1 k)
  show own_Goes p.tables e below P (T1.setTop (mkF m 10 #[.val (.ref a), .val (.int v), .val (.int (0 : Int32))] []))
  refine own_Goes.st ?_ (fun _ k => XS.aloadN X1.here hx rfl (hb hby own_d_prog_40_method_6_10) rfl rfl k)
  show own_Goes p.tables e below P (T1.setTop (mkF m 11 #[.val (.ref a), .val (.int v), .val (.int (0 : Int32))] [(.ref a)]))
  obtain ⟨T2, X2, e2, st2⟩ := getF X1 hx hZ hown (host := "") (Or.inl (hw _ (List.mem_of_getElem? (i := 10) rfl))) Via.refl e1 pr0 (g := (mkF m 11 #[.val (.ref a), .val (.int v), .val (.int (0 : Int32))] [(.ref a)])) rfl rfl (hb hby own_d_prog_40_method_6_11)
  refine own_Goes.st ?_ st2
  show own_Goes p.tables e below P (T2.setTop (mkF m 14 #[.val (.ref a), .val (.int v), .val (.int (0 : Int32))] [(.ref b)]))
  refine own_Goes.st ?_ (fun _ k => XS.iloadN X2.here hx rfl (hb hby own_d_prog_40_method_6_14) rfl k)
  show own_Goes p.tables e below P (T2.setTop (mkF m 15 #[.val (.ref a), .val (.int v), .val (.int (0 : Int32))] [(.int (0 : Int32)), (.ref b)]))
  have Vc3 := pr2
  obtain ⟨cl3, Ar3, q3, S3, Nn3, Hs3, Gs3⟩ := Vc3
  have hin4 : ¬ ((0 : Int32) < 0 ∨ cl3.slots.size ≤ ((0 : Int32)).toNatClampNeg) := inb_of S3 ⟨by decide, by decide⟩
  refine own_Goes.st ?_ (X2.iaload hx (j := (0 : Int32)) (v := (.int x0)) (by rw [e2]; exact Ar3.1) (State.isArrayOf_alike hZ.alike Ar3.2.1) Ar3.2.2 hin4 (Has.at Hs3 hin4 rfl) (g := (mkF m 15 #[.val (.ref a), .val (.int v), .val (.int (0 : Int32))] [(.int (0 : Int32)), (.ref b)])) rfl rfl (hb hby own_d_prog_40_method_6_15))
  show own_Goes p.tables e below P (T2.setTop (mkF m 16 #[.val (.ref a), .val (.int v), .val (.int (0 : Int32))] [(.int x0)]))
  refine own_Goes.st ?_ (fun _ k => XS.iloadN X2.here hx rfl (hb hby own_d_prog_40_method_6_16) rfl k)
  show own_Goes p.tables e below P (T2.setTop (mkF m 17 #[.val (.ref a), .val (.int v), .val (.int (0 : Int32))] [(.int v), (.int x0)]))
  by_cases hx0 : x0 = v
  · skip
    refine own_Goes.st ?_ (fun _ k => XS.icmpNo X2.here hx rfl (hb hby own_d_prog_40_method_6_17) rfl (teq hx0).2 k)
    show own_Goes p.tables e below P (T2.setTop (mkF m 20 #[.val (.ref a), .val (.int v), .val (.int (0 : Int32))] []))
    refine own_Goes.st ?_ (fun _ k => XS.iconst X2.here hx rfl (hb hby own_d_prog_40_method_6_20) k)
    show own_Goes p.tables e below P (T2.setTop (mkF m 21 #[.val (.ref a), .val (.int v), .val (.int (0 : Int32))] [(.int (1 : Int32))]))
    obtain ⟨fs, hr, hrun, hended, hW, hsame⟩ := X2.leave (v := some (.int (1 : Int32))) (fun h => by rw [Bd.returns] at h; cases h)
    exact own_Goes.fin _ _ (retOut X2 hx (t := .boolean) Bd.returns rfl (Or.inl ⟨rfl, Or.inr (Or.inl rfl), _, rfl⟩) (hb hby own_d_prog_40_method_6_21) hr) (hPP _ _ ⟨hrun, hended, _, _, rfl, (by show Q_has_1 Z a v b k x0 h0 n0 _ T2.heap _; rw [e2]; exact ⟨(by rw [if_pos hx0]), N0, rfl⟩), ⟨_, rfl⟩, hW, hsame.mono (by decide) (by decide)⟩)
  · skip
    refine own_Goes.st ?_ (fun _ k => XS.icmpYes X2.here hx rfl (pc0 := 17) (pc' := 22) rfl (hb hby own_d_prog_40_method_6_17) rfl (feq hx0).2 (by decide) (by decide) k)
    show own_Goes p.tables e below P (T2.setTop (mkF m 22 #[.val (.ref a), .val (.int v), .val (.int (0 : Int32))] []))
    refine own_Goes.st ?_ (fun _ k => XS.iinc X2.here hx rfl (hb hby own_d_prog_40_method_6_22) rfl (l' := #[.val (.ref a), .val (.int v), .val (.int (1 : Int32))]) rfl k)
    show own_Goes p.tables e below P (T2.setTop (mkF m 25 #[.val (.ref a), .val (.int v), .val (.int (1 : Int32))] []))
    refine own_Goes.st ?_ (fun _ k => XS.goto X2.here hx rfl (pc0 := 25) (pc' := 2) rfl (hb hby own_d_prog_40_method_6_25) (by decide) (by decide) k)
    show own_Goes p.tables e below P (T2.setTop (mkF m 2 #[.val (.ref a), .val (.int v), .val (.int (1 : Int32))] []))
    refine own_Goes.st ?_ (fun _ k => XS.iloadN X2.here hx rfl (hb hby own_d_prog_40_method_6_2) rfl k)
    show own_Goes p.tables e below P (T2.setTop (mkF m 3 #[.val (.ref a), .val (.int v), .val (.int (1 : Int32))] [(.int (1 : Int32))]))
    refine own_Goes.st ?_ (fun _ k => XS.aloadN X2.here hx rfl (hb hby own_d_prog_40_method_6_3) rfl rfl k)
    show own_Goes p.tables e below P (T2.setTop (mkF m 4 #[.val (.ref a), .val (.int v), .val (.int (1 : Int32))] [(.ref a), (.int (1 : Int32))]))
    obtain ⟨T5, X5, e5, st5⟩ := getF X2 hx hZ hown (host := "") (Or.inl (hw _ (List.mem_of_getElem? (i := 17) rfl))) Via.refl e2 pr1 (g := (mkF m 4 #[.val (.ref a), .val (.int v), .val (.int (1 : Int32))] [(.ref a), (.int (1 : Int32))])) rfl rfl (hb hby own_d_prog_40_method_6_4)
    refine own_Goes.st ?_ st5
    show own_Goes p.tables e below P (T5.setTop (mkF m 7 #[.val (.ref a), .val (.int v), .val (.int (1 : Int32))] [(.int (1 : Int32)), (.int (1 : Int32))]))
    refine own_Goes.st ?_ (fun _ k => XS.icmpYes X5.here hx rfl (pc0 := 7) (pc' := 28) rfl (hb hby own_d_prog_40_method_6_7) rfl (flt (by decide : ¬ ((1 : Int32) < (1 : Int32)))).2.1 (by decide) (by decide) k)
    show own_Goes p.tables e below P (T5.setTop (mkF m 28 #[.val (.ref a), .val (.int v), .val (.int (1 : Int32))] []))
    refine own_Goes.st ?_ (fun _ k => XS.iconst X5.here hx rfl (hb hby own_d_prog_40_method_6_28) k)
    show own_Goes p.tables e below P (T5.setTop (mkF m 29 #[.val (.ref a), .val (.int v), .val (.int (1 : Int32))] [(.int (0 : Int32))]))
    obtain ⟨fs, hr, hrun, hended, hW, hsame⟩ := X5.leave (v := some (.int (0 : Int32))) (fun h => by rw [Bd.returns] at h; cases h)
    exact own_Goes.fin _ _ (retOut X5 hx (t := .boolean) Bd.returns rfl (Or.inl ⟨rfl, Or.inr (Or.inl rfl), _, rfl⟩) (hb hby own_d_prog_40_method_6_29) hr) (hPP _ _ ⟨hrun, hended, _, _, rfl, (by show Q_has_1 Z a v b k x0 h0 n0 _ T5.heap _; rw [e5]; exact ⟨(by rw [if_neg hx0]), N0, rfl⟩), ⟨_, rfl⟩, hW, hsame.mono (by decide) (by decide)⟩)
theorem own_ef_has_2 (m : MethodId) (x0 : Addr) (x1 : Int32) : entryFrame m #[(.ref x0), (.int x1)] 3 = mkF m 0 #[.val (.ref x0), .val (.int x1), .unset] [] := by first | (simp [entryFrame, mkF, argsToLocals, Value.category]; done) | rfl
def Q_has_2 (Z : State) (a : Addr) (v : Int32) (b : Addr) (k : ClassId) (x0 : Int32) (x1 : Int32) (h0 : Heap) (n0 : Nat) (rv_ : Option Value) (h_ : Heap) (L_ : List Loc) : Prop := rv_ = some (.int (if x0 = v then 1 else (if x1 = v then 1 else 0))) ∧ Fr n0 L_ ∧ h_ = h0
set_option maxRecDepth 65536 in
set_option maxHeartbeats 40000000 in
theorem rm_has_2 (l : Launch) (Z : State) (a0 : Array Value) (hw : ∀ d ∈ tables_1, d.before a0 Z = true) (ws : List Jvm.Cond) (a : Addr) (v : Int32) (b : Addr) (k : ClassId) (x0 : Int32) (x1 : Int32) (h0 : Heap) (n0 : Nat) (Z0 : n0 ≤ h0.size) (pr0 : Fld Z h0 a "com/example/taxodelta/taxodelta/taxonomy/IntList" "values" "[I" (.ref b)) (pr1 : Fld Z h0 a "com/example/taxodelta/taxodelta/taxonomy/IntList" "size" "I" (.int (2 : Int32))) (pr2 : Arv Z h0 b k .int (2 : Int32) [(.int x0), (.int x1)] (.int 0)) :
    MetFree l (⟨"com/example/taxodelta/taxodelta/taxonomy/IntList", "contains", "(I)Z"⟩ : MethodName) (head1 (Jvm.Cond.code (⟨"com/example/taxodelta/taxodelta/taxonomy/IntList", "contains", "(I)Z"⟩ : MethodName) prog_40_method_6_code 3 (some .boolean) :: ws) ({ frames := 0, cells := 0, slots := 0, locals := 0 } : Room)) (fun as_ U => as_ = #[(.ref a), (.int v)] ∧ Z.Warmed39 U.vm ∧ U.heap = h0) (fun _ _ _ _ _ => True) (fun _ U o U' => ∃ rv_ L_, o = .returned rv_ ∧ Q_has_2 Z a v b k x0 x1 h0 n0 rv_ U'.heap L_ ∧ FrameEnd U o U' L_ ({ frames := 0, cells := 0, slots := 0, locals := 0 } : Room).cells ({ frames := 0, cells := 0, slots := 0, locals := 0 } : Room).slots) := by
  refine MetFree.of_bodySF (plainFor_of_name own_pn_com_example_taxodelta_taxodelta_taxonomy_IntList) hisR ?_
  intro p e s m args below meth c s₁ Bd hml0 hP hK
  obtain ⟨rfl, hZ, hh⟩ := hP
  have hx := Bd.exec
  have hby := Bd.bytes
  have hml : c.maxLocals = 3 := hml0
  have hown : s.vm.findClass "com/example/taxodelta/taxodelta/taxonomy/IntList" = some m.cls := findClass_of_methodNamed Bd.named
  have hnm := (name_of_methodNamed Bd.named Bd.method).1
  have X0 : Stand p l e ({ frames := 0, cells := 0, slots := 0, locals := 0 } : Room) s m #[(.ref a), (.int v)] below meth c s₁ [] 0 0 := Stand.of_body Bd
  have e0 : s₁.heap = h0 := by rw [← hh, Bd.state]; rfl
  have N0 := Fr.nil n0
  refine own_Goes.of ?_
  refine own_Goes.nm (fun P hPP => ?_)
  refine own_Goes.st ?_ (fun _ k => castTop (own_ef_has_2 m a v) k)
  show own_Goes p.tables e below P (s₁.setTop (mkF m 0 #[.val (.ref a), .val (.int v), .unset] []))
  refine own_Goes.st ?_ (fun _ k => XS.iconst X0.here hx rfl (hb hby own_d_prog_40_method_6_0) k)
  show own_Goes p.tables e below P (s₁.setTop (mkF m 1 #[.val (.ref a), .val (.int v), .unset] [(.int (0 : Int32))]))
  refine own_Goes.st ?_ (fun _ k => XS.istoreN X0.here hx rfl (hb hby own_d_prog_40_method_6_1) rfl (l' := #[.val (.ref a), .val (.int v), .val (.int (0 : Int32))]) rfl k)
  show own_Goes p.tables e below P (s₁.setTop (mkF m 2 #[.val (.ref a), .val (.int v), .val (.int (0 : Int32))] []))
  refine own_Goes.st ?_ (fun _ k => XS.iloadN X0.here hx rfl (hb hby own_d_prog_40_method_6_2) rfl k)
  show own_Goes p.tables e below P (s₁.setTop (mkF m 3 #[.val (.ref a), .val (.int v), .val (.int (0 : Int32))] [(.int (0 : Int32))]))
  refine own_Goes.st ?_ (fun _ k => XS.aloadN X0.here hx rfl (hb hby own_d_prog_40_method_6_3) rfl rfl k)
  show own_Goes p.tables e below P (s₁.setTop (mkF m 4 #[.val (.ref a), .val (.int v), .val (.int (0 : Int32))] [(.ref a), (.int (0 : Int32))]))
  obtain ⟨T1, X1, e1, st1⟩ := getF X0 hx hZ hown (host := "") (Or.inl (hw _ (List.mem_of_getElem? (i := 17) rfl))) Via.refl e0 pr1 (g := (mkF m 4 #[.val (.ref a), .val (.int v), .val (.int (0 : Int32))] [(.ref a), (.int (0 : Int32))])) rfl rfl (hb hby own_d_prog_40_method_6_4)
  refine own_Goes.st ?_ st1
  show own_Goes p.tables e below P (T1.setTop (mkF m 7 #[.val (.ref a), .val (.int v), .val (.int (0 : Int32))] [(.int (2 : Int32)), (.int (0 : Int32))]))
  refine own_Goes.st ?_ (fun _ k => XS.icmpNo X1.here hx rfl (hb hby own_d_prog_40_method_6_7) rfl (tlt (by decide : (0 : Int32) < (2 : Int32))).2.1 k)
  show own_Goes p.tables e below P (T1.setTop (mkF m 10 #[.val (.ref a), .val (.int v), .val (.int (0 : Int32))] []))
  refine own_Goes.st ?_ (fun _ k => XS.aloadN X1.here hx rfl (hb hby own_d_prog_40_method_6_10) rfl rfl k)
  show own_Goes p.tables e below P (T1.setTop (mkF m 11 #[.val (.ref a), .val (.int v), .val (.int (0 : Int32))] [(.ref a)]))
  obtain ⟨T2, X2, e2, st2⟩ := getF X1 hx hZ hown (host := "") (Or.inl (hw _ (List.mem_of_getElem? (i := 10) rfl))) Via.refl e1 pr0 (g := (mkF m 11 #[.val (.ref a), .val (.int v), .val (.int (0 : Int32))] [(.ref a)])) rfl rfl (hb hby own_d_prog_40_method_6_11)
  refine own_Goes.st ?_ st2
  show own_Goes p.tables e below P (T2.setTop (mkF m 14 #[.val (.ref a), .val (.int v), .val (.int (0 : Int32))] [(.ref b)]))
  refine own_Goes.st ?_ (fun _ k => XS.iloadN X2.here hx rfl (hb hby own_d_prog_40_method_6_14) rfl k)
  show own_Goes p.tables e below P (T2.setTop (mkF m 15 #[.val (.ref a), .val (.int v), .val (.int (0 : Int32))] [(.int (0 : Int32)), (.ref b)]))
  have Vc3 := pr2
  obtain ⟨cl3, Ar3, q3, S3, Nn3, Hs3, Gs3⟩ := Vc3
  have hin4 : ¬ ((0 : Int32) < 0 ∨ cl3.slots.size ≤ ((0 : Int32)).toNatClampNeg) := inb_of S3 ⟨by decide, by decide⟩
  refine own_Goes.st ?_ (X2.iaload hx (j := (0 : Int32)) (v := (.int x0)) (by rw [e2]; exact Ar3.1) (State.isArrayOf_alike hZ.alike Ar3.2.1) Ar3.2.2 hin4 (Has.at Hs3 hin4 rfl) (g := (mkF m 15 #[.val (.ref a), .val (.int v), .val (.int (0 : Int32))] [(.int (0 : Int32)), (.ref b)])) rfl rfl (hb hby own_d_prog_40_method_6_15))
  show own_Goes p.tables e below P (T2.setTop (mkF m 16 #[.val (.ref a), .val (.int v), .val (.int (0 : Int32))] [(.int x0)]))
  refine own_Goes.st ?_ (fun _ k => XS.iloadN X2.here hx rfl (hb hby own_d_prog_40_method_6_16) rfl k)
  show own_Goes p.tables e below P (T2.setTop (mkF m 17 #[.val (.ref a), .val (.int v), .val (.int (0 : Int32))] [(.int v), (.int x0)]))
  by_cases hx0 : x0 = v
  · skip
    refine own_Goes.st ?_ (fun _ k => XS.icmpNo X2.here hx rfl (hb hby own_d_prog_40_method_6_17) rfl (teq hx0).2 k)
    show own_Goes p.tables e below P (T2.setTop (mkF m 20 #[.val (.ref a), .val (.int v), .val (.int (0 : Int32))] []))
    refine own_Goes.st ?_ (fun _ k => XS.iconst X2.here hx rfl (hb hby own_d_prog_40_method_6_20) k)
    show own_Goes p.tables e below P (T2.setTop (mkF m 21 #[.val (.ref a), .val (.int v), .val (.int (0 : Int32))] [(.int (1 : Int32))]))
    obtain ⟨fs, hr, hrun, hended, hW, hsame⟩ := X2.leave (v := some (.int (1 : Int32))) (fun h => by rw [Bd.returns] at h; cases h)
    exact own_Goes.fin _ _ (retOut X2 hx (t := .boolean) Bd.returns rfl (Or.inl ⟨rfl, Or.inr (Or.inl rfl), _, rfl⟩) (hb hby own_d_prog_40_method_6_21) hr) (hPP _ _ ⟨hrun, hended, _, _, rfl, (by show Q_has_2 Z a v b k x0 x1 h0 n0 _ T2.heap _; rw [e2]; exact ⟨(by rw [if_pos hx0]), N0, rfl⟩), ⟨_, rfl⟩, hW, hsame.mono (by decide) (by decide)⟩)
  · skip
    refine own_Goes.st ?_ (fun _ k => XS.icmpYes X2.here hx rfl (pc0 := 17) (pc' := 22) rfl (hb hby own_d_prog_40_method_6_17) rfl (feq hx0).2 (by decide) (by decide) k)
    show own_Goes p.tables e below P (T2.setTop (mkF m 22 #[.val (.ref a), .val (.int v), .val (.int (0 : Int32))] []))
    refine own_Goes.st ?_ (fun _ k => XS.iinc X2.here hx rfl (hb hby own_d_prog_40_method_6_22) rfl (l' := #[.val (.ref a), .val (.int v), .val (.int (1 : Int32))]) rfl k)
    show own_Goes p.tables e below P (T2.setTop (mkF m 25 #[.val (.ref a), .val (.int v), .val (.int (1 : Int32))] []))
    refine own_Goes.st ?_ (fun _ k => XS.goto X2.here hx rfl (pc0 := 25) (pc' := 2) rfl (hb hby own_d_prog_40_method_6_25) (by decide) (by decide) k)
    show own_Goes p.tables e below P (T2.setTop (mkF m 2 #[.val (.ref a), .val (.int v), .val (.int (1 : Int32))] []))
    refine own_Goes.st ?_ (fun _ k => XS.iloadN X2.here hx rfl (hb hby own_d_prog_40_method_6_2) rfl k)
    show own_Goes p.tables e below P (T2.setTop (mkF m 3 #[.val (.ref a), .val (.int v), .val (.int (1 : Int32))] [(.int (1 : Int32))]))
    refine own_Goes.st ?_ (fun _ k => XS.aloadN X2.here hx rfl (hb hby own_d_prog_40_method_6_3) rfl rfl k)
    show own_Goes p.tables e below P (T2.setTop (mkF m 4 #[.val (.ref a), .val (.int v), .val (.int (1 : Int32))] [(.ref a), (.int (1 : Int32))]))
    obtain ⟨T5, X5, e5, st5⟩ := getF X2 hx hZ hown (host := "") (Or.inl (hw _ (List.mem_of_getElem? (i := 17) rfl))) Via.refl e2 pr1 (g := (mkF m 4 #[.val (.ref a), .val (.int v), .val (.int (1 : Int32))] [(.ref a), (.int (1 : Int32))])) rfl rfl (hb hby own_d_prog_40_method_6_4)
    refine own_Goes.st ?_ st5
    show own_Goes p.tables e below P (T5.setTop (mkF m 7 #[.val (.ref a), .val (.int v), .val (.int (1 : Int32))] [(.int (2 : Int32)), (.int (1 : Int32))]))
    refine own_Goes.st ?_ (fun _ k => XS.icmpNo X5.here hx rfl (hb hby own_d_prog_40_method_6_7) rfl (tlt (by decide : (1 : Int32) < (2 : Int32))).2.1 k)
    show own_Goes p.tables e below P (T5.setTop (mkF m 10 #[.val (.ref a), .val (.int v), .val (.int (1 : Int32))] []))
    refine own_Goes.st ?_ (fun _ k => XS.aloadN X5.here hx rfl (hb hby own_d_prog_40_method_6_10) rfl rfl k)
    show own_Goes p.tables e below P (T5.setTop (mkF m 11 #[.val (.ref a), .val (.int v), .val (.int (1 : Int32))] [(.ref a)]))
    obtain ⟨T6, X6, e6, st6⟩ := getF X5 hx hZ hown (host := "") (Or.inl (hw _ (List.mem_of_getElem? (i := 10) rfl))) Via.refl e5 pr0 (g := (mkF m 11 #[.val (.ref a), .val (.int v), .val (.int (1 : Int32))] [(.ref a)])) rfl rfl (hb hby own_d_prog_40_method_6_11)
    refine own_Goes.st ?_ st6
    show own_Goes p.tables e below P (T6.setTop (mkF m 14 #[.val (.ref a), .val (.int v), .val (.int (1 : Int32))] [(.ref b)]))
    refine own_Goes.st ?_ (fun _ k => XS.iloadN X6.here hx rfl (hb hby own_d_prog_40_method_6_14) rfl k)
    show own_Goes p.tables e below P (T6.setTop (mkF m 15 #[.val (.ref a), .val (.int v), .val (.int (1 : Int32))] [(.int (1 : Int32)), (.ref b)]))
    have hin7 : ¬ ((1 : Int32) < 0 ∨ cl3.slots.size ≤ ((1 : Int32)).toNatClampNeg) := inb_of S3 ⟨by decide, by decide⟩
    refine own_Goes.st ?_ (X6.iaload hx (j := (1 : Int32)) (v := (.int x1)) (by rw [e6]; exact Ar3.1) (State.isArrayOf_alike hZ.alike Ar3.2.1) Ar3.2.2 hin7 (Has.at Hs3 hin7 rfl) (g := (mkF m 15 #[.val (.ref a), .val (.int v), .val (.int (1 : Int32))] [(.int (1 : Int32)), (.ref b)])) rfl rfl (hb hby own_d_prog_40_method_6_15))
    show own_Goes p.tables e below P (T6.setTop (mkF m 16 #[.val (.ref a), .val (.int v), .val (.int (1 : Int32))] [(.int x1)]))
    refine own_Goes.st ?_ (fun _ k => XS.iloadN X6.here hx rfl (hb hby own_d_prog_40_method_6_16) rfl k)
    show own_Goes p.tables e below P (T6.setTop (mkF m 17 #[.val (.ref a), .val (.int v), .val (.int (1 : Int32))] [(.int v), (.int x1)]))
    by_cases hx1 : x1 = v
    · skip
      refine own_Goes.st ?_ (fun _ k => XS.icmpNo X6.here hx rfl (hb hby own_d_prog_40_method_6_17) rfl (teq hx1).2 k)
      show own_Goes p.tables e below P (T6.setTop (mkF m 20 #[.val (.ref a), .val (.int v), .val (.int (1 : Int32))] []))
      refine own_Goes.st ?_ (fun _ k => XS.iconst X6.here hx rfl (hb hby own_d_prog_40_method_6_20) k)
      show own_Goes p.tables e below P (T6.setTop (mkF m 21 #[.val (.ref a), .val (.int v), .val (.int (1 : Int32))] [(.int (1 : Int32))]))
      obtain ⟨fs, hr, hrun, hended, hW, hsame⟩ := X6.leave (v := some (.int (1 : Int32))) (fun h => by rw [Bd.returns] at h; cases h)
      exact own_Goes.fin _ _ (retOut X6 hx (t := .boolean) Bd.returns rfl (Or.inl ⟨rfl, Or.inr (Or.inl rfl), _, rfl⟩) (hb hby own_d_prog_40_method_6_21) hr) (hPP _ _ ⟨hrun, hended, _, _, rfl, (by show Q_has_2 Z a v b k x0 x1 h0 n0 _ T6.heap _; rw [e6]; exact ⟨(by rw [if_neg hx0, if_pos hx1]), N0, rfl⟩), ⟨_, rfl⟩, hW, hsame.mono (by decide) (by decide)⟩)
    · skip
      refine own_Goes.st ?_ (fun _ k => XS.icmpYes X6.here hx rfl (pc0 := 17) (pc' := 22) rfl (hb hby own_d_prog_40_method_6_17) rfl (feq hx1).2 (by decide) (by decide) k)
      show own_Goes p.tables e below P (T6.setTop (mkF m 22 #[.val (.ref a), .val (.int v), .val (.int (1 : Int32))] []))
      refine own_Goes.st ?_ (fun _ k => XS.iinc X6.here hx rfl (hb hby own_d_prog_40_method_6_22) rfl (l' := #[.val (.ref a), .val (.int v), .val (.int (2 : Int32))]) rfl k)
      show own_Goes p.tables e below P (T6.setTop (mkF m 25 #[.val (.ref a), .val (.int v), .val (.int (2 : Int32))] []))
      refine own_Goes.st ?_ (fun _ k => XS.goto X6.here hx rfl (pc0 := 25) (pc' := 2) rfl (hb hby own_d_prog_40_method_6_25) (by decide) (by decide) k)
      show own_Goes p.tables e below P (T6.setTop (mkF m 2 #[.val (.ref a), .val (.int v), .val (.int (2 : Int32))] []))
      refine own_Goes.st ?_ (fun _ k => XS.iloadN X6.here hx rfl (hb hby own_d_prog_40_method_6_2) rfl k)
      show own_Goes p.tables e below P (T6.setTop (mkF m 3 #[.val (.ref a), .val (.int v), .val (.int (2 : Int32))] [(.int (2 : Int32))]))
      refine own_Goes.st ?_ (fun _ k => XS.aloadN X6.here hx rfl (hb hby own_d_prog_40_method_6_3) rfl rfl k)
      show own_Goes p.tables e below P (T6.setTop (mkF m 4 #[.val (.ref a), .val (.int v), .val (.int (2 : Int32))] [(.ref a), (.int (2 : Int32))]))
      obtain ⟨T8, X8, e8, st8⟩ := getF X6 hx hZ hown (host := "") (Or.inl (hw _ (List.mem_of_getElem? (i := 17) rfl))) Via.refl e6 pr1 (g := (mkF m 4 #[.val (.ref a), .val (.int v), .val (.int (2 : Int32))] [(.ref a), (.int (2 : Int32))])) rfl rfl (hb hby own_d_prog_40_method_6_4)
      refine own_Goes.st ?_ st8
      show own_Goes p.tables e below P (T8.setTop (mkF m 7 #[.val (.ref a), .val (.int v), .val (.int (2 : Int32))] [(.int (2 : Int32)), (.int (2 : Int32))]))
      refine own_Goes.st ?_ (fun _ k => XS.icmpYes X8.here hx rfl (pc0 := 7) (pc' := 28) rfl (hb hby own_d_prog_40_method_6_7) rfl (flt (by decide : ¬ ((2 : Int32) < (2 : Int32)))).2.1 (by decide) (by decide) k)
      show own_Goes p.tables e below P (T8.setTop (mkF m 28 #[.val (.ref a), .val (.int v), .val (.int (2 : Int32))] []))
      refine own_Goes.st ?_ (fun _ k => XS.iconst X8.here hx rfl (hb hby own_d_prog_40_method_6_28) k)
      show own_Goes p.tables e below P (T8.setTop (mkF m 29 #[.val (.ref a), .val (.int v), .val (.int (2 : Int32))] [(.int (0 : Int32))]))
      obtain ⟨fs, hr, hrun, hended, hW, hsame⟩ := X8.leave (v := some (.int (0 : Int32))) (fun h => by rw [Bd.returns] at h; cases h)
      exact own_Goes.fin _ _ (retOut X8 hx (t := .boolean) Bd.returns rfl (Or.inl ⟨rfl, Or.inr (Or.inl rfl), _, rfl⟩) (hb hby own_d_prog_40_method_6_29) hr) (hPP _ _ ⟨hrun, hended, _, _, rfl, (by show Q_has_2 Z a v b k x0 x1 h0 n0 _ T8.heap _; rw [e8]; exact ⟨(by rw [if_neg hx0, if_neg hx1]), N0, rfl⟩), ⟨_, rfl⟩, hW, hsame.mono (by decide) (by decide)⟩)
theorem own_ef_has_3 (m : MethodId) (x0 : Addr) (x1 : Int32) : entryFrame m #[(.ref x0), (.int x1)] 3 = mkF m 0 #[.val (.ref x0), .val (.int x1), .unset] [] := by first | (simp [entryFrame, mkF, argsToLocals, Value.category]; done) | rfl
def Q_has_3 (Z : State) (a : Addr) (v : Int32) (b : Addr) (k : ClassId) (x0 : Int32) (x1 : Int32) (x2 : Int32) (h0 : Heap) (n0 : Nat) (rv_ : Option Value) (h_ : Heap) (L_ : List Loc) : Prop := rv_ = some (.int (if x0 = v then 1 else (if x1 = v then 1 else (if x2 = v then 1 else 0)))) ∧ Fr n0 L_ ∧ h_ = h0
set_option maxRecDepth 65536 in
set_option maxHeartbeats 40000000 in
theorem rm_has_3 (l : Launch) (Z : State) (a0 : Array Value) (hw : ∀ d ∈ tables_1, d.before a0 Z = true) (ws : List Jvm.Cond) (a : Addr) (v : Int32) (b : Addr) (k : ClassId) (x0 : Int32) (x1 : Int32) (x2 : Int32) (h0 : Heap) (n0 : Nat) (Z0 : n0 ≤ h0.size) (pr0 : Fld Z h0 a "com/example/taxodelta/taxodelta/taxonomy/IntList" "values" "[I" (.ref b)) (pr1 : Fld Z h0 a "com/example/taxodelta/taxodelta/taxonomy/IntList" "size" "I" (.int (3 : Int32))) (pr2 : Arv Z h0 b k .int (4 : Int32) [(.int x0), (.int x1), (.int x2), (.int (0 : Int32))] (.int 0)) :
    MetFree l (⟨"com/example/taxodelta/taxodelta/taxonomy/IntList", "contains", "(I)Z"⟩ : MethodName) (head1 (Jvm.Cond.code (⟨"com/example/taxodelta/taxodelta/taxonomy/IntList", "contains", "(I)Z"⟩ : MethodName) prog_40_method_6_code 3 (some .boolean) :: ws) ({ frames := 0, cells := 0, slots := 0, locals := 0 } : Room)) (fun as_ U => as_ = #[(.ref a), (.int v)] ∧ Z.Warmed39 U.vm ∧ U.heap = h0) (fun _ _ _ _ _ => True) (fun _ U o U' => ∃ rv_ L_, o = .returned rv_ ∧ Q_has_3 Z a v b k x0 x1 x2 h0 n0 rv_ U'.heap L_ ∧ FrameEnd U o U' L_ ({ frames := 0, cells := 0, slots := 0, locals := 0 } : Room).cells ({ frames := 0, cells := 0, slots := 0, locals := 0 } : Room).slots) := by
  refine MetFree.of_bodySF (plainFor_of_name own_pn_com_example_taxodelta_taxodelta_taxonomy_IntList) hisR ?_
  intro p e s m args below meth c s₁ Bd hml0 hP hK
  obtain ⟨rfl, hZ, hh⟩ := hP
  have hx := Bd.exec
  have hby := Bd.bytes
  have hml : c.maxLocals = 3 := hml0
  have hown : s.vm.findClass "com/example/taxodelta/taxodelta/taxonomy/IntList" = some m.cls := findClass_of_methodNamed Bd.named
  have hnm := (name_of_methodNamed Bd.named Bd.method).1
  have X0 : Stand p l e ({ frames := 0, cells := 0, slots := 0, locals := 0 } : Room) s m #[(.ref a), (.int v)] below meth c s₁ [] 0 0 := Stand.of_body Bd
  have e0 : s₁.heap = h0 := by rw [← hh, Bd.state]; rfl
  have N0 := Fr.nil n0
  refine own_Goes.of ?_
  refine own_Goes.nm (fun P hPP => ?_)
  refine own_Goes.st ?_ (fun _ k => castTop (own_ef_has_3 m a v) k)
  show own_Goes p.tables e below P (s₁.setTop (mkF m 0 #[.val (.ref a), .val (.int v), .unset] []))
  refine own_Goes.st ?_ (fun _ k => XS.iconst X0.here hx rfl (hb hby own_d_prog_40_method_6_0) k)
  show own_Goes p.tables e below P (s₁.setTop (mkF m 1 #[.val (.ref a), .val (.int v), .unset] [(.int (0 : Int32))]))
  refine own_Goes.st ?_ (fun _ k => XS.istoreN X0.here hx rfl (hb hby own_d_prog_40_method_6_1) rfl (l' := #[.val (.ref a), .val (.int v), .val (.int (0 : Int32))]) rfl k)
  show own_Goes p.tables e below P (s₁.setTop (mkF m 2 #[.val (.ref a), .val (.int v), .val (.int (0 : Int32))] []))
  refine own_Goes.st ?_ (fun _ k => XS.iloadN X0.here hx rfl (hb hby own_d_prog_40_method_6_2) rfl k)
  show own_Goes p.tables e below P (s₁.setTop (mkF m 3 #[.val (.ref a), .val (.int v), .val (.int (0 : Int32))] [(.int (0 : Int32))]))
  refine own_Goes.st ?_ (fun _ k => XS.aloadN X0.here hx rfl (hb hby own_d_prog_40_method_6_3) rfl rfl k)
  show own_Goes p.tables e below P (s₁.setTop (mkF m 4 #[.val (.ref a), .val (.int v), .val (.int (0 : Int32))] [(.ref a), (.int (0 : Int32))]))
  obtain ⟨T1, X1, e1, st1⟩ := getF X0 hx hZ hown (host := "") (Or.inl (hw _ (List.mem_of_getElem? (i := 17) rfl))) Via.refl e0 pr1 (g := (mkF m 4 #[.val (.ref a), .val (.int v), .val (.int (0 : Int32))] [(.ref a), (.int (0 : Int32))])) rfl rfl (hb hby own_d_prog_40_method_6_4)
  refine own_Goes.st ?_ st1
  show own_Goes p.tables e below P (T1.setTop (mkF m 7 #[.val (.ref a), .val (.int v), .val (.int (0 : Int32))] [(.int (3 : Int32)), (.int (0 : Int32))]))
  refine own_Goes.st ?_ (fun _ k => XS.icmpNo X1.here hx rfl (hb hby own_d_prog_40_method_6_7) rfl (tlt (by decide : (0 : Int32) < (3 : Int32))).2.1 k)
  show own_Goes p.tables e below P (T1.setTop (mkF m 10 #[.val (.ref a), .val (.int v), .val (.int (0 : Int32))] []))
  refine own_Goes.st ?_ (fun _ k => XS.aloadN X1.here hx rfl (hb hby own_d_prog_40_method_6_10) rfl rfl k)
  show own_Goes p.tables e below P (T1.setTop (mkF m 11 #[.val (.ref a), .val (.int v), .val (.int (0 : Int32))] [(.ref a)]))
  obtain ⟨T2, X2, e2, st2⟩ := getF X1 hx hZ hown (host := "") (Or.inl (hw _ (List.mem_of_getElem? (i := 10) rfl))) Via.refl e1 pr0 (g := (mkF m 11 #[.val (.ref a), .val (.int v), .val (.int (0 : Int32))] [(.ref a)])) rfl rfl (hb hby own_d_prog_40_method_6_11)
  refine own_Goes.st ?_ st2
  show own_Goes p.tables e below P (T2.setTop (mkF m 14 #[.val (.ref a), .val (.int v), .val (.int (0 : Int32))] [(.ref b)]))
  refine own_Goes.st ?_ (fun _ k => XS.iloadN X2.here hx rfl (hb hby own_d_prog_40_method_6_14) rfl k)
  show own_Goes p.tables e below P (T2.setTop (mkF m 15 #[.val (.ref a), .val (.int v), .val (.int (0 : Int32))] [(.int (0 : Int32)), (.ref b)]))
  have Vc3 := pr2
  obtain ⟨cl3, Ar3, q3, S3, Nn3, Hs3, Gs3⟩ := Vc3
  have hin4 : ¬ ((0 : Int32) < 0 ∨ cl3.slots.size ≤ ((0 : Int32)).toNatClampNeg) := inb_of S3 ⟨by decide, by decide⟩
  refine own_Goes.st ?_ (X2.iaload hx (j := (0 : Int32)) (v := (.int x0)) (by rw [e2]; exact Ar3.1) (State.isArrayOf_alike hZ.alike Ar3.2.1) Ar3.2.2 hin4 (Has.at Hs3 hin4 rfl) (g := (mkF m 15 #[.val (.ref a), .val (.int v), .val (.int (0 : Int32))] [(.int (0 : Int32)), (.ref b)])) rfl rfl (hb hby own_d_prog_40_method_6_15))
  show own_Goes p.tables e below P (T2.setTop (mkF m 16 #[.val (.ref a), .val (.int v), .val (.int (0 : Int32))] [(.int x0)]))
  refine own_Goes.st ?_ (fun _ k => XS.iloadN X2.here hx rfl (hb hby own_d_prog_40_method_6_16) rfl k)
  show own_Goes p.tables e below P (T2.setTop (mkF m 17 #[.val (.ref a), .val (.int v), .val (.int (0 : Int32))] [(.int v), (.int x0)]))
  by_cases hx0 : x0 = v
  · skip
    refine own_Goes.st ?_ (fun _ k => XS.icmpNo X2.here hx rfl (hb hby own_d_prog_40_method_6_17) rfl (teq hx0).2 k)
    show own_Goes p.tables e below P (T2.setTop (mkF m 20 #[.val (.ref a), .val (.int v), .val (.int (0 : Int32))] []))
    refine own_Goes.st ?_ (fun _ k => XS.iconst X2.here hx rfl (hb hby own_d_prog_40_method_6_20) k)
    show own_Goes p.tables e below P (T2.setTop (mkF m 21 #[.val (.ref a), .val (.int v), .val (.int (0 : Int32))] [(.int (1 : Int32))]))
    obtain ⟨fs, hr, hrun, hended, hW, hsame⟩ := X2.leave (v := some (.int (1 : Int32))) (fun h => by rw [Bd.returns] at h; cases h)
    exact own_Goes.fin _ _ (retOut X2 hx (t := .boolean) Bd.returns rfl (Or.inl ⟨rfl, Or.inr (Or.inl rfl), _, rfl⟩) (hb hby own_d_prog_40_method_6_21) hr) (hPP _ _ ⟨hrun, hended, _, _, rfl, (by show Q_has_3 Z a v b k x0 x1 x2 h0 n0 _ T2.heap _; rw [e2]; exact ⟨(by rw [if_pos hx0]), N0, rfl⟩), ⟨_, rfl⟩, hW, hsame.mono (by decide) (by decide)⟩)
  · skip
    refine own_Goes.st ?_ (fun _ k => XS.icmpYes X2.here hx rfl (pc0 := 17) (pc' := 22) rfl (hb hby own_d_prog_40_method_6_17) rfl (feq hx0).2 (by decide) (by decide) k)
    show own_Goes p.tables e below P (T2.setTop (mkF m 22 #[.val (.ref a), .val (.int v), .val (.int (0 : Int32))] []))
    refine own_Goes.st ?_ (fun _ k => XS.iinc X2.here hx rfl (hb hby own_d_prog_40_method_6_22) rfl (l' := #[.val (.ref a), .val (.int v), .val (.int (1 : Int32))]) rfl k)
    show own_Goes p.tables e below P (T2.setTop (mkF m 25 #[.val (.ref a), .val (.int v), .val (.int (1 : Int32))] []))
    refine own_Goes.st ?_ (fun _ k => XS.goto X2.here hx rfl (pc0 := 25) (pc' := 2) rfl (hb hby own_d_prog_40_method_6_25) (by decide) (by decide) k)
    show own_Goes p.tables e below P (T2.setTop (mkF m 2 #[.val (.ref a), .val (.int v), .val (.int (1 : Int32))] []))
    refine own_Goes.st ?_ (fun _ k => XS.iloadN X2.here hx rfl (hb hby own_d_prog_40_method_6_2) rfl k)
    show own_Goes p.tables e below P (T2.setTop (mkF m 3 #[.val (.ref a), .val (.int v), .val (.int (1 : Int32))] [(.int (1 : Int32))]))
    refine own_Goes.st ?_ (fun _ k => XS.aloadN X2.here hx rfl (hb hby own_d_prog_40_method_6_3) rfl rfl k)
    show own_Goes p.tables e below P (T2.setTop (mkF m 4 #[.val (.ref a), .val (.int v), .val (.int (1 : Int32))] [(.ref a), (.int (1 : Int32))]))
    obtain ⟨T5, X5, e5, st5⟩ := getF X2 hx hZ hown (host := "") (Or.inl (hw _ (List.mem_of_getElem? (i := 17) rfl))) Via.refl e2 pr1 (g := (mkF m 4 #[.val (.ref a), .val (.int v), .val (.int (1 : Int32))] [(.ref a), (.int (1 : Int32))])) rfl rfl (hb hby own_d_prog_40_method_6_4)
    refine own_Goes.st ?_ st5
    show own_Goes p.tables e below P (T5.setTop (mkF m 7 #[.val (.ref a), .val (.int v), .val (.int (1 : Int32))] [(.int (3 : Int32)), (.int (1 : Int32))]))
    refine own_Goes.st ?_ (fun _ k => XS.icmpNo X5.here hx rfl (hb hby own_d_prog_40_method_6_7) rfl (tlt (by decide : (1 : Int32) < (3 : Int32))).2.1 k)
    show own_Goes p.tables e below P (T5.setTop (mkF m 10 #[.val (.ref a), .val (.int v), .val (.int (1 : Int32))] []))
    refine own_Goes.st ?_ (fun _ k => XS.aloadN X5.here hx rfl (hb hby own_d_prog_40_method_6_10) rfl rfl k)
    show own_Goes p.tables e below P (T5.setTop (mkF m 11 #[.val (.ref a), .val (.int v), .val (.int (1 : Int32))] [(.ref a)]))
    obtain ⟨T6, X6, e6, st6⟩ := getF X5 hx hZ hown (host := "") (Or.inl (hw _ (List.mem_of_getElem? (i := 10) rfl))) Via.refl e5 pr0 (g := (mkF m 11 #[.val (.ref a), .val (.int v), .val (.int (1 : Int32))] [(.ref a)])) rfl rfl (hb hby own_d_prog_40_method_6_11)
    refine own_Goes.st ?_ st6
    show own_Goes p.tables e below P (T6.setTop (mkF m 14 #[.val (.ref a), .val (.int v), .val (.int (1 : Int32))] [(.ref b)]))
    refine own_Goes.st ?_ (fun _ k => XS.iloadN X6.here hx rfl (hb hby own_d_prog_40_method_6_14) rfl k)
    show own_Goes p.tables e below P (T6.setTop (mkF m 15 #[.val (.ref a), .val (.int v), .val (.int (1 : Int32))] [(.int (1 : Int32)), (.ref b)]))
    have hin7 : ¬ ((1 : Int32) < 0 ∨ cl3.slots.size ≤ ((1 : Int32)).toNatClampNeg) := inb_of S3 ⟨by decide, by decide⟩
    refine own_Goes.st ?_ (X6.iaload hx (j := (1 : Int32)) (v := (.int x1)) (by rw [e6]; exact Ar3.1) (State.isArrayOf_alike hZ.alike Ar3.2.1) Ar3.2.2 hin7 (Has.at Hs3 hin7 rfl) (g := (mkF m 15 #[.val (.ref a), .val (.int v), .val (.int (1 : Int32))] [(.int (1 : Int32)), (.ref b)])) rfl rfl (hb hby own_d_prog_40_method_6_15))
    show own_Goes p.tables e below P (T6.setTop (mkF m 16 #[.val (.ref a), .val (.int v), .val (.int (1 : Int32))] [(.int x1)]))
    refine own_Goes.st ?_ (fun _ k => XS.iloadN X6.here hx rfl (hb hby own_d_prog_40_method_6_16) rfl k)
    show own_Goes p.tables e below P (T6.setTop (mkF m 17 #[.val (.ref a), .val (.int v), .val (.int (1 : Int32))] [(.int v), (.int x1)]))
    by_cases hx1 : x1 = v
    · skip
      refine own_Goes.st ?_ (fun _ k => XS.icmpNo X6.here hx rfl (hb hby own_d_prog_40_method_6_17) rfl (teq hx1).2 k)
      show own_Goes p.tables e below P (T6.setTop (mkF m 20 #[.val (.ref a), .val (.int v), .val (.int (1 : Int32))] []))
      refine own_Goes.st ?_ (fun _ k => XS.iconst X6.here hx rfl (hb hby own_d_prog_40_method_6_20) k)
      show own_Goes p.tables e below P (T6.setTop (mkF m 21 #[.val (.ref a), .val (.int v), .val (.int (1 : Int32))] [(.int (1 : Int32))]))
      obtain ⟨fs, hr, hrun, hended, hW, hsame⟩ := X6.leave (v := some (.int (1 : Int32))) (fun h => by rw [Bd.returns] at h; cases h)
      exact own_Goes.fin _ _ (retOut X6 hx (t := .boolean) Bd.returns rfl (Or.inl ⟨rfl, Or.inr (Or.inl rfl), _, rfl⟩) (hb hby own_d_prog_40_method_6_21) hr) (hPP _ _ ⟨hrun, hended, _, _, rfl, (by show Q_has_3 Z a v b k x0 x1 x2 h0 n0 _ T6.heap _; rw [e6]; exact ⟨(by rw [if_neg hx0, if_pos hx1]), N0, rfl⟩), ⟨_, rfl⟩, hW, hsame.mono (by decide) (by decide)⟩)
    · skip
      refine own_Goes.st ?_ (fun _ k => XS.icmpYes X6.here hx rfl (pc0 := 17) (pc' := 22) rfl (hb hby own_d_prog_40_method_6_17) rfl (feq hx1).2 (by decide) (by decide) k)
      show own_Goes p.tables e below P (T6.setTop (mkF m 22 #[.val (.ref a), .val (.int v), .val (.int (1 : Int32))] []))
      refine own_Goes.st ?_ (fun _ k => XS.iinc X6.here hx rfl (hb hby own_d_prog_40_method_6_22) rfl (l' := #[.val (.ref a), .val (.int v), .val (.int (2 : Int32))]) rfl k)
      show own_Goes p.tables e below P (T6.setTop (mkF m 25 #[.val (.ref a), .val (.int v), .val (.int (2 : Int32))] []))
      refine own_Goes.st ?_ (fun _ k => XS.goto X6.here hx rfl (pc0 := 25) (pc' := 2) rfl (hb hby own_d_prog_40_method_6_25) (by decide) (by decide) k)
      show own_Goes p.tables e below P (T6.setTop (mkF m 2 #[.val (.ref a), .val (.int v), .val (.int (2 : Int32))] []))
      refine own_Goes.st ?_ (fun _ k => XS.iloadN X6.here hx rfl (hb hby own_d_prog_40_method_6_2) rfl k)
      show own_Goes p.tables e below P (T6.setTop (mkF m 3 #[.val (.ref a), .val (.int v), .val (.int (2 : Int32))] [(.int (2 : Int32))]))
      refine own_Goes.st ?_ (fun _ k => XS.aloadN X6.here hx rfl (hb hby own_d_prog_40_method_6_3) rfl rfl k)
      show own_Goes p.tables e below P (T6.setTop (mkF m 4 #[.val (.ref a), .val (.int v), .val (.int (2 : Int32))] [(.ref a), (.int (2 : Int32))]))
      obtain ⟨T8, X8, e8, st8⟩ := getF X6 hx hZ hown (host := "") (Or.inl (hw _ (List.mem_of_getElem? (i := 17) rfl))) Via.refl e6 pr1 (g := (mkF m 4 #[.val (.ref a), .val (.int v), .val (.int (2 : Int32))] [(.ref a), (.int (2 : Int32))])) rfl rfl (hb hby own_d_prog_40_method_6_4)
      refine own_Goes.st ?_ st8
      show own_Goes p.tables e below P (T8.setTop (mkF m 7 #[.val (.ref a), .val (.int v), .val (.int (2 : Int32))] [(.int (3 : Int32)), (.int (2 : Int32))]))
      refine own_Goes.st ?_ (fun _ k => XS.icmpNo X8.here hx rfl (hb hby own_d_prog_40_method_6_7) rfl (tlt (by decide : (2 : Int32) < (3 : Int32))).2.1 k)
      show own_Goes p.tables e below P (T8.setTop (mkF m 10 #[.val (.ref a), .val (.int v), .val (.int (2 : Int32))] []))
      refine own_Goes.st ?_ (fun _ k => XS.aloadN X8.here hx rfl (hb hby own_d_prog_40_method_6_10) rfl rfl k)
      show own_Goes p.tables e below P (T8.setTop (mkF m 11 #[.val (.ref a), .val (.int v), .val (.int (2 : Int32))] [(.ref a)]))
      obtain ⟨T9, X9, e9, st9⟩ := getF X8 hx hZ hown (host := "") (Or.inl (hw _ (List.mem_of_getElem? (i := 10) rfl))) Via.refl e8 pr0 (g := (mkF m 11 #[.val (.ref a), .val (.int v), .val (.int (2 : Int32))] [(.ref a)])) rfl rfl (hb hby own_d_prog_40_method_6_11)
      refine own_Goes.st ?_ st9
      show own_Goes p.tables e below P (T9.setTop (mkF m 14 #[.val (.ref a), .val (.int v), .val (.int (2 : Int32))] [(.ref b)]))
      refine own_Goes.st ?_ (fun _ k => XS.iloadN X9.here hx rfl (hb hby own_d_prog_40_method_6_14) rfl k)
      show own_Goes p.tables e below P (T9.setTop (mkF m 15 #[.val (.ref a), .val (.int v), .val (.int (2 : Int32))] [(.int (2 : Int32)), (.ref b)]))
      have hin10 : ¬ ((2 : Int32) < 0 ∨ cl3.slots.size ≤ ((2 : Int32)).toNatClampNeg) := inb_of S3 ⟨by decide, by decide⟩
      refine own_Goes.st ?_ (X9.iaload hx (j := (2 : Int32)) (v := (.int x2)) (by rw [e9]; exact Ar3.1) (State.isArrayOf_alike hZ.alike Ar3.2.1) Ar3.2.2 hin10 (Has.at Hs3 hin10 rfl) (g := (mkF m 15 #[.val (.ref a), .val (.int v), .val (.int (2 : Int32))] [(.int (2 : Int32)), (.ref b)])) rfl rfl (hb hby own_d_prog_40_method_6_15))
      show own_Goes p.tables e below P (T9.setTop (mkF m 16 #[.val (.ref a), .val (.int v), .val (.int (2 : Int32))] [(.int x2)]))
      refine own_Goes.st ?_ (fun _ k => XS.iloadN X9.here hx rfl (hb hby own_d_prog_40_method_6_16) rfl k)
      show own_Goes p.tables e below P (T9.setTop (mkF m 17 #[.val (.ref a), .val (.int v), .val (.int (2 : Int32))] [(.int v), (.int x2)]))
      by_cases hx2 : x2 = v
      · skip
        refine own_Goes.st ?_ (fun _ k => XS.icmpNo X9.here hx rfl (hb hby own_d_prog_40_method_6_17) rfl (teq hx2).2 k)
        show own_Goes p.tables e below P (T9.setTop (mkF m 20 #[.val (.ref a), .val (.int v), .val (.int (2 : Int32))] []))
        refine own_Goes.st ?_ (fun _ k => XS.iconst X9.here hx rfl (hb hby own_d_prog_40_method_6_20) k)
        show own_Goes p.tables e below P (T9.setTop (mkF m 21 #[.val (.ref a), .val (.int v), .val (.int (2 : Int32))] [(.int (1 : Int32))]))
        obtain ⟨fs, hr, hrun, hended, hW, hsame⟩ := X9.leave (v := some (.int (1 : Int32))) (fun h => by rw [Bd.returns] at h; cases h)
        exact own_Goes.fin _ _ (retOut X9 hx (t := .boolean) Bd.returns rfl (Or.inl ⟨rfl, Or.inr (Or.inl rfl), _, rfl⟩) (hb hby own_d_prog_40_method_6_21) hr) (hPP _ _ ⟨hrun, hended, _, _, rfl, (by show Q_has_3 Z a v b k x0 x1 x2 h0 n0 _ T9.heap _; rw [e9]; exact ⟨(by rw [if_neg hx0, if_neg hx1, if_pos hx2]), N0, rfl⟩), ⟨_, rfl⟩, hW, hsame.mono (by decide) (by decide)⟩)
      · skip
        refine own_Goes.st ?_ (fun _ k => XS.icmpYes X9.here hx rfl (pc0 := 17) (pc' := 22) rfl (hb hby own_d_prog_40_method_6_17) rfl (feq hx2).2 (by decide) (by decide) k)
        show own_Goes p.tables e below P (T9.setTop (mkF m 22 #[.val (.ref a), .val (.int v), .val (.int (2 : Int32))] []))
        refine own_Goes.st ?_ (fun _ k => XS.iinc X9.here hx rfl (hb hby own_d_prog_40_method_6_22) rfl (l' := #[.val (.ref a), .val (.int v), .val (.int (3 : Int32))]) rfl k)
        show own_Goes p.tables e below P (T9.setTop (mkF m 25 #[.val (.ref a), .val (.int v), .val (.int (3 : Int32))] []))
        refine own_Goes.st ?_ (fun _ k => XS.goto X9.here hx rfl (pc0 := 25) (pc' := 2) rfl (hb hby own_d_prog_40_method_6_25) (by decide) (by decide) k)
        show own_Goes p.tables e below P (T9.setTop (mkF m 2 #[.val (.ref a), .val (.int v), .val (.int (3 : Int32))] []))
        refine own_Goes.st ?_ (fun _ k => XS.iloadN X9.here hx rfl (hb hby own_d_prog_40_method_6_2) rfl k)
        show own_Goes p.tables e below P (T9.setTop (mkF m 3 #[.val (.ref a), .val (.int v), .val (.int (3 : Int32))] [(.int (3 : Int32))]))
        refine own_Goes.st ?_ (fun _ k => XS.aloadN X9.here hx rfl (hb hby own_d_prog_40_method_6_3) rfl rfl k)
        show own_Goes p.tables e below P (T9.setTop (mkF m 4 #[.val (.ref a), .val (.int v), .val (.int (3 : Int32))] [(.ref a), (.int (3 : Int32))]))
        obtain ⟨T11, X11, e11, st11⟩ := getF X9 hx hZ hown (host := "") (Or.inl (hw _ (List.mem_of_getElem? (i := 17) rfl))) Via.refl e9 pr1 (g := (mkF m 4 #[.val (.ref a), .val (.int v), .val (.int (3 : Int32))] [(.ref a), (.int (3 : Int32))])) rfl rfl (hb hby own_d_prog_40_method_6_4)
        refine own_Goes.st ?_ st11
        show own_Goes p.tables e below P (T11.setTop (mkF m 7 #[.val (.ref a), .val (.int v), .val (.int (3 : Int32))] [(.int (3 : Int32)), (.int (3 : Int32))]))
        refine own_Goes.st ?_ (fun _ k => XS.icmpYes X11.here hx rfl (pc0 := 7) (pc' := 28) rfl (hb hby own_d_prog_40_method_6_7) rfl (flt (by decide : ¬ ((3 : Int32) < (3 : Int32)))).2.1 (by decide) (by decide) k)
        show own_Goes p.tables e below P (T11.setTop (mkF m 28 #[.val (.ref a), .val (.int v), .val (.int (3 : Int32))] []))
        refine own_Goes.st ?_ (fun _ k => XS.iconst X11.here hx rfl (hb hby own_d_prog_40_method_6_28) k)
        show own_Goes p.tables e below P (T11.setTop (mkF m 29 #[.val (.ref a), .val (.int v), .val (.int (3 : Int32))] [(.int (0 : Int32))]))
        obtain ⟨fs, hr, hrun, hended, hW, hsame⟩ := X11.leave (v := some (.int (0 : Int32))) (fun h => by rw [Bd.returns] at h; cases h)
        exact own_Goes.fin _ _ (retOut X11 hx (t := .boolean) Bd.returns rfl (Or.inl ⟨rfl, Or.inr (Or.inl rfl), _, rfl⟩) (hb hby own_d_prog_40_method_6_29) hr) (hPP _ _ ⟨hrun, hended, _, _, rfl, (by show Q_has_3 Z a v b k x0 x1 x2 h0 n0 _ T11.heap _; rw [e11]; exact ⟨(by rw [if_neg hx0, if_neg hx1, if_neg hx2]), N0, rfl⟩), ⟨_, rfl⟩, hW, hsame.mono (by decide) (by decide)⟩)
theorem own_ef_has_4 (m : MethodId) (x0 : Addr) (x1 : Int32) : entryFrame m #[(.ref x0), (.int x1)] 3 = mkF m 0 #[.val (.ref x0), .val (.int x1), .unset] [] := by first | (simp [entryFrame, mkF, argsToLocals, Value.category]; done) | rfl
def Q_has_4 (Z : State) (a : Addr) (v : Int32) (b : Addr) (k : ClassId) (x0 : Int32) (x1 : Int32) (x2 : Int32) (x3 : Int32) (h0 : Heap) (n0 : Nat) (rv_ : Option Value) (h_ : Heap) (L_ : List Loc) : Prop := rv_ = some (.int (if x0 = v then 1 else (if x1 = v then 1 else (if x2 = v then 1 else (if x3 = v then 1 else 0))))) ∧ Fr n0 L_ ∧ h_ = h0
set_option maxRecDepth 65536 in
set_option maxHeartbeats 40000000 in
theorem rm_has_4 (l : Launch) (Z : State) (a0 : Array Value) (hw : ∀ d ∈ tables_1, d.before a0 Z = true) (ws : List Jvm.Cond) (a : Addr) (v : Int32) (b : Addr) (k : ClassId) (x0 : Int32) (x1 : Int32) (x2 : Int32) (x3 : Int32) (h0 : Heap) (n0 : Nat) (Z0 : n0 ≤ h0.size) (pr0 : Fld Z h0 a "com/example/taxodelta/taxodelta/taxonomy/IntList" "values" "[I" (.ref b)) (pr1 : Fld Z h0 a "com/example/taxodelta/taxodelta/taxonomy/IntList" "size" "I" (.int (4 : Int32))) (pr2 : Arv Z h0 b k .int (4 : Int32) [(.int x0), (.int x1), (.int x2), (.int x3)] (.int 0)) :
    MetFree l (⟨"com/example/taxodelta/taxodelta/taxonomy/IntList", "contains", "(I)Z"⟩ : MethodName) (head1 (Jvm.Cond.code (⟨"com/example/taxodelta/taxodelta/taxonomy/IntList", "contains", "(I)Z"⟩ : MethodName) prog_40_method_6_code 3 (some .boolean) :: ws) ({ frames := 0, cells := 0, slots := 0, locals := 0 } : Room)) (fun as_ U => as_ = #[(.ref a), (.int v)] ∧ Z.Warmed39 U.vm ∧ U.heap = h0) (fun _ _ _ _ _ => True) (fun _ U o U' => ∃ rv_ L_, o = .returned rv_ ∧ Q_has_4 Z a v b k x0 x1 x2 x3 h0 n0 rv_ U'.heap L_ ∧ FrameEnd U o U' L_ ({ frames := 0, cells := 0, slots := 0, locals := 0 } : Room).cells ({ frames := 0, cells := 0, slots := 0, locals := 0 } : Room).slots) := by
  refine MetFree.of_bodySF (plainFor_of_name own_pn_com_example_taxodelta_taxodelta_taxonomy_IntList) hisR ?_
  intro p e s m args below meth c s₁ Bd hml0 hP hK
  obtain ⟨rfl, hZ, hh⟩ := hP
  have hx := Bd.exec
  have hby := Bd.bytes
  have hml : c.maxLocals = 3 := hml0
  have hown : s.vm.findClass "com/example/taxodelta/taxodelta/taxonomy/IntList" = some m.cls := findClass_of_methodNamed Bd.named
  have hnm := (name_of_methodNamed Bd.named Bd.method).1
  have X0 : Stand p l e ({ frames := 0, cells := 0, slots := 0, locals := 0 } : Room) s m #[(.ref a), (.int v)] below meth c s₁ [] 0 0 := Stand.of_body Bd
  have e0 : s₁.heap = h0 := by rw [← hh, Bd.state]; rfl
  have N0 := Fr.nil n0
  refine own_Goes.of ?_
  refine own_Goes.nm (fun P hPP => ?_)
  refine own_Goes.st ?_ (fun _ k => castTop (own_ef_has_4 m a v) k)
  show own_Goes p.tables e below P (s₁.setTop (mkF m 0 #[.val (.ref a), .val (.int v), .unset] []))
  refine own_Goes.st ?_ (fun _ k => XS.iconst X0.here hx rfl (hb hby own_d_prog_40_method_6_0) k)
  show own_Goes p.tables e below P (s₁.setTop (mkF m 1 #[.val (.ref a), .val (.int v), .unset] [(.int (0 : Int32))]))
  refine own_Goes.st ?_ (fun _ k => XS.istoreN X0.here hx rfl (hb hby own_d_prog_40_method_6_1) rfl (l' := #[.val (.ref a), .val (.int v), .val (.int (0 : Int32))]) rfl k)
  show own_Goes p.tables e below P (s₁.setTop (mkF m 2 #[.val (.ref a), .val (.int v), .val (.int (0 : Int32))] []))
  refine own_Goes.st ?_ (fun _ k => XS.iloadN X0.here hx rfl (hb hby own_d_prog_40_method_6_2) rfl k)
  show own_Goes p.tables e below P (s₁.setTop (mkF m 3 #[.val (.ref a), .val (.int v), .val (.int (0 : Int32))] [(.int (0 : Int32))]))
  refine own_Goes.st ?_ (fun _ k => XS.aloadN X0.here hx rfl (hb hby own_d_prog_40_method_6_3) rfl rfl k)
  show own_Goes p.tables e below P (s₁.setTop (mkF m 4 #[.val (.ref a), .val (.int v), .val (.int (0 : Int32))] [(.ref a), (.int (0 : Int32))]))
  obtain ⟨T1, X1, e1, st1⟩ := getF X0 hx hZ hown (host := "") (Or.inl (hw _ (List.mem_of_getElem? (i := 17) rfl))) Via.refl e0 pr1 (g := (mkF m 4 #[.val (.ref a), .val (.int v), .val (.int (0 : Int32))] [(.ref a), (.int (0 : Int32))])) rfl rfl (hb hby own_d_prog_40_method_6_4)
  refine own_Goes.st ?_ st1
  show own_Goes p.tables e below P (T1.setTop (mkF m 7 #[.val (.ref a), .val (.int v), .val (.int (0 : Int32))] [(.int (4 : Int32)), (.int (0 : Int32))]))
  refine own_Goes.st ?_ (fun _ k => XS.icmpNo X1.here hx rfl (hb hby own_d_prog_40_method_6_7) rfl (tlt (by decide : (0 : Int32) < (4 : Int32))).2.1 k)
  show own_Goes p.tables e below P (T1.setTop (mkF m 10 #[.val (.ref a), .val (.int v), .val (.int (0 : Int32))] []))
  refine own_Goes.st ?_ (fun _ k => XS.aloadN X1.here hx rfl (hb hby own_d_prog_40_method_6_10) rfl rfl k)
  show own_Goes p.tables e below P (T1.setTop (mkF m 11 #[.val (.ref a), .val (.int v), .val (.int (0 : Int32))] [(.ref a)]))
  obtain ⟨T2, X2, e2, st2⟩ := getF X1 hx hZ hown (host := "") (Or.inl (hw _ (List.mem_of_getElem? (i := 10) rfl))) Via.refl e1 pr0 (g := (mkF m 11 #[.val (.ref a), .val (.int v), .val (.int (0 : Int32))] [(.ref a)])) rfl rfl (hb hby own_d_prog_40_method_6_11)
  refine own_Goes.st ?_ st2
  show own_Goes p.tables e below P (T2.setTop (mkF m 14 #[.val (.ref a), .val (.int v), .val (.int (0 : Int32))] [(.ref b)]))
  refine own_Goes.st ?_ (fun _ k => XS.iloadN X2.here hx rfl (hb hby own_d_prog_40_method_6_14) rfl k)
  show own_Goes p.tables e below P (T2.setTop (mkF m 15 #[.val (.ref a), .val (.int v), .val (.int (0 : Int32))] [(.int (0 : Int32)), (.ref b)]))
  have Vc3 := pr2
  obtain ⟨cl3, Ar3, q3, S3, Nn3, Hs3, Gs3⟩ := Vc3
  have hin4 : ¬ ((0 : Int32) < 0 ∨ cl3.slots.size ≤ ((0 : Int32)).toNatClampNeg) := inb_of S3 ⟨by decide, by decide⟩
  refine own_Goes.st ?_ (X2.iaload hx (j := (0 : Int32)) (v := (.int x0)) (by rw [e2]; exact Ar3.1) (State.isArrayOf_alike hZ.alike Ar3.2.1) Ar3.2.2 hin4 (Has.at Hs3 hin4 rfl) (g := (mkF m 15 #[.val (.ref a), .val (.int v), .val (.int (0 : Int32))] [(.int (0 : Int32)), (.ref b)])) rfl rfl (hb hby own_d_prog_40_method_6_15))
  show own_Goes p.tables e below P (T2.setTop (mkF m 16 #[.val (.ref a), .val (.int v), .val (.int (0 : Int32))] [(.int x0)]))
  refine own_Goes.st ?_ (fun _ k => XS.iloadN X2.here hx rfl (hb hby own_d_prog_40_method_6_16) rfl k)
  show own_Goes p.tables e below P (T2.setTop (mkF m 17 #[.val (.ref a), .val (.int v), .val (.int (0 : Int32))] [(.int v), (.int x0)]))
  by_cases hx0 : x0 = v
  · skip
    refine own_Goes.st ?_ (fun _ k => XS.icmpNo X2.here hx rfl (hb hby own_d_prog_40_method_6_17) rfl (teq hx0).2 k)
    show own_Goes p.tables e below P (T2.setTop (mkF m 20 #[.val (.ref a), .val (.int v), .val (.int (0 : Int32))] []))
    refine own_Goes.st ?_ (fun _ k => XS.iconst X2.here hx rfl (hb hby own_d_prog_40_method_6_20) k)
    show own_Goes p.tables e below P (T2.setTop (mkF m 21 #[.val (.ref a), .val (.int v), .val (.int (0 : Int32))] [(.int (1 : Int32))]))
    obtain ⟨fs, hr, hrun, hended, hW, hsame⟩ := X2.leave (v := some (.int (1 : Int32))) (fun h => by rw [Bd.returns] at h; cases h)
    exact own_Goes.fin _ _ (retOut X2 hx (t := .boolean) Bd.returns rfl (Or.inl ⟨rfl, Or.inr (Or.inl rfl), _, rfl⟩) (hb hby own_d_prog_40_method_6_21) hr) (hPP _ _ ⟨hrun, hended, _, _, rfl, (by show Q_has_4 Z a v b k x0 x1 x2 x3 h0 n0 _ T2.heap _; rw [e2]; exact ⟨(by rw [if_pos hx0]), N0, rfl⟩), ⟨_, rfl⟩, hW, hsame.mono (by decide) (by decide)⟩)
  · skip
    refine own_Goes.st ?_ (fun _ k => XS.icmpYes X2.here hx rfl (pc0 := 17) (pc' := 22) rfl (hb hby own_d_prog_40_method_6_17) rfl (feq hx0).2 (by decide) (by decide) k)
    show own_Goes p.tables e below P (T2.setTop (mkF m 22 #[.val (.ref a), .val (.int v), .val (.int (0 : Int32))] []))
    refine own_Goes.st ?_ (fun _ k => XS.iinc X2.here hx rfl (hb hby own_d_prog_40_method_6_22) rfl (l' := #[.val (.ref a), .val (.int v), .val (.int (1 : Int32))]) rfl k)
    show own_Goes p.tables e below P (T2.setTop (mkF m 25 #[.val (.ref a), .val (.int v), .val (.int (1 : Int32))] []))
    refine own_Goes.st ?_ (fun _ k => XS.goto X2.here hx rfl (pc0 := 25) (pc' := 2) rfl (hb hby own_d_prog_40_method_6_25) (by decide) (by decide) k)
    show own_Goes p.tables e below P (T2.setTop (mkF m 2 #[.val (.ref a), .val (.int v), .val (.int (1 : Int32))] []))
    refine own_Goes.st ?_ (fun _ k => XS.iloadN X2.here hx rfl (hb hby own_d_prog_40_method_6_2) rfl k)
    show own_Goes p.tables e below P (T2.setTop (mkF m 3 #[.val (.ref a), .val (.int v), .val (.int (1 : Int32))] [(.int (1 : Int32))]))
    refine own_Goes.st ?_ (fun _ k => XS.aloadN X2.here hx rfl (hb hby own_d_prog_40_method_6_3) rfl rfl k)
    show own_Goes p.tables e below P (T2.setTop (mkF m 4 #[.val (.ref a), .val (.int v), .val (.int (1 : Int32))] [(.ref a), (.int (1 : Int32))]))
    obtain ⟨T5, X5, e5, st5⟩ := getF X2 hx hZ hown (host := "") (Or.inl (hw _ (List.mem_of_getElem? (i := 17) rfl))) Via.refl e2 pr1 (g := (mkF m 4 #[.val (.ref a), .val (.int v), .val (.int (1 : Int32))] [(.ref a), (.int (1 : Int32))])) rfl rfl (hb hby own_d_prog_40_method_6_4)
    refine own_Goes.st ?_ st5
    show own_Goes p.tables e below P (T5.setTop (mkF m 7 #[.val (.ref a), .val (.int v), .val (.int (1 : Int32))] [(.int (4 : Int32)), (.int (1 : Int32))]))
    refine own_Goes.st ?_ (fun _ k => XS.icmpNo X5.here hx rfl (hb hby own_d_prog_40_method_6_7) rfl (tlt (by decide : (1 : Int32) < (4 : Int32))).2.1 k)
    show own_Goes p.tables e below P (T5.setTop (mkF m 10 #[.val (.ref a), .val (.int v), .val (.int (1 : Int32))] []))
    refine own_Goes.st ?_ (fun _ k => XS.aloadN X5.here hx rfl (hb hby own_d_prog_40_method_6_10) rfl rfl k)
    show own_Goes p.tables e below P (T5.setTop (mkF m 11 #[.val (.ref a), .val (.int v), .val (.int (1 : Int32))] [(.ref a)]))
    obtain ⟨T6, X6, e6, st6⟩ := getF X5 hx hZ hown (host := "") (Or.inl (hw _ (List.mem_of_getElem? (i := 10) rfl))) Via.refl e5 pr0 (g := (mkF m 11 #[.val (.ref a), .val (.int v), .val (.int (1 : Int32))] [(.ref a)])) rfl rfl (hb hby own_d_prog_40_method_6_11)
    refine own_Goes.st ?_ st6
    show own_Goes p.tables e below P (T6.setTop (mkF m 14 #[.val (.ref a), .val (.int v), .val (.int (1 : Int32))] [(.ref b)]))
    refine own_Goes.st ?_ (fun _ k => XS.iloadN X6.here hx rfl (hb hby own_d_prog_40_method_6_14) rfl k)
    show own_Goes p.tables e below P (T6.setTop (mkF m 15 #[.val (.ref a), .val (.int v), .val (.int (1 : Int32))] [(.int (1 : Int32)), (.ref b)]))
    have hin7 : ¬ ((1 : Int32) < 0 ∨ cl3.slots.size ≤ ((1 : Int32)).toNatClampNeg) := inb_of S3 ⟨by decide, by decide⟩
    refine own_Goes.st ?_ (X6.iaload hx (j := (1 : Int32)) (v := (.int x1)) (by rw [e6]; exact Ar3.1) (State.isArrayOf_alike hZ.alike Ar3.2.1) Ar3.2.2 hin7 (Has.at Hs3 hin7 rfl) (g := (mkF m 15 #[.val (.ref a), .val (.int v), .val (.int (1 : Int32))] [(.int (1 : Int32)), (.ref b)])) rfl rfl (hb hby own_d_prog_40_method_6_15))
    show own_Goes p.tables e below P (T6.setTop (mkF m 16 #[.val (.ref a), .val (.int v), .val (.int (1 : Int32))] [(.int x1)]))
    refine own_Goes.st ?_ (fun _ k => XS.iloadN X6.here hx rfl (hb hby own_d_prog_40_method_6_16) rfl k)
    show own_Goes p.tables e below P (T6.setTop (mkF m 17 #[.val (.ref a), .val (.int v), .val (.int (1 : Int32))] [(.int v), (.int x1)]))
    by_cases hx1 : x1 = v
    · skip
      refine own_Goes.st ?_ (fun _ k => XS.icmpNo X6.here hx rfl (hb hby own_d_prog_40_method_6_17) rfl (teq hx1).2 k)
      show own_Goes p.tables e below P (T6.setTop (mkF m 20 #[.val (.ref a), .val (.int v), .val (.int (1 : Int32))] []))
      refine own_Goes.st ?_ (fun _ k => XS.iconst X6.here hx rfl (hb hby own_d_prog_40_method_6_20) k)
      show own_Goes p.tables e below P (T6.setTop (mkF m 21 #[.val (.ref a), .val (.int v), .val (.int (1 : Int32))] [(.int (1 : Int32))]))
      obtain ⟨fs, hr, hrun, hended, hW, hsame⟩ := X6.leave (v := some (.int (1 : Int32))) (fun h => by rw [Bd.returns] at h; cases h)
      exact own_Goes.fin _ _ (retOut X6 hx (t := .boolean) Bd.returns rfl (Or.inl ⟨rfl, Or.inr (Or.inl rfl), _, rfl⟩) (hb hby own_d_prog_40_method_6_21) hr) (hPP _ _ ⟨hrun, hended, _, _, rfl, (by show Q_has_4 Z a v b k x0 x1 x2 x3 h0 n0 _ T6.heap _; rw [e6]; exact ⟨(by rw [if_neg hx0, if_pos hx1]), N0, rfl⟩), ⟨_, rfl⟩, hW, hsame.mono (by decide) (by decide)⟩)
    · skip
      refine own_Goes.st ?_ (fun _ k => XS.icmpYes X6.here hx rfl (pc0 := 17) (pc' := 22) rfl (hb hby own_d_prog_40_method_6_17) rfl (feq hx1).2 (by decide) (by decide) k)
      show own_Goes p.tables e below P (T6.setTop (mkF m 22 #[.val (.ref a), .val (.int v), .val (.int (1 : Int32))] []))
      refine own_Goes.st ?_ (fun _ k => XS.iinc X6.here hx rfl (hb hby own_d_prog_40_method_6_22) rfl (l' := #[.val (.ref a), .val (.int v), .val (.int (2 : Int32))]) rfl k)
      show own_Goes p.tables e below P (T6.setTop (mkF m 25 #[.val (.ref a), .val (.int v), .val (.int (2 : Int32))] []))
      refine own_Goes.st ?_ (fun _ k => XS.goto X6.here hx rfl (pc0 := 25) (pc' := 2) rfl (hb hby own_d_prog_40_method_6_25) (by decide) (by decide) k)
      show own_Goes p.tables e below P (T6.setTop (mkF m 2 #[.val (.ref a), .val (.int v), .val (.int (2 : Int32))] []))
      refine own_Goes.st ?_ (fun _ k => XS.iloadN X6.here hx rfl (hb hby own_d_prog_40_method_6_2) rfl k)
      show own_Goes p.tables e below P (T6.setTop (mkF m 3 #[.val (.ref a), .val (.int v), .val (.int (2 : Int32))] [(.int (2 : Int32))]))
      refine own_Goes.st ?_ (fun _ k => XS.aloadN X6.here hx rfl (hb hby own_d_prog_40_method_6_3) rfl rfl k)
      show own_Goes p.tables e below P (T6.setTop (mkF m 4 #[.val (.ref a), .val (.int v), .val (.int (2 : Int32))] [(.ref a), (.int (2 : Int32))]))
      obtain ⟨T8, X8, e8, st8⟩ := getF X6 hx hZ hown (host := "") (Or.inl (hw _ (List.mem_of_getElem? (i := 17) rfl))) Via.refl e6 pr1 (g := (mkF m 4 #[.val (.ref a), .val (.int v), .val (.int (2 : Int32))] [(.ref a), (.int (2 : Int32))])) rfl rfl (hb hby own_d_prog_40_method_6_4)
      refine own_Goes.st ?_ st8
      show own_Goes p.tables e below P (T8.setTop (mkF m 7 #[.val (.ref a), .val (.int v), .val (.int (2 : Int32))] [(.int (4 : Int32)), (.int (2 : Int32))]))
      refine own_Goes.st ?_ (fun _ k => XS.icmpNo X8.here hx rfl (hb hby own_d_prog_40_method_6_7) rfl (tlt (by decide : (2 : Int32) < (4 : Int32))).2.1 k)
      show own_Goes p.tables e below P (T8.setTop (mkF m 10 #[.val (.ref a), .val (.int v), .val (.int (2 : Int32))] []))
      refine own_Goes.st ?_ (fun _ k => XS.aloadN X8.here hx rfl (hb hby own_d_prog_40_method_6_10) rfl rfl k)
      show own_Goes p.tables e below P (T8.setTop (mkF m 11 #[.val (.ref a), .val (.int v), .val (.int (2 : Int32))] [(.ref a)]))
      obtain ⟨T9, X9, e9, st9⟩ := getF X8 hx hZ hown (host := "") (Or.inl (hw _ (List.mem_of_getElem? (i := 10) rfl))) Via.refl e8 pr0 (g := (mkF m 11 #[.val (.ref a), .val (.int v), .val (.int (2 : Int32))] [(.ref a)])) rfl rfl (hb hby own_d_prog_40_method_6_11)
      refine own_Goes.st ?_ st9
      show own_Goes p.tables e below P (T9.setTop (mkF m 14 #[.val (.ref a), .val (.int v), .val (.int (2 : Int32))] [(.ref b)]))
      refine own_Goes.st ?_ (fun _ k => XS.iloadN X9.here hx rfl (hb hby own_d_prog_40_method_6_14) rfl k)
      show own_Goes p.tables e below P (T9.setTop (mkF m 15 #[.val (.ref a), .val (.int v), .val (.int (2 : Int32))] [(.int (2 : Int32)), (.ref b)]))
      have hin10 : ¬ ((2 : Int32) < 0 ∨ cl3.slots.size ≤ ((2 : Int32)).toNatClampNeg) := inb_of S3 ⟨by decide, by decide⟩
      refine own_Goes.st ?_ (X9.iaload hx (j := (2 : Int32)) (v := (.int x2)) (by rw [e9]; exact Ar3.1) (State.isArrayOf_alike hZ.alike Ar3.2.1) Ar3.2.2 hin10 (Has.at Hs3 hin10 rfl) (g := (mkF m 15 #[.val (.ref a), .val (.int v), .val (.int (2 : Int32))] [(.int (2 : Int32)), (.ref b)])) rfl rfl (hb hby own_d_prog_40_method_6_15))
      show own_Goes p.tables e below P (T9.setTop (mkF m 16 #[.val (.ref a), .val (.int v), .val (.int (2 : Int32))] [(.int x2)]))
      refine own_Goes.st ?_ (fun _ k => XS.iloadN X9.here hx rfl (hb hby own_d_prog_40_method_6_16) rfl k)
      show own_Goes p.tables e below P (T9.setTop (mkF m 17 #[.val (.ref a), .val (.int v), .val (.int (2 : Int32))] [(.int v), (.int x2)]))
      by_cases hx2 : x2 = v
      · skip
        refine own_Goes.st ?_ (fun _ k => XS.icmpNo X9.here hx rfl (hb hby own_d_prog_40_method_6_17) rfl (teq hx2).2 k)
        show own_Goes p.tables e below P (T9.setTop (mkF m 20 #[.val (.ref a), .val (.int v), .val (.int (2 : Int32))] []))
        refine own_Goes.st ?_ (fun _ k => XS.iconst X9.here hx rfl (hb hby own_d_prog_40_method_6_20) k)
        show own_Goes p.tables e below P (T9.setTop (mkF m 21 #[.val (.ref a), .val (.int v), .val (.int (2 : Int32))] [(.int (1 : Int32))]))
        obtain ⟨fs, hr, hrun, hended, hW, hsame⟩ := X9.leave (v := some (.int (1 : Int32))) (fun h => by rw [Bd.returns] at h; cases h)
        exact own_Goes.fin _ _ (retOut X9 hx (t := .boolean) Bd.returns rfl (Or.inl ⟨rfl, Or.inr (Or.inl rfl), _, rfl⟩) (hb hby own_d_prog_40_method_6_21) hr) (hPP _ _ ⟨hrun, hended, _, _, rfl, (by show Q_has_4 Z a v b k x0 x1 x2 x3 h0 n0 _ T9.heap _; rw [e9]; exact ⟨(by rw [if_neg hx0, if_neg hx1, if_pos hx2]), N0, rfl⟩), ⟨_, rfl⟩, hW, hsame.mono (by decide) (by decide)⟩)
      · skip
        refine own_Goes.st ?_ (fun _ k => XS.icmpYes X9.here hx rfl (pc0 := 17) (pc' := 22) rfl (hb hby own_d_prog_40_method_6_17) rfl (feq hx2).2 (by decide) (by decide) k)
        show own_Goes p.tables e below P (T9.setTop (mkF m 22 #[.val (.ref a), .val (.int v), .val (.int (2 : Int32))] []))
        refine own_Goes.st ?_ (fun _ k => XS.iinc X9.here hx rfl (hb hby own_d_prog_40_method_6_22) rfl (l' := #[.val (.ref a), .val (.int v), .val (.int (3 : Int32))]) rfl k)
        show own_Goes p.tables e below P (T9.setTop (mkF m 25 #[.val (.ref a), .val (.int v), .val (.int (3 : Int32))] []))
        refine own_Goes.st ?_ (fun _ k => XS.goto X9.here hx rfl (pc0 := 25) (pc' := 2) rfl (hb hby own_d_prog_40_method_6_25) (by decide) (by decide) k)
        show own_Goes p.tables e below P (T9.setTop (mkF m 2 #[.val (.ref a), .val (.int v), .val (.int (3 : Int32))] []))
        refine own_Goes.st ?_ (fun _ k => XS.iloadN X9.here hx rfl (hb hby own_d_prog_40_method_6_2) rfl k)
        show own_Goes p.tables e below P (T9.setTop (mkF m 3 #[.val (.ref a), .val (.int v), .val (.int (3 : Int32))] [(.int (3 : Int32))]))
        refine own_Goes.st ?_ (fun _ k => XS.aloadN X9.here hx rfl (hb hby own_d_prog_40_method_6_3) rfl rfl k)
        show own_Goes p.tables e below P (T9.setTop (mkF m 4 #[.val (.ref a), .val (.int v), .val (.int (3 : Int32))] [(.ref a), (.int (3 : Int32))]))
        obtain ⟨T11, X11, e11, st11⟩ := getF X9 hx hZ hown (host := "") (Or.inl (hw _ (List.mem_of_getElem? (i := 17) rfl))) Via.refl e9 pr1 (g := (mkF m 4 #[.val (.ref a), .val (.int v), .val (.int (3 : Int32))] [(.ref a), (.int (3 : Int32))])) rfl rfl (hb hby own_d_prog_40_method_6_4)
        refine own_Goes.st ?_ st11
        show own_Goes p.tables e below P (T11.setTop (mkF m 7 #[.val (.ref a), .val (.int v), .val (.int (3 : Int32))] [(.int (4 : Int32)), (.int (3 : Int32))]))
        refine own_Goes.st ?_ (fun _ k => XS.icmpNo X11.here hx rfl (hb hby own_d_prog_40_method_6_7) rfl (tlt (by decide : (3 : Int32) < (4 : Int32))).2.1 k)
        show own_Goes p.tables e below P (T11.setTop (mkF m 10 #[.val (.ref a), .val (.int v), .val (.int (3 : Int32))] []))
        refine own_Goes.st ?_ (fun _ k => XS.aloadN X11.here hx rfl (hb hby own_d_prog_40_method_6_10) rfl rfl k)
        show own_Goes p.tables e below P (T11.setTop (mkF m 11 #[.val (.ref a), .val (.int v), .val (.int (3 : Int32))] [(.ref a)]))
        obtain ⟨T12, X12, e12, st12⟩ := getF X11 hx hZ hown (host := "") (Or.inl (hw _ (List.mem_of_getElem? (i := 10) rfl))) Via.refl e11 pr0 (g := (mkF m 11 #[.val (.ref a), .val (.int v), .val (.int (3 : Int32))] [(.ref a)])) rfl rfl (hb hby own_d_prog_40_method_6_11)
        refine own_Goes.st ?_ st12
        show own_Goes p.tables e below P (T12.setTop (mkF m 14 #[.val (.ref a), .val (.int v), .val (.int (3 : Int32))] [(.ref b)]))
        refine own_Goes.st ?_ (fun _ k => XS.iloadN X12.here hx rfl (hb hby own_d_prog_40_method_6_14) rfl k)
        show own_Goes p.tables e below P (T12.setTop (mkF m 15 #[.val (.ref a), .val (.int v), .val (.int (3 : Int32))] [(.int (3 : Int32)), (.ref b)]))
        have hin13 : ¬ ((3 : Int32) < 0 ∨ cl3.slots.size ≤ ((3 : Int32)).toNatClampNeg) := inb_of S3 ⟨by decide, by decide⟩
        refine own_Goes.st ?_ (X12.iaload hx (j := (3 : Int32)) (v := (.int x3)) (by rw [e12]; exact Ar3.1) (State.isArrayOf_alike hZ.alike Ar3.2.1) Ar3.2.2 hin13 (Has.at Hs3 hin13 rfl) (g := (mkF m 15 #[.val (.ref a), .val (.int v), .val (.int (3 : Int32))] [(.int (3 : Int32)), (.ref b)])) rfl rfl (hb hby own_d_prog_40_method_6_15))
        show own_Goes p.tables e below P (T12.setTop (mkF m 16 #[.val (.ref a), .val (.int v), .val (.int (3 : Int32))] [(.int x3)]))
        refine own_Goes.st ?_ (fun _ k => XS.iloadN X12.here hx rfl (hb hby own_d_prog_40_method_6_16) rfl k)
        show own_Goes p.tables e below P (T12.setTop (mkF m 17 #[.val (.ref a), .val (.int v), .val (.int (3 : Int32))] [(.int v), (.int x3)]))
        by_cases hx3 : x3 = v
        · skip
          refine own_Goes.st ?_ (fun _ k => XS.icmpNo X12.here hx rfl (hb hby own_d_prog_40_method_6_17) rfl (teq hx3).2 k)
          show own_Goes p.tables e below P (T12.setTop (mkF m 20 #[.val (.ref a), .val (.int v), .val (.int (3 : Int32))] []))
          refine own_Goes.st ?_ (fun _ k => XS.iconst X12.here hx rfl (hb hby own_d_prog_40_method_6_20) k)
          show own_Goes p.tables e below P (T12.setTop (mkF m 21 #[.val (.ref a), .val (.int v), .val (.int (3 : Int32))] [(.int (1 : Int32))]))
          obtain ⟨fs, hr, hrun, hended, hW, hsame⟩ := X12.leave (v := some (.int (1 : Int32))) (fun h => by rw [Bd.returns] at h; cases h)
          exact own_Goes.fin _ _ (retOut X12 hx (t := .boolean) Bd.returns rfl (Or.inl ⟨rfl, Or.inr (Or.inl rfl), _, rfl⟩) (hb hby own_d_prog_40_method_6_21) hr) (hPP _ _ ⟨hrun, hended, _, _, rfl, (by show Q_has_4 Z a v b k x0 x1 x2 x3 h0 n0 _ T12.heap _; rw [e12]; exact ⟨(by rw [if_neg hx0, if_neg hx1, if_neg hx2, if_pos hx3]), N0, rfl⟩), ⟨_, rfl⟩, hW, hsame.mono (by decide) (by decide)⟩)
        · skip
          refine own_Goes.st ?_ (fun _ k => XS.icmpYes X12.here hx rfl (pc0 := 17) (pc' := 22) rfl (hb hby own_d_prog_40_method_6_17) rfl (feq hx3).2 (by decide) (by decide) k)
          show own_Goes p.tables e below P (T12.setTop (mkF m 22 #[.val (.ref a), .val (.int v), .val (.int (3 : Int32))] []))
          refine own_Goes.st ?_ (fun _ k => XS.iinc X12.here hx rfl (hb hby own_d_prog_40_method_6_22) rfl (l' := #[.val (.ref a), .val (.int v), .val (.int (4 : Int32))]) rfl k)
          show own_Goes p.tables e below P (T12.setTop (mkF m 25 #[.val (.ref a), .val (.int v), .val (.int (4 : Int32))] []))
          refine own_Goes.st ?_ (fun _ k => XS.goto X12.here hx rfl (pc0 := 25) (pc' := 2) rfl (hb hby own_d_prog_40_method_6_25) (by decide) (by decide) k)
          show own_Goes p.tables e below P (T12.setTop (mkF m 2 #[.val (.ref a), .val (.int v), .val (.int (4 : Int32))] []))
          refine own_Goes.st ?_ (fun _ k => XS.iloadN X12.here hx rfl (hb hby own_d_prog_40_method_6_2) rfl k)
          show own_Goes p.tables e below P (T12.setTop (mkF m 3 #[.val (.ref a), .val (.int v), .val (.int (4 : Int32))] [(.int (4 : Int32))]))
          refine own_Goes.st ?_ (fun _ k => XS.aloadN X12.here hx rfl (hb hby own_d_prog_40_method_6_3) rfl rfl k)
          show own_Goes p.tables e below P (T12.setTop (mkF m 4 #[.val (.ref a), .val (.int v), .val (.int (4 : Int32))] [(.ref a), (.int (4 : Int32))]))
          obtain ⟨T14, X14, e14, st14⟩ := getF X12 hx hZ hown (host := "") (Or.inl (hw _ (List.mem_of_getElem? (i := 17) rfl))) Via.refl e12 pr1 (g := (mkF m 4 #[.val (.ref a), .val (.int v), .val (.int (4 : Int32))] [(.ref a), (.int (4 : Int32))])) rfl rfl (hb hby own_d_prog_40_method_6_4)
          refine own_Goes.st ?_ st14
          show own_Goes p.tables e below P (T14.setTop (mkF m 7 #[.val (.ref a), .val (.int v), .val (.int (4 : Int32))] [(.int (4 : Int32)), (.int (4 : Int32))]))
          refine own_Goes.st ?_ (fun _ k => XS.icmpYes X14.here hx rfl (pc0 := 7) (pc' := 28) rfl (hb hby own_d_prog_40_method_6_7) rfl (flt (by decide : ¬ ((4 : Int32) < (4 : Int32)))).2.1 (by decide) (by decide) k)
          show own_Goes p.tables e below P (T14.setTop (mkF m 28 #[.val (.ref a), .val (.int v), .val (.int (4 : Int32))] []))
          refine own_Goes.st ?_ (fun _ k => XS.iconst X14.here hx rfl (hb hby own_d_prog_40_method_6_28) k)
          show own_Goes p.tables e below P (T14.setTop (mkF m 29 #[.val (.ref a), .val (.int v), .val (.int (4 : Int32))] [(.int (0 : Int32))]))
          obtain ⟨fs, hr, hrun, hended, hW, hsame⟩ := X14.leave (v := some (.int (0 : Int32))) (fun h => by rw [Bd.returns] at h; cases h)
          exact own_Goes.fin _ _ (retOut X14 hx (t := .boolean) Bd.returns rfl (Or.inl ⟨rfl, Or.inr (Or.inl rfl), _, rfl⟩) (hb hby own_d_prog_40_method_6_29) hr) (hPP _ _ ⟨hrun, hended, _, _, rfl, (by show Q_has_4 Z a v b k x0 x1 x2 x3 h0 n0 _ T14.heap _; rw [e14]; exact ⟨(by rw [if_neg hx0, if_neg hx1, if_neg hx2, if_neg hx3]), N0, rfl⟩), ⟨_, rfl⟩, hW, hsame.mono (by decide) (by decide)⟩)
theorem own_ef_law (m : MethodId) (x0 : Int32) (x1 : Int32) (x2 : Int32) (x3 : Int32) (x4 : Int32) (x5 : Int32) : entryFrame m #[(.int x0), (.int x1), (.int x2), (.int x3), (.int x4), (.int x5)] maxLocals = mkF m 0 #[.val (.int x0), .val (.int x1), .val (.int x2), .val (.int x3), .val (.int x4), .val (.int x5), .unset, .unset, .unset, .unset, .unset] [] := by first | (simp [entryFrame, mkF, argsToLocals, Value.category, maxLocals]; done) | rfl
theorem own_pn_com_example_taxodelta_taxodelta_taxonomy_IntListContainsPinLaw : plainName "com/example/taxodelta/taxodelta/taxonomy/IntListContainsPinLaw" = true := by first | (simp [plainName, overriddenIn]; done) | decide +kernel
theorem own_pd__28__29_V : parseMethodDescriptor "()V" = some ⟨[], none⟩ := by decide +kernel
theorem own_pd__28_I_29_Z : parseMethodDescriptor "(I)Z" = some ⟨[.int], some .boolean⟩ := by decide +kernel
theorem own_pd__28_I_29_V : parseMethodDescriptor "(I)V" = some ⟨[.int], none⟩ := by decide +kernel
def Q_law (n0 : Nat) (v : Option Value) (L : List Loc) : Prop := v = some (.int 1) ∧ Fr n0 L
set_option maxRecDepth 65536 in
set_option maxHeartbeats 40000000 in
theorem rm_law (l : Launch) (Z : State) (a0 : Array Value) (hw : ∀ d ∈ tables_1, d.before a0 Z = true) (ws : List Jvm.Cond) (p0 : Int32) (p1 : Int32) (p2 : Int32) (p3 : Int32) (p4 : Int32) (p5 : Int32) (h0 : Heap) (n0 : Nat) (Z0 : n0 ≤ h0.size) :
    MetFree l x (head1 (Jvm.Cond.code x code maxLocals ret :: ws) room_1) (fun as_ U => as_ = #[(.int p0), (.int p1), (.int p2), (.int p3), (.int p4), (.int p5)] ∧ Z.Warmed39 U.vm ∧ U.heap = h0) (fun _ _ _ _ _ => True) (fun _ U o U' => ∃ v L, o = .returned v ∧ Q_law n0 v L ∧ FrameEnd U o U' L 16 128) := by
  refine MetFree.of_bodySF (plainFor_of_name own_pn_com_example_taxodelta_taxodelta_taxonomy_IntListContainsPinLaw) hisR ?_
  intro p e s m args below meth c s₁ Bd hml0 hP hK
  obtain ⟨rfl, hZ, hh⟩ := hP
  have hx := Bd.exec
  have hby := Bd.bytes
  have hml : c.maxLocals = 11 := hml0
  have hown : s.vm.findClass "com/example/taxodelta/taxodelta/taxonomy/IntListContainsPinLaw" = some m.cls := findClass_of_methodNamed Bd.named
  have hnm := (name_of_methodNamed Bd.named Bd.method).1
  have X0 : Stand p l e room_1 s m #[(.int p0), (.int p1), (.int p2), (.int p3), (.int p4), (.int p5)] below meth c s₁ [] 0 0 := Stand.of_body Bd
  have e0 : s₁.heap = h0 := by rw [← hh, Bd.state]; rfl
  have N0 := Fr.nil n0
  refine own_Goes.of ?_
  refine own_Goes.nm (fun P hPP => ?_)
  refine own_Goes.st ?_ (fun _ k => castTop (own_ef_law m p0 p1 p2 p3 p4 p5) k)
  show own_Goes p.tables e below P (s₁.setTop (mkF m 0 #[.val (.int p0), .val (.int p1), .val (.int p2), .val (.int p3), .val (.int p4), .val (.int p5), .unset, .unset, .unset, .unset, .unset] []))
  refine own_Goes.st ?_ (fun _ k => XS.iload X0.here hx rfl (hb hby at_0) rfl k)
  show own_Goes p.tables e below P (s₁.setTop (mkF m 2 #[.val (.int p0), .val (.int p1), .val (.int p2), .val (.int p3), .val (.int p4), .val (.int p5), .unset, .unset, .unset, .unset, .unset] [(.int p5)]))
  refine own_Goes.st ?_ (fun _ k => XS.bipush X0.here hx rfl (hb hby at_2) k)
  show own_Goes p.tables e below P (s₁.setTop (mkF m 4 #[.val (.int p0), .val (.int p1), .val (.int p2), .val (.int p3), .val (.int p4), .val (.int p5), .unset, .unset, .unset, .unset, .unset] [(.int (7 : Int32)), (.int p5)]))
  refine own_Goes.st ?_ (fun _ k => XS.iand X0.here hx rfl (hb hby at_4) rfl k)
  show own_Goes p.tables e below P (s₁.setTop (mkF m 5 #[.val (.int p0), .val (.int p1), .val (.int p2), .val (.int p3), .val (.int p4), .val (.int p5), .unset, .unset, .unset, .unset, .unset] [(.int (p5 &&& (7 : Int32)))]))
  refine own_Goes.st ?_ (fun _ k => XS.iconst X0.here hx rfl (hb hby at_5) k)
  show own_Goes p.tables e below P (s₁.setTop (mkF m 6 #[.val (.int p0), .val (.int p1), .val (.int p2), .val (.int p3), .val (.int p4), .val (.int p5), .unset, .unset, .unset, .unset, .unset] [(.int (5 : Int32)), (.int (p5 &&& (7 : Int32)))]))
  refine own_Goes.st ?_ (fun _ k => iremM X0 hx rfl (hb hby at_6) rfl (by decide) k)
  show own_Goes p.tables e below P (s₁.setTop (mkF m 7 #[.val (.int p0), .val (.int p1), .val (.int p2), .val (.int p3), .val (.int p4), .val (.int p5), .unset, .unset, .unset, .unset, .unset] [(.int ((p5 &&& (7 : Int32)) % (5 : Int32)))]))
  refine own_Goes.st ?_ (fun _ k => XS.istore X0.here hx rfl (hb hby at_7) rfl (l' := #[.val (.int p0), .val (.int p1), .val (.int p2), .val (.int p3), .val (.int p4), .val (.int p5), .val (.int ((p5 &&& (7 : Int32)) % (5 : Int32))), .unset, .unset, .unset, .unset]) rfl k)
  show own_Goes p.tables e below P (s₁.setTop (mkF m 9 #[.val (.int p0), .val (.int p1), .val (.int p2), .val (.int p3), .val (.int p4), .val (.int p5), .val (.int ((p5 &&& (7 : Int32)) % (5 : Int32))), .unset, .unset, .unset, .unset] []))
  generalize hkk : ((p5 &&& (7 : Int32)) % (5 : Int32)) = kk
  show own_Goes p.tables e below P (s₁.setTop (mkF m 9 #[.val (.int p0), .val (.int p1), .val (.int p2), .val (.int p3), .val (.int p4), .val (.int p5), .val (.int kk), .unset, .unset, .unset, .unset] []))
  refine own_Goes.st ?_ (fun _ k => XS.iload X0.here hx rfl (hb hby at_9) rfl k)
  show own_Goes p.tables e below P (s₁.setTop (mkF m 11 #[.val (.int p0), .val (.int p1), .val (.int p2), .val (.int p3), .val (.int p4), .val (.int p5), .val (.int kk), .unset, .unset, .unset, .unset] [(.int p5)]))
  refine own_Goes.st ?_ (fun _ k => XS.iconst X0.here hx rfl (hb hby at_11) k)
  show own_Goes p.tables e below P (s₁.setTop (mkF m 12 #[.val (.int p0), .val (.int p1), .val (.int p2), .val (.int p3), .val (.int p4), .val (.int p5), .val (.int kk), .unset, .unset, .unset, .unset] [(.int (3 : Int32)), (.int p5)]))
  refine own_Goes.st ?_ (fun _ k => XS.iushr X0.here hx rfl (hb hby at_12) rfl k)
  show own_Goes p.tables e below P (s₁.setTop (mkF m 13 #[.val (.int p0), .val (.int p1), .val (.int p2), .val (.int p3), .val (.int p4), .val (.int p5), .val (.int kk), .unset, .unset, .unset, .unset] [(.int (((p5).toUInt32 >>> ((3 : Int32) &&& 31).toUInt32).toInt32))]))
  refine own_Goes.st ?_ (fun _ k => XS.bipush X0.here hx rfl (hb hby at_13) k)
  show own_Goes p.tables e below P (s₁.setTop (mkF m 15 #[.val (.int p0), .val (.int p1), .val (.int p2), .val (.int p3), .val (.int p4), .val (.int p5), .val (.int kk), .unset, .unset, .unset, .unset] [(.int (7 : Int32)), (.int (((p5).toUInt32 >>> ((3 : Int32) &&& 31).toUInt32).toInt32))]))
  refine own_Goes.st ?_ (fun _ k => XS.iand X0.here hx rfl (hb hby at_15) rfl k)
  show own_Goes p.tables e below P (s₁.setTop (mkF m 16 #[.val (.int p0), .val (.int p1), .val (.int p2), .val (.int p3), .val (.int p4), .val (.int p5), .val (.int kk), .unset, .unset, .unset, .unset] [(.int ((((p5).toUInt32 >>> ((3 : Int32) &&& 31).toUInt32).toInt32) &&& (7 : Int32)))]))
  refine own_Goes.st ?_ (fun _ k => XS.istore X0.here hx rfl (hb hby at_16) rfl (l' := #[.val (.int p0), .val (.int p1), .val (.int p2), .val (.int p3), .val (.int p4), .val (.int p5), .val (.int kk), .val (.int ((((p5).toUInt32 >>> ((3 : Int32) &&& 31).toUInt32).toInt32) &&& (7 : Int32))), .unset, .unset, .unset]) rfl k)
  show own_Goes p.tables e below P (s₁.setTop (mkF m 18 #[.val (.int p0), .val (.int p1), .val (.int p2), .val (.int p3), .val (.int p4), .val (.int p5), .val (.int kk), .val (.int ((((p5).toUInt32 >>> ((3 : Int32) &&& 31).toUInt32).toInt32) &&& (7 : Int32))), .unset, .unset, .unset] []))
  generalize hmm : ((((p5).toUInt32 >>> ((3 : Int32) &&& 31).toUInt32).toInt32) &&& (7 : Int32)) = mm
  show own_Goes p.tables e below P (s₁.setTop (mkF m 18 #[.val (.int p0), .val (.int p1), .val (.int p2), .val (.int p3), .val (.int p4), .val (.int p5), .val (.int kk), .val (.int mm), .unset, .unset, .unset] []))
  refine own_Goes.st ?_ (fun _ k => XS.iload X0.here hx rfl (hb hby at_18) rfl k)
  show own_Goes p.tables e below P (s₁.setTop (mkF m 20 #[.val (.int p0), .val (.int p1), .val (.int p2), .val (.int p3), .val (.int p4), .val (.int p5), .val (.int kk), .val (.int mm), .unset, .unset, .unset] [(.int p4)]))
  refine own_Goes.st ?_ (fun _ k => XS.istore X0.here hx rfl (hb hby at_20) rfl (l' := #[.val (.int p0), .val (.int p1), .val (.int p2), .val (.int p3), .val (.int p4), .val (.int p5), .val (.int kk), .val (.int mm), .val (.int p4), .unset, .unset]) rfl k)
  show own_Goes p.tables e below P (s₁.setTop (mkF m 22 #[.val (.int p0), .val (.int p1), .val (.int p2), .val (.int p3), .val (.int p4), .val (.int p5), .val (.int kk), .val (.int mm), .val (.int p4), .unset, .unset] []))
  have J67 : ∀ (qq : Int32), own_Goes p.tables e below P (s₁.setTop (mkF m 67 #[.val (.int p0), .val (.int p1), .val (.int p2), .val (.int p3), .val (.int p4), .val (.int p5), .val (.int kk), .val (.int mm), .val (.int qq), .unset, .unset] [])) := by
    intro qq
    rcases own_k _ _ hkk with rfl | rfl | rfl | rfl | rfl
    · skip
      show own_Goes p.tables e below P (s₁.setTop (mkF m 67 #[.val (.int p0), .val (.int p1), .val (.int p2), .val (.int p3), .val (.int p4), .val (.int p5), .val (.int (0 : Int32)), .val (.int mm), .val (.int qq), .unset, .unset] []))
      obtain ⟨T1, h1, X1, e1, E1, A1, D1, -, st1⟩ := newO X0 hx hZ hown (hw _ (List.mem_of_getElem? (i := 0) rfl)) (hw _ (List.mem_of_getElem? (i := 1) rfl)) (hw _ (List.mem_of_getElem? (i := 2) rfl)) e0 (g := (mkF m 67 #[.val (.int p0), .val (.int p1), .val (.int p2), .val (.int p3), .val (.int p4), .val (.int p5), .val (.int (0 : Int32)), .val (.int mm), .val (.int qq), .unset, .unset] [])) rfl (hb hby at_67) (by decide) (by decide)
      obtain ⟨a1, g1⟩ : ∃ z, z = h0.size := ⟨_, rfl⟩
      rw [← g1] at A1 D1 st1
      have ge_a1 : n0 ≤ a1 := Nat.le_trans Z0 (Nat.le_of_eq g1.symm)
      refine own_Goes.st ?_ st1
      have Z2 : n0 ≤ h1.size := Nat.le_trans Z0 E1.1
      have F3 : Fld Z h1 a1 "com/example/taxodelta/taxodelta/taxonomy/IntList" "values" "[I" .null := D1 (Or.inl (hw _ (List.mem_of_getElem? (i := 11) rfl))) (ty := (.array .int)) (by decide)
      have F4 : Fld Z h1 a1 "com/example/taxodelta/taxodelta/taxonomy/IntList" "size" "I" (.int (0 : Int32)) := D1 (Or.inl (hw _ (List.mem_of_getElem? (i := 18) rfl))) (ty := .int) (by decide)
      show own_Goes p.tables e below P (T1.setTop (mkF m 70 #[.val (.int p0), .val (.int p1), .val (.int p2), .val (.int p3), .val (.int p4), .val (.int p5), .val (.int (0 : Int32)), .val (.int mm), .val (.int qq), .unset, .unset] [(.ref a1)]))
      refine own_Goes.st ?_ (fun _ k => XS.dup X1.here hx rfl (hb hby at_70) rfl rfl k)
      show own_Goes p.tables e below P (T1.setTop (mkF m 71 #[.val (.int p0), .val (.int p1), .val (.int p2), .val (.int p3), .val (.int p4), .val (.int p5), .val (.int (0 : Int32)), .val (.int mm), .val (.int qq), .unset, .unset] [(.ref a1), (.ref a1)]))
      obtain ⟨_, _, ⟨T5, L5, k5, n5⟩, -, X5, ⟨Lc5, hQ5, l5, y5, z5⟩, st5⟩ := X1.specialBack hx (y := (⟨"com/example/taxodelta/taxodelta/taxonomy/IntList", "<init>", "()V"⟩ : MethodName)) rfl hown (mvT hZ (hw _ (List.mem_of_getElem? (i := 3) rfl))) (mvT hZ (hw _ (List.mem_of_getElem? (i := 4) rfl))) (mvT hZ (hw _ (List.mem_of_getElem? (i := 5) rfl))) (by decide) (backOf (W := 1) (rm_ctor l Z a0 hw [] a1 .null h1 n0 Z2 A1 F3 F4 ge_a1) hZ (hw _ (List.mem_of_getElem? (i := 5) rfl)) (hw _ (List.mem_of_getElem? (i := 2) rfl)) (by decide) (by decide)) (g := (mkF m 71 #[.val (.int p0), .val (.int p1), .val (.int p2), .val (.int p3), .val (.int p4), .val (.int p5), .val (.int (0 : Int32)), .val (.int mm), .val (.int qq), .unset, .unset] [(.ref a1), (.ref a1)])) rfl (by rw [hml]; rfl) (Steps.refl _) (a := a1) (argsL := []) (rest := [(.ref a1)]) (lenOf own_pd__28__29_V rfl) rfl (by show 2 * 0 + _ ≤ _; exact Nat.le_of_eq rfl) (hb hby at_71) (fun _ _ => ⟨rfl, e1, (by decide : 1 + 1 ≤ _), (by decide : 2 + 2 ≤ _)⟩)
      dsimp only [Pt.U, Pt.locs, Pt.cells, Pt.slots] at X5 l5 y5 z5 st5 hQ5
      subst l5 y5 z5
      obtain ⟨b5, k5, rfl, Nq5, K5, f6, f7, f8, f9, f10, f11⟩ := hQ5
      have N5 := Fr.app N0 Nq5
      refine own_Goes.tr st5 ?_
      have ne12 : a1 ≠ b5 := Nat.ne_of_lt (Nat.lt_of_lt_of_le A1.lt f9)
      have ge_b5 : n0 ≤ b5 := Nat.le_trans Z2 f9
      have Z13 : n0 ≤ T5.heap.size := Nat.le_trans Z2 K5.1
      show own_Goes p.tables e below P (T5.setTop (mkF m 74 #[.val (.int p0), .val (.int p1), .val (.int p2), .val (.int p3), .val (.int p4), .val (.int p5), .val (.int (0 : Int32)), .val (.int mm), .val (.int qq), .unset, .unset] [(.ref a1)]))
      refine own_Goes.st ?_ (fun _ k => XS.astore X5.here hx rfl (hb hby at_74) rfl rfl (l' := #[.val (.int p0), .val (.int p1), .val (.int p2), .val (.int p3), .val (.int p4), .val (.int p5), .val (.int (0 : Int32)), .val (.int mm), .val (.int qq), .val (.ref a1), .unset]) rfl k)
      show own_Goes p.tables e below P (T5.setTop (mkF m 76 #[.val (.int p0), .val (.int p1), .val (.int p2), .val (.int p3), .val (.int p4), .val (.int p5), .val (.int (0 : Int32)), .val (.int mm), .val (.int qq), .val (.ref a1), .unset] []))
      refine own_Goes.st ?_ (fun _ k => XS.iload X5.here hx rfl (hb hby at_76) rfl k)
      show own_Goes p.tables e below P (T5.setTop (mkF m 78 #[.val (.int p0), .val (.int p1), .val (.int p2), .val (.int p3), .val (.int p4), .val (.int p5), .val (.int (0 : Int32)), .val (.int mm), .val (.int qq), .val (.ref a1), .unset] [(.int (0 : Int32))]))
      refine own_Goes.st ?_ (fun _ k => XS.iconst X5.here hx rfl (hb hby at_78) k)
      show own_Goes p.tables e below P (T5.setTop (mkF m 79 #[.val (.int p0), .val (.int p1), .val (.int p2), .val (.int p3), .val (.int p4), .val (.int p5), .val (.int (0 : Int32)), .val (.int mm), .val (.int qq), .val (.ref a1), .unset] [(.int (1 : Int32)), (.int (0 : Int32))]))
      refine own_Goes.st ?_ (fun _ k => XS.icmpYes X5.here hx rfl (pc0 := 79) (pc' := 88) rfl (hb hby at_79) rfl (tlt (by decide : (0 : Int32) < (1 : Int32))).1 (by decide) (by decide) k)
      show own_Goes p.tables e below P (T5.setTop (mkF m 88 #[.val (.int p0), .val (.int p1), .val (.int p2), .val (.int p3), .val (.int p4), .val (.int p5), .val (.int (0 : Int32)), .val (.int mm), .val (.int qq), .val (.ref a1), .unset] []))
      refine own_Goes.st ?_ (fun _ k => XS.iload X5.here hx rfl (hb hby at_88) rfl k)
      show own_Goes p.tables e below P (T5.setTop (mkF m 90 #[.val (.int p0), .val (.int p1), .val (.int p2), .val (.int p3), .val (.int p4), .val (.int p5), .val (.int (0 : Int32)), .val (.int mm), .val (.int qq), .val (.ref a1), .unset] [(.int (0 : Int32))]))
      refine own_Goes.st ?_ (fun _ k => XS.iconst X5.here hx rfl (hb hby at_90) k)
      show own_Goes p.tables e below P (T5.setTop (mkF m 91 #[.val (.int p0), .val (.int p1), .val (.int p2), .val (.int p3), .val (.int p4), .val (.int p5), .val (.int (0 : Int32)), .val (.int mm), .val (.int qq), .val (.ref a1), .unset] [(.int (2 : Int32)), (.int (0 : Int32))]))
      refine own_Goes.st ?_ (fun _ k => XS.icmpYes X5.here hx rfl (pc0 := 91) (pc' := 100) rfl (hb hby at_91) rfl (tlt (by decide : (0 : Int32) < (2 : Int32))).1 (by decide) (by decide) k)
      show own_Goes p.tables e below P (T5.setTop (mkF m 100 #[.val (.int p0), .val (.int p1), .val (.int p2), .val (.int p3), .val (.int p4), .val (.int p5), .val (.int (0 : Int32)), .val (.int mm), .val (.int qq), .val (.ref a1), .unset] []))
      refine own_Goes.st ?_ (fun _ k => XS.iload X5.here hx rfl (hb hby at_100) rfl k)
      show own_Goes p.tables e below P (T5.setTop (mkF m 102 #[.val (.int p0), .val (.int p1), .val (.int p2), .val (.int p3), .val (.int p4), .val (.int p5), .val (.int (0 : Int32)), .val (.int mm), .val (.int qq), .val (.ref a1), .unset] [(.int (0 : Int32))]))
      refine own_Goes.st ?_ (fun _ k => XS.iconst X5.here hx rfl (hb hby at_102) k)
      show own_Goes p.tables e below P (T5.setTop (mkF m 103 #[.val (.int p0), .val (.int p1), .val (.int p2), .val (.int p3), .val (.int p4), .val (.int p5), .val (.int (0 : Int32)), .val (.int mm), .val (.int qq), .val (.ref a1), .unset] [(.int (3 : Int32)), (.int (0 : Int32))]))
      refine own_Goes.st ?_ (fun _ k => XS.icmpYes X5.here hx rfl (pc0 := 103) (pc' := 112) rfl (hb hby at_103) rfl (tlt (by decide : (0 : Int32) < (3 : Int32))).1 (by decide) (by decide) k)
      show own_Goes p.tables e below P (T5.setTop (mkF m 112 #[.val (.int p0), .val (.int p1), .val (.int p2), .val (.int p3), .val (.int p4), .val (.int p5), .val (.int (0 : Int32)), .val (.int mm), .val (.int qq), .val (.ref a1), .unset] []))
      refine own_Goes.st ?_ (fun _ k => XS.iload X5.here hx rfl (hb hby at_112) rfl k)
      show own_Goes p.tables e below P (T5.setTop (mkF m 114 #[.val (.int p0), .val (.int p1), .val (.int p2), .val (.int p3), .val (.int p4), .val (.int p5), .val (.int (0 : Int32)), .val (.int mm), .val (.int qq), .val (.ref a1), .unset] [(.int (0 : Int32))]))
      refine own_Goes.st ?_ (fun _ k => XS.iconst X5.here hx rfl (hb hby at_114) k)
      show own_Goes p.tables e below P (T5.setTop (mkF m 115 #[.val (.int p0), .val (.int p1), .val (.int p2), .val (.int p3), .val (.int p4), .val (.int p5), .val (.int (0 : Int32)), .val (.int mm), .val (.int qq), .val (.ref a1), .unset] [(.int (4 : Int32)), (.int (0 : Int32))]))
      refine own_Goes.st ?_ (fun _ k => XS.icmpYes X5.here hx rfl (pc0 := 115) (pc' := 124) rfl (hb hby at_115) rfl (tlt (by decide : (0 : Int32) < (4 : Int32))).1 (by decide) (by decide) k)
      show own_Goes p.tables e below P (T5.setTop (mkF m 124 #[.val (.int p0), .val (.int p1), .val (.int p2), .val (.int p3), .val (.int p4), .val (.int p5), .val (.int (0 : Int32)), .val (.int mm), .val (.int qq), .val (.ref a1), .unset] []))
      refine own_Goes.st ?_ (fun _ k => XS.iload X5.here hx rfl (hb hby at_124) rfl k)
      show own_Goes p.tables e below P (T5.setTop (mkF m 126 #[.val (.int p0), .val (.int p1), .val (.int p2), .val (.int p3), .val (.int p4), .val (.int p5), .val (.int (0 : Int32)), .val (.int mm), .val (.int qq), .val (.ref a1), .unset] [(.int (0 : Int32))]))
      refine own_Goes.st ?_ (fun _ k => XS.iconst X5.here hx rfl (hb hby at_126) k)
      show own_Goes p.tables e below P (T5.setTop (mkF m 127 #[.val (.int p0), .val (.int p1), .val (.int p2), .val (.int p3), .val (.int p4), .val (.int p5), .val (.int (0 : Int32)), .val (.int mm), .val (.int qq), .val (.ref a1), .unset] [(.int (1 : Int32)), (.int (0 : Int32))]))
      refine own_Goes.st ?_ (fun _ k => XS.icmpYes X5.here hx rfl (pc0 := 127) (pc' := 136) rfl (hb hby at_127) rfl (tlt (by decide : (0 : Int32) < (1 : Int32))).1 (by decide) (by decide) k)
      show own_Goes p.tables e below P (T5.setTop (mkF m 136 #[.val (.int p0), .val (.int p1), .val (.int p2), .val (.int p3), .val (.int p4), .val (.int p5), .val (.int (0 : Int32)), .val (.int mm), .val (.int qq), .val (.ref a1), .unset] []))
      refine own_Goes.st ?_ (fun _ k => XS.iload X5.here hx rfl (hb hby at_136) rfl k)
      show own_Goes p.tables e below P (T5.setTop (mkF m 138 #[.val (.int p0), .val (.int p1), .val (.int p2), .val (.int p3), .val (.int p4), .val (.int p5), .val (.int (0 : Int32)), .val (.int mm), .val (.int qq), .val (.ref a1), .unset] [(.int (0 : Int32))]))
      refine own_Goes.st ?_ (fun _ k => XS.iconst X5.here hx rfl (hb hby at_138) k)
      show own_Goes p.tables e below P (T5.setTop (mkF m 139 #[.val (.int p0), .val (.int p1), .val (.int p2), .val (.int p3), .val (.int p4), .val (.int p5), .val (.int (0 : Int32)), .val (.int mm), .val (.int qq), .val (.ref a1), .unset] [(.int (2 : Int32)), (.int (0 : Int32))]))
      refine own_Goes.st ?_ (fun _ k => XS.icmpYes X5.here hx rfl (pc0 := 139) (pc' := 148) rfl (hb hby at_139) rfl (tlt (by decide : (0 : Int32) < (2 : Int32))).1 (by decide) (by decide) k)
      show own_Goes p.tables e below P (T5.setTop (mkF m 148 #[.val (.int p0), .val (.int p1), .val (.int p2), .val (.int p3), .val (.int p4), .val (.int p5), .val (.int (0 : Int32)), .val (.int mm), .val (.int qq), .val (.ref a1), .unset] []))
      refine own_Goes.st ?_ (fun _ k => XS.iload X5.here hx rfl (hb hby at_148) rfl k)
      show own_Goes p.tables e below P (T5.setTop (mkF m 150 #[.val (.int p0), .val (.int p1), .val (.int p2), .val (.int p3), .val (.int p4), .val (.int p5), .val (.int (0 : Int32)), .val (.int mm), .val (.int qq), .val (.ref a1), .unset] [(.int (0 : Int32))]))
      refine own_Goes.st ?_ (fun _ k => XS.iconst X5.here hx rfl (hb hby at_150) k)
      show own_Goes p.tables e below P (T5.setTop (mkF m 151 #[.val (.int p0), .val (.int p1), .val (.int p2), .val (.int p3), .val (.int p4), .val (.int p5), .val (.int (0 : Int32)), .val (.int mm), .val (.int qq), .val (.ref a1), .unset] [(.int (3 : Int32)), (.int (0 : Int32))]))
      refine own_Goes.st ?_ (fun _ k => XS.icmpYes X5.here hx rfl (pc0 := 151) (pc' := 160) rfl (hb hby at_151) rfl (tlt (by decide : (0 : Int32) < (3 : Int32))).1 (by decide) (by decide) k)
      show own_Goes p.tables e below P (T5.setTop (mkF m 160 #[.val (.int p0), .val (.int p1), .val (.int p2), .val (.int p3), .val (.int p4), .val (.int p5), .val (.int (0 : Int32)), .val (.int mm), .val (.int qq), .val (.ref a1), .unset] []))
      refine own_Goes.st ?_ (fun _ k => XS.iload X5.here hx rfl (hb hby at_160) rfl k)
      show own_Goes p.tables e below P (T5.setTop (mkF m 162 #[.val (.int p0), .val (.int p1), .val (.int p2), .val (.int p3), .val (.int p4), .val (.int p5), .val (.int (0 : Int32)), .val (.int mm), .val (.int qq), .val (.ref a1), .unset] [(.int (0 : Int32))]))
      refine own_Goes.st ?_ (fun _ k => XS.iconst X5.here hx rfl (hb hby at_162) k)
      show own_Goes p.tables e below P (T5.setTop (mkF m 163 #[.val (.int p0), .val (.int p1), .val (.int p2), .val (.int p3), .val (.int p4), .val (.int p5), .val (.int (0 : Int32)), .val (.int mm), .val (.int qq), .val (.ref a1), .unset] [(.int (4 : Int32)), (.int (0 : Int32))]))
      refine own_Goes.st ?_ (fun _ k => XS.icmpYes X5.here hx rfl (pc0 := 163) (pc' := 176) rfl (hb hby at_163) rfl (tlt (by decide : (0 : Int32) < (4 : Int32))).1 (by decide) (by decide) k)
      show own_Goes p.tables e below P (T5.setTop (mkF m 176 #[.val (.int p0), .val (.int p1), .val (.int p2), .val (.int p3), .val (.int p4), .val (.int p5), .val (.int (0 : Int32)), .val (.int mm), .val (.int qq), .val (.ref a1), .unset] []))
      refine own_Goes.st ?_ (fun _ k => XS.iconst X5.here hx rfl (hb hby at_176) k)
      show own_Goes p.tables e below P (T5.setTop (mkF m 177 #[.val (.int p0), .val (.int p1), .val (.int p2), .val (.int p3), .val (.int p4), .val (.int p5), .val (.int (0 : Int32)), .val (.int mm), .val (.int qq), .val (.ref a1), .unset] [(.int (0 : Int32))]))
      refine own_Goes.st ?_ (fun _ k => XS.istore X5.here hx rfl (hb hby at_177) rfl (l' := #[.val (.int p0), .val (.int p1), .val (.int p2), .val (.int p3), .val (.int p4), .val (.int p5), .val (.int (0 : Int32)), .val (.int mm), .val (.int qq), .val (.ref a1), .val (.int (0 : Int32))]) rfl k)
      show own_Goes p.tables e below P (T5.setTop (mkF m 179 #[.val (.int p0), .val (.int p1), .val (.int p2), .val (.int p3), .val (.int p4), .val (.int p5), .val (.int (0 : Int32)), .val (.int mm), .val (.int qq), .val (.ref a1), .val (.int (0 : Int32))] []))
      refine own_Goes.st ?_ (fun _ k => XS.aload X5.here hx rfl (hb hby at_179) rfl rfl k)
      show own_Goes p.tables e below P (T5.setTop (mkF m 181 #[.val (.int p0), .val (.int p1), .val (.int p2), .val (.int p3), .val (.int p4), .val (.int p5), .val (.int (0 : Int32)), .val (.int mm), .val (.int qq), .val (.ref a1), .val (.int (0 : Int32))] [(.ref a1)]))
      refine own_Goes.st ?_ (fun _ k => XS.iload X5.here hx rfl (hb hby at_181) rfl k)
      show own_Goes p.tables e below P (T5.setTop (mkF m 183 #[.val (.int p0), .val (.int p1), .val (.int p2), .val (.int p3), .val (.int p4), .val (.int p5), .val (.int (0 : Int32)), .val (.int mm), .val (.int qq), .val (.ref a1), .val (.int (0 : Int32))] [(.int qq), (.ref a1)]))
      obtain ⟨cq14, kq14, q14a, q14b, q14c⟩ := isOf hZ rfl f6
      obtain ⟨_, _, ⟨T14, L14, k14, n14⟩, -, X14, ⟨Lc14, hQ14, l14, y14, z14⟩, st14⟩ := X5.virtualBack hx (y := (⟨"com/example/taxodelta/taxodelta/taxonomy/IntList", "contains", "(I)Z"⟩ : MethodName)) (z := (⟨"com/example/taxodelta/taxodelta/taxonomy/IntList", "contains", "(I)Z"⟩ : MethodName)) hown (mvT hZ (hw _ (List.mem_of_getElem? (i := 31) rfl))) (mvT hZ (hw _ (List.mem_of_getElem? (i := 32) rfl))) (notFace_of_selects (args := #[]) (mvT hZ (hw _ (List.mem_of_getElem? (i := 34) rfl)))) (mvT hZ (hw _ (List.mem_of_getElem? (i := 34) rfl))) (mvT hZ (hw _ (List.mem_of_getElem? (i := 33) rfl))) (by decide) (backOf (W := 0) (rm_has_0 l Z a0 hw [] a1 qq b5 k5 T5.heap n0 Z13 f7 f8 f10) hZ (hw _ (List.mem_of_getElem? (i := 35) rfl)) (hw _ (List.mem_of_getElem? (i := 2) rfl)) (by decide) (by decide)) q14a q14c (g := (mkF m 183 #[.val (.int p0), .val (.int p1), .val (.int p2), .val (.int p3), .val (.int p4), .val (.int p5), .val (.int (0 : Int32)), .val (.int mm), .val (.int qq), .val (.ref a1), .val (.int (0 : Int32))] [(.int qq), (.ref a1)])) rfl (by rw [hml]; rfl) (Steps.refl _) (argsL := [(.int qq)]) (rest := []) (lenOf own_pd__28_I_29_Z rfl) rfl (by show 2 * 0 + _ ≤ _; exact Nat.le_of_eq rfl) (hb hby at_183) (fun _ _ => ⟨rfl, rfl, (by decide : 2 + 0 ≤ _), (by decide : 4 + 0 ≤ _)⟩)
      dsimp only [Pt.U, Pt.locs, Pt.cells, Pt.slots] at X14 l14 y14 z14 st14 hQ14
      subst l14 y14 z14
      obtain ⟨rfl, Nq14, e14⟩ := hQ14
      have N14 := Fr.app N5 Nq14
      refine own_Goes.tr st14 ?_
      show own_Goes p.tables e below P (T14.setTop (mkF m 186 #[.val (.int p0), .val (.int p1), .val (.int p2), .val (.int p3), .val (.int p4), .val (.int p5), .val (.int (0 : Int32)), .val (.int mm), .val (.int qq), .val (.ref a1), .val (.int (0 : Int32))] [(.int (0 : Int32))]))
      refine own_Goes.st ?_ (fun _ k => XS.iload X14.here hx rfl (hb hby at_186) rfl k)
      show own_Goes p.tables e below P (T14.setTop (mkF m 188 #[.val (.int p0), .val (.int p1), .val (.int p2), .val (.int p3), .val (.int p4), .val (.int p5), .val (.int (0 : Int32)), .val (.int mm), .val (.int qq), .val (.ref a1), .val (.int (0 : Int32))] [(.int (0 : Int32)), (.int (0 : Int32))]))
      refine own_Goes.st ?_ (fun _ k => XS.icmpNo X14.here hx rfl (hb hby at_188) rfl (teq (by decide : (0 : Int32) = (0 : Int32))).2 k)
      show own_Goes p.tables e below P (T14.setTop (mkF m 191 #[.val (.int p0), .val (.int p1), .val (.int p2), .val (.int p3), .val (.int p4), .val (.int p5), .val (.int (0 : Int32)), .val (.int mm), .val (.int qq), .val (.ref a1), .val (.int (0 : Int32))] []))
      refine own_Goes.st ?_ (fun _ k => XS.iconst X14.here hx rfl (hb hby at_191) k)
      show own_Goes p.tables e below P (T14.setTop (mkF m 192 #[.val (.int p0), .val (.int p1), .val (.int p2), .val (.int p3), .val (.int p4), .val (.int p5), .val (.int (0 : Int32)), .val (.int mm), .val (.int qq), .val (.ref a1), .val (.int (0 : Int32))] [(.int (1 : Int32))]))
      refine own_Goes.st ?_ (fun _ k => XS.goto X14.here hx rfl (pc0 := 192) (pc' := 196) rfl (hb hby at_192) (by decide) (by decide) k)
      show own_Goes p.tables e below P (T14.setTop (mkF m 196 #[.val (.int p0), .val (.int p1), .val (.int p2), .val (.int p3), .val (.int p4), .val (.int p5), .val (.int (0 : Int32)), .val (.int mm), .val (.int qq), .val (.ref a1), .val (.int (0 : Int32))] [(.int (1 : Int32))]))
      obtain ⟨fs, hr, hrun, hended, hW, hsame⟩ := X14.leave (v := some (.int (1 : Int32))) (fun h => by rw [Bd.returns] at h; cases h)
      exact own_Goes.fin _ _ (retOut X14 hx (t := .boolean) Bd.returns rfl (Or.inl ⟨rfl, Or.inr (Or.inl rfl), _, rfl⟩) (hb hby at_196) hr) (hPP _ _ ⟨hrun, hended, _, _, rfl, (by show Q_law n0 _ _; exact ⟨rfl, N14⟩), ⟨_, rfl⟩, hW, hsame.mono (by decide) (by decide)⟩)
    · skip
      show own_Goes p.tables e below P (s₁.setTop (mkF m 67 #[.val (.int p0), .val (.int p1), .val (.int p2), .val (.int p3), .val (.int p4), .val (.int p5), .val (.int (1 : Int32)), .val (.int mm), .val (.int qq), .unset, .unset] []))
      obtain ⟨T15, h15, X15, e15, E15, A15, D15, -, st15⟩ := newO X0 hx hZ hown (hw _ (List.mem_of_getElem? (i := 0) rfl)) (hw _ (List.mem_of_getElem? (i := 1) rfl)) (hw _ (List.mem_of_getElem? (i := 2) rfl)) e0 (g := (mkF m 67 #[.val (.int p0), .val (.int p1), .val (.int p2), .val (.int p3), .val (.int p4), .val (.int p5), .val (.int (1 : Int32)), .val (.int mm), .val (.int qq), .unset, .unset] [])) rfl (hb hby at_67) (by decide) (by decide)
      obtain ⟨a15, g15⟩ : ∃ z, z = h0.size := ⟨_, rfl⟩
      rw [← g15] at A15 D15 st15
      have ge_a15 : n0 ≤ a15 := Nat.le_trans Z0 (Nat.le_of_eq g15.symm)
      refine own_Goes.st ?_ st15
      have Z16 : n0 ≤ h15.size := Nat.le_trans Z0 E15.1
      have F17 : Fld Z h15 a15 "com/example/taxodelta/taxodelta/taxonomy/IntList" "values" "[I" .null := D15 (Or.inl (hw _ (List.mem_of_getElem? (i := 11) rfl))) (ty := (.array .int)) (by decide)
      have F18 : Fld Z h15 a15 "com/example/taxodelta/taxodelta/taxonomy/IntList" "size" "I" (.int (0 : Int32)) := D15 (Or.inl (hw _ (List.mem_of_getElem? (i := 18) rfl))) (ty := .int) (by decide)
      show own_Goes p.tables e below P (T15.setTop (mkF m 70 #[.val (.int p0), .val (.int p1), .val (.int p2), .val (.int p3), .val (.int p4), .val (.int p5), .val (.int (1 : Int32)), .val (.int mm), .val (.int qq), .unset, .unset] [(.ref a15)]))
      refine own_Goes.st ?_ (fun _ k => XS.dup X15.here hx rfl (hb hby at_70) rfl rfl k)
      show own_Goes p.tables e below P (T15.setTop (mkF m 71 #[.val (.int p0), .val (.int p1), .val (.int p2), .val (.int p3), .val (.int p4), .val (.int p5), .val (.int (1 : Int32)), .val (.int mm), .val (.int qq), .unset, .unset] [(.ref a15), (.ref a15)]))
      obtain ⟨_, _, ⟨T19, L19, k19, n19⟩, -, X19, ⟨Lc19, hQ19, l19, y19, z19⟩, st19⟩ := X15.specialBack hx (y := (⟨"com/example/taxodelta/taxodelta/taxonomy/IntList", "<init>", "()V"⟩ : MethodName)) rfl hown (mvT hZ (hw _ (List.mem_of_getElem? (i := 3) rfl))) (mvT hZ (hw _ (List.mem_of_getElem? (i := 4) rfl))) (mvT hZ (hw _ (List.mem_of_getElem? (i := 5) rfl))) (by decide) (backOf (W := 1) (rm_ctor l Z a0 hw [] a15 .null h15 n0 Z16 A15 F17 F18 ge_a15) hZ (hw _ (List.mem_of_getElem? (i := 5) rfl)) (hw _ (List.mem_of_getElem? (i := 2) rfl)) (by decide) (by decide)) (g := (mkF m 71 #[.val (.int p0), .val (.int p1), .val (.int p2), .val (.int p3), .val (.int p4), .val (.int p5), .val (.int (1 : Int32)), .val (.int mm), .val (.int qq), .unset, .unset] [(.ref a15), (.ref a15)])) rfl (by rw [hml]; rfl) (Steps.refl _) (a := a15) (argsL := []) (rest := [(.ref a15)]) (lenOf own_pd__28__29_V rfl) rfl (by show 2 * 0 + _ ≤ _; exact Nat.le_of_eq rfl) (hb hby at_71) (fun _ _ => ⟨rfl, e15, (by decide : 1 + 1 ≤ _), (by decide : 2 + 2 ≤ _)⟩)
      dsimp only [Pt.U, Pt.locs, Pt.cells, Pt.slots] at X19 l19 y19 z19 st19 hQ19
      subst l19 y19 z19
      obtain ⟨b19, k19, rfl, Nq19, K19, f20, f21, f22, f23, f24, f25⟩ := hQ19
      have N19 := Fr.app N0 Nq19
      refine own_Goes.tr st19 ?_
      have ne26 : a15 ≠ b19 := Nat.ne_of_lt (Nat.lt_of_lt_of_le A15.lt f23)
      have ge_b19 : n0 ≤ b19 := Nat.le_trans Z16 f23
      have Z27 : n0 ≤ T19.heap.size := Nat.le_trans Z16 K19.1
      show own_Goes p.tables e below P (T19.setTop (mkF m 74 #[.val (.int p0), .val (.int p1), .val (.int p2), .val (.int p3), .val (.int p4), .val (.int p5), .val (.int (1 : Int32)), .val (.int mm), .val (.int qq), .unset, .unset] [(.ref a15)]))
      refine own_Goes.st ?_ (fun _ k => XS.astore X19.here hx rfl (hb hby at_74) rfl rfl (l' := #[.val (.int p0), .val (.int p1), .val (.int p2), .val (.int p3), .val (.int p4), .val (.int p5), .val (.int (1 : Int32)), .val (.int mm), .val (.int qq), .val (.ref a15), .unset]) rfl k)
      show own_Goes p.tables e below P (T19.setTop (mkF m 76 #[.val (.int p0), .val (.int p1), .val (.int p2), .val (.int p3), .val (.int p4), .val (.int p5), .val (.int (1 : Int32)), .val (.int mm), .val (.int qq), .val (.ref a15), .unset] []))
      refine own_Goes.st ?_ (fun _ k => XS.iload X19.here hx rfl (hb hby at_76) rfl k)
      show own_Goes p.tables e below P (T19.setTop (mkF m 78 #[.val (.int p0), .val (.int p1), .val (.int p2), .val (.int p3), .val (.int p4), .val (.int p5), .val (.int (1 : Int32)), .val (.int mm), .val (.int qq), .val (.ref a15), .unset] [(.int (1 : Int32))]))
      refine own_Goes.st ?_ (fun _ k => XS.iconst X19.here hx rfl (hb hby at_78) k)
      show own_Goes p.tables e below P (T19.setTop (mkF m 79 #[.val (.int p0), .val (.int p1), .val (.int p2), .val (.int p3), .val (.int p4), .val (.int p5), .val (.int (1 : Int32)), .val (.int mm), .val (.int qq), .val (.ref a15), .unset] [(.int (1 : Int32)), (.int (1 : Int32))]))
      refine own_Goes.st ?_ (fun _ k => XS.icmpNo X19.here hx rfl (hb hby at_79) rfl (flt (by decide : ¬ ((1 : Int32) < (1 : Int32)))).1 k)
      show own_Goes p.tables e below P (T19.setTop (mkF m 82 #[.val (.int p0), .val (.int p1), .val (.int p2), .val (.int p3), .val (.int p4), .val (.int p5), .val (.int (1 : Int32)), .val (.int mm), .val (.int qq), .val (.ref a15), .unset] []))
      refine own_Goes.st ?_ (fun _ k => XS.aload X19.here hx rfl (hb hby at_82) rfl rfl k)
      show own_Goes p.tables e below P (T19.setTop (mkF m 84 #[.val (.int p0), .val (.int p1), .val (.int p2), .val (.int p3), .val (.int p4), .val (.int p5), .val (.int (1 : Int32)), .val (.int mm), .val (.int qq), .val (.ref a15), .unset] [(.ref a15)]))
      refine own_Goes.st ?_ (fun _ k => XS.iloadN X19.here hx rfl (hb hby at_84) rfl k)
      show own_Goes p.tables e below P (T19.setTop (mkF m 85 #[.val (.int p0), .val (.int p1), .val (.int p2), .val (.int p3), .val (.int p4), .val (.int p5), .val (.int (1 : Int32)), .val (.int mm), .val (.int qq), .val (.ref a15), .unset] [(.int p0), (.ref a15)]))
      obtain ⟨cq28, kq28, q28a, q28b, q28c⟩ := isOf hZ rfl f20
      obtain ⟨_, _, ⟨T28, L28, k28, n28⟩, -, X28, ⟨Lc28, hQ28, l28, y28, z28⟩, st28⟩ := X19.virtualBack hx (y := (⟨"com/example/taxodelta/taxodelta/taxonomy/IntList", "add", "(I)V"⟩ : MethodName)) (z := (⟨"com/example/taxodelta/taxodelta/taxonomy/IntList", "add", "(I)V"⟩ : MethodName)) hown (mvT hZ (hw _ (List.mem_of_getElem? (i := 12) rfl))) (mvT hZ (hw _ (List.mem_of_getElem? (i := 13) rfl))) (notFace_of_selects (args := #[]) (mvT hZ (hw _ (List.mem_of_getElem? (i := 15) rfl)))) (mvT hZ (hw _ (List.mem_of_getElem? (i := 15) rfl))) (mvT hZ (hw _ (List.mem_of_getElem? (i := 14) rfl))) (by decide) (backOf (W := 0) (rm_add_0 l Z a0 hw [] a15 p0 b19 k19 T19.heap n0 Z27 f20 f21 f22 f24 f25 ge_a15 ge_b19 ne26) hZ (hw _ (List.mem_of_getElem? (i := 16) rfl)) (hw _ (List.mem_of_getElem? (i := 2) rfl)) (by decide) (by decide)) q28a q28c (g := (mkF m 85 #[.val (.int p0), .val (.int p1), .val (.int p2), .val (.int p3), .val (.int p4), .val (.int p5), .val (.int (1 : Int32)), .val (.int mm), .val (.int qq), .val (.ref a15), .unset] [(.int p0), (.ref a15)])) rfl (by rw [hml]; rfl) (Steps.refl _) (argsL := [(.int p0)]) (rest := []) (lenOf own_pd__28_I_29_V rfl) rfl (by show 2 * 0 + _ ≤ _; exact Nat.le_of_eq rfl) (hb hby at_85) (fun _ _ => ⟨rfl, rfl, (by decide : 2 + 0 ≤ _), (by decide : 4 + 0 ≤ _)⟩)
      dsimp only [Pt.U, Pt.locs, Pt.cells, Pt.slots] at X28 l28 y28 z28 st28 hQ28
      subst l28 y28 z28
      obtain ⟨rfl, Nq28, K28, f29, f30, f31, f32, f33⟩ := hQ28
      have N28 := Fr.app N19 Nq28
      refine own_Goes.tr st28 ?_
      have Z34 : n0 ≤ T28.heap.size := Nat.le_trans Z27 K28.1
      show own_Goes p.tables e below P (T28.setTop (mkF m 88 #[.val (.int p0), .val (.int p1), .val (.int p2), .val (.int p3), .val (.int p4), .val (.int p5), .val (.int (1 : Int32)), .val (.int mm), .val (.int qq), .val (.ref a15), .unset] []))
      refine own_Goes.st ?_ (fun _ k => XS.iload X28.here hx rfl (hb hby at_88) rfl k)
      show own_Goes p.tables e below P (T28.setTop (mkF m 90 #[.val (.int p0), .val (.int p1), .val (.int p2), .val (.int p3), .val (.int p4), .val (.int p5), .val (.int (1 : Int32)), .val (.int mm), .val (.int qq), .val (.ref a15), .unset] [(.int (1 : Int32))]))
      refine own_Goes.st ?_ (fun _ k => XS.iconst X28.here hx rfl (hb hby at_90) k)
      show own_Goes p.tables e below P (T28.setTop (mkF m 91 #[.val (.int p0), .val (.int p1), .val (.int p2), .val (.int p3), .val (.int p4), .val (.int p5), .val (.int (1 : Int32)), .val (.int mm), .val (.int qq), .val (.ref a15), .unset] [(.int (2 : Int32)), (.int (1 : Int32))]))
      refine own_Goes.st ?_ (fun _ k => XS.icmpYes X28.here hx rfl (pc0 := 91) (pc' := 100) rfl (hb hby at_91) rfl (tlt (by decide : (1 : Int32) < (2 : Int32))).1 (by decide) (by decide) k)
      show own_Goes p.tables e below P (T28.setTop (mkF m 100 #[.val (.int p0), .val (.int p1), .val (.int p2), .val (.int p3), .val (.int p4), .val (.int p5), .val (.int (1 : Int32)), .val (.int mm), .val (.int qq), .val (.ref a15), .unset] []))
      refine own_Goes.st ?_ (fun _ k => XS.iload X28.here hx rfl (hb hby at_100) rfl k)
      show own_Goes p.tables e below P (T28.setTop (mkF m 102 #[.val (.int p0), .val (.int p1), .val (.int p2), .val (.int p3), .val (.int p4), .val (.int p5), .val (.int (1 : Int32)), .val (.int mm), .val (.int qq), .val (.ref a15), .unset] [(.int (1 : Int32))]))
      refine own_Goes.st ?_ (fun _ k => XS.iconst X28.here hx rfl (hb hby at_102) k)
      show own_Goes p.tables e below P (T28.setTop (mkF m 103 #[.val (.int p0), .val (.int p1), .val (.int p2), .val (.int p3), .val (.int p4), .val (.int p5), .val (.int (1 : Int32)), .val (.int mm), .val (.int qq), .val (.ref a15), .unset] [(.int (3 : Int32)), (.int (1 : Int32))]))
      refine own_Goes.st ?_ (fun _ k => XS.icmpYes X28.here hx rfl (pc0 := 103) (pc' := 112) rfl (hb hby at_103) rfl (tlt (by decide : (1 : Int32) < (3 : Int32))).1 (by decide) (by decide) k)
      show own_Goes p.tables e below P (T28.setTop (mkF m 112 #[.val (.int p0), .val (.int p1), .val (.int p2), .val (.int p3), .val (.int p4), .val (.int p5), .val (.int (1 : Int32)), .val (.int mm), .val (.int qq), .val (.ref a15), .unset] []))
      refine own_Goes.st ?_ (fun _ k => XS.iload X28.here hx rfl (hb hby at_112) rfl k)
      show own_Goes p.tables e below P (T28.setTop (mkF m 114 #[.val (.int p0), .val (.int p1), .val (.int p2), .val (.int p3), .val (.int p4), .val (.int p5), .val (.int (1 : Int32)), .val (.int mm), .val (.int qq), .val (.ref a15), .unset] [(.int (1 : Int32))]))
      refine own_Goes.st ?_ (fun _ k => XS.iconst X28.here hx rfl (hb hby at_114) k)
      show own_Goes p.tables e below P (T28.setTop (mkF m 115 #[.val (.int p0), .val (.int p1), .val (.int p2), .val (.int p3), .val (.int p4), .val (.int p5), .val (.int (1 : Int32)), .val (.int mm), .val (.int qq), .val (.ref a15), .unset] [(.int (4 : Int32)), (.int (1 : Int32))]))
      refine own_Goes.st ?_ (fun _ k => XS.icmpYes X28.here hx rfl (pc0 := 115) (pc' := 124) rfl (hb hby at_115) rfl (tlt (by decide : (1 : Int32) < (4 : Int32))).1 (by decide) (by decide) k)
      show own_Goes p.tables e below P (T28.setTop (mkF m 124 #[.val (.int p0), .val (.int p1), .val (.int p2), .val (.int p3), .val (.int p4), .val (.int p5), .val (.int (1 : Int32)), .val (.int mm), .val (.int qq), .val (.ref a15), .unset] []))
      refine own_Goes.st ?_ (fun _ k => XS.iload X28.here hx rfl (hb hby at_124) rfl k)
      show own_Goes p.tables e below P (T28.setTop (mkF m 126 #[.val (.int p0), .val (.int p1), .val (.int p2), .val (.int p3), .val (.int p4), .val (.int p5), .val (.int (1 : Int32)), .val (.int mm), .val (.int qq), .val (.ref a15), .unset] [(.int (1 : Int32))]))
      refine own_Goes.st ?_ (fun _ k => XS.iconst X28.here hx rfl (hb hby at_126) k)
      show own_Goes p.tables e below P (T28.setTop (mkF m 127 #[.val (.int p0), .val (.int p1), .val (.int p2), .val (.int p3), .val (.int p4), .val (.int p5), .val (.int (1 : Int32)), .val (.int mm), .val (.int qq), .val (.ref a15), .unset] [(.int (1 : Int32)), (.int (1 : Int32))]))
      refine own_Goes.st ?_ (fun _ k => XS.icmpNo X28.here hx rfl (hb hby at_127) rfl (flt (by decide : ¬ ((1 : Int32) < (1 : Int32)))).1 k)
      show own_Goes p.tables e below P (T28.setTop (mkF m 130 #[.val (.int p0), .val (.int p1), .val (.int p2), .val (.int p3), .val (.int p4), .val (.int p5), .val (.int (1 : Int32)), .val (.int mm), .val (.int qq), .val (.ref a15), .unset] []))
      refine own_Goes.st ?_ (fun _ k => XS.iloadN X28.here hx rfl (hb hby at_130) rfl k)
      show own_Goes p.tables e below P (T28.setTop (mkF m 131 #[.val (.int p0), .val (.int p1), .val (.int p2), .val (.int p3), .val (.int p4), .val (.int p5), .val (.int (1 : Int32)), .val (.int mm), .val (.int qq), .val (.ref a15), .unset] [(.int p0)]))
      refine own_Goes.st ?_ (fun _ k => XS.iload X28.here hx rfl (hb hby at_131) rfl k)
      show own_Goes p.tables e below P (T28.setTop (mkF m 133 #[.val (.int p0), .val (.int p1), .val (.int p2), .val (.int p3), .val (.int p4), .val (.int p5), .val (.int (1 : Int32)), .val (.int mm), .val (.int qq), .val (.ref a15), .unset] [(.int qq), (.int p0)]))
      by_cases hx0 : p0 = qq
      · skip
        refine own_Goes.st ?_ (fun _ k => XS.icmpYes X28.here hx rfl (pc0 := 133) (pc' := 172) rfl (hb hby at_133) rfl (teq hx0).1 (by decide) (by decide) k)
        show own_Goes p.tables e below P (T28.setTop (mkF m 172 #[.val (.int p0), .val (.int p1), .val (.int p2), .val (.int p3), .val (.int p4), .val (.int p5), .val (.int (1 : Int32)), .val (.int mm), .val (.int qq), .val (.ref a15), .unset] []))
        refine own_Goes.st ?_ (fun _ k => XS.iconst X28.here hx rfl (hb hby at_172) k)
        show own_Goes p.tables e below P (T28.setTop (mkF m 173 #[.val (.int p0), .val (.int p1), .val (.int p2), .val (.int p3), .val (.int p4), .val (.int p5), .val (.int (1 : Int32)), .val (.int mm), .val (.int qq), .val (.ref a15), .unset] [(.int (1 : Int32))]))
        refine own_Goes.st ?_ (fun _ k => XS.goto X28.here hx rfl (pc0 := 173) (pc' := 177) rfl (hb hby at_173) (by decide) (by decide) k)
        show own_Goes p.tables e below P (T28.setTop (mkF m 177 #[.val (.int p0), .val (.int p1), .val (.int p2), .val (.int p3), .val (.int p4), .val (.int p5), .val (.int (1 : Int32)), .val (.int mm), .val (.int qq), .val (.ref a15), .unset] [(.int (1 : Int32))]))
        refine own_Goes.st ?_ (fun _ k => XS.istore X28.here hx rfl (hb hby at_177) rfl (l' := #[.val (.int p0), .val (.int p1), .val (.int p2), .val (.int p3), .val (.int p4), .val (.int p5), .val (.int (1 : Int32)), .val (.int mm), .val (.int qq), .val (.ref a15), .val (.int (1 : Int32))]) rfl k)
        show own_Goes p.tables e below P (T28.setTop (mkF m 179 #[.val (.int p0), .val (.int p1), .val (.int p2), .val (.int p3), .val (.int p4), .val (.int p5), .val (.int (1 : Int32)), .val (.int mm), .val (.int qq), .val (.ref a15), .val (.int (1 : Int32))] []))
        refine own_Goes.st ?_ (fun _ k => XS.aload X28.here hx rfl (hb hby at_179) rfl rfl k)
        show own_Goes p.tables e below P (T28.setTop (mkF m 181 #[.val (.int p0), .val (.int p1), .val (.int p2), .val (.int p3), .val (.int p4), .val (.int p5), .val (.int (1 : Int32)), .val (.int mm), .val (.int qq), .val (.ref a15), .val (.int (1 : Int32))] [(.ref a15)]))
        refine own_Goes.st ?_ (fun _ k => XS.iload X28.here hx rfl (hb hby at_181) rfl k)
        show own_Goes p.tables e below P (T28.setTop (mkF m 183 #[.val (.int p0), .val (.int p1), .val (.int p2), .val (.int p3), .val (.int p4), .val (.int p5), .val (.int (1 : Int32)), .val (.int mm), .val (.int qq), .val (.ref a15), .val (.int (1 : Int32))] [(.int qq), (.ref a15)]))
        obtain ⟨cq35, kq35, q35a, q35b, q35c⟩ := isOf hZ rfl f29
        obtain ⟨_, _, ⟨T35, L35, k35, n35⟩, -, X35, ⟨Lc35, hQ35, l35, y35, z35⟩, st35⟩ := X28.virtualBack hx (y := (⟨"com/example/taxodelta/taxodelta/taxonomy/IntList", "contains", "(I)Z"⟩ : MethodName)) (z := (⟨"com/example/taxodelta/taxodelta/taxonomy/IntList", "contains", "(I)Z"⟩ : MethodName)) hown (mvT hZ (hw _ (List.mem_of_getElem? (i := 31) rfl))) (mvT hZ (hw _ (List.mem_of_getElem? (i := 32) rfl))) (notFace_of_selects (args := #[]) (mvT hZ (hw _ (List.mem_of_getElem? (i := 34) rfl)))) (mvT hZ (hw _ (List.mem_of_getElem? (i := 34) rfl))) (mvT hZ (hw _ (List.mem_of_getElem? (i := 33) rfl))) (by decide) (backOf (W := 0) (rm_has_1 l Z a0 hw [] a15 qq b19 k19 p0 T28.heap n0 Z34 f30 f31 f32) hZ (hw _ (List.mem_of_getElem? (i := 35) rfl)) (hw _ (List.mem_of_getElem? (i := 2) rfl)) (by decide) (by decide)) q35a q35c (g := (mkF m 183 #[.val (.int p0), .val (.int p1), .val (.int p2), .val (.int p3), .val (.int p4), .val (.int p5), .val (.int (1 : Int32)), .val (.int mm), .val (.int qq), .val (.ref a15), .val (.int (1 : Int32))] [(.int qq), (.ref a15)])) rfl (by rw [hml]; rfl) (Steps.refl _) (argsL := [(.int qq)]) (rest := []) (lenOf own_pd__28_I_29_Z rfl) rfl (by show 2 * 0 + _ ≤ _; exact Nat.le_of_eq rfl) (hb hby at_183) (fun _ _ => ⟨rfl, rfl, (by decide : 2 + 0 ≤ _), (by decide : 4 + 0 ≤ _)⟩)
        dsimp only [Pt.U, Pt.locs, Pt.cells, Pt.slots] at X35 l35 y35 z35 st35 hQ35
        subst l35 y35 z35
        obtain ⟨rfl, Nq35, e35⟩ := hQ35
        have N35 := Fr.app N28 Nq35
        refine own_Goes.tr st35 ?_
        show own_Goes p.tables e below P (T35.setTop (mkF m 186 #[.val (.int p0), .val (.int p1), .val (.int p2), .val (.int p3), .val (.int p4), .val (.int p5), .val (.int (1 : Int32)), .val (.int mm), .val (.int qq), .val (.ref a15), .val (.int (1 : Int32))] [(.int (if p0 = qq then 1 else 0))]))
        rw [(show (if p0 = qq then 1 else 0) = (1 : Int32) by rw [if_pos hx0])]
        show own_Goes p.tables e below P (T35.setTop (mkF m 186 #[.val (.int p0), .val (.int p1), .val (.int p2), .val (.int p3), .val (.int p4), .val (.int p5), .val (.int (1 : Int32)), .val (.int mm), .val (.int qq), .val (.ref a15), .val (.int (1 : Int32))] [(.int (1 : Int32))]))
        refine own_Goes.st ?_ (fun _ k => XS.iload X35.here hx rfl (hb hby at_186) rfl k)
        show own_Goes p.tables e below P (T35.setTop (mkF m 188 #[.val (.int p0), .val (.int p1), .val (.int p2), .val (.int p3), .val (.int p4), .val (.int p5), .val (.int (1 : Int32)), .val (.int mm), .val (.int qq), .val (.ref a15), .val (.int (1 : Int32))] [(.int (1 : Int32)), (.int (1 : Int32))]))
        refine own_Goes.st ?_ (fun _ k => XS.icmpNo X35.here hx rfl (hb hby at_188) rfl (teq (by decide : (1 : Int32) = (1 : Int32))).2 k)
        show own_Goes p.tables e below P (T35.setTop (mkF m 191 #[.val (.int p0), .val (.int p1), .val (.int p2), .val (.int p3), .val (.int p4), .val (.int p5), .val (.int (1 : Int32)), .val (.int mm), .val (.int qq), .val (.ref a15), .val (.int (1 : Int32))] []))
        refine own_Goes.st ?_ (fun _ k => XS.iconst X35.here hx rfl (hb hby at_191) k)
        show own_Goes p.tables e below P (T35.setTop (mkF m 192 #[.val (.int p0), .val (.int p1), .val (.int p2), .val (.int p3), .val (.int p4), .val (.int p5), .val (.int (1 : Int32)), .val (.int mm), .val (.int qq), .val (.ref a15), .val (.int (1 : Int32))] [(.int (1 : Int32))]))
        refine own_Goes.st ?_ (fun _ k => XS.goto X35.here hx rfl (pc0 := 192) (pc' := 196) rfl (hb hby at_192) (by decide) (by decide) k)
        show own_Goes p.tables e below P (T35.setTop (mkF m 196 #[.val (.int p0), .val (.int p1), .val (.int p2), .val (.int p3), .val (.int p4), .val (.int p5), .val (.int (1 : Int32)), .val (.int mm), .val (.int qq), .val (.ref a15), .val (.int (1 : Int32))] [(.int (1 : Int32))]))
        obtain ⟨fs, hr, hrun, hended, hW, hsame⟩ := X35.leave (v := some (.int (1 : Int32))) (fun h => by rw [Bd.returns] at h; cases h)
        exact own_Goes.fin _ _ (retOut X35 hx (t := .boolean) Bd.returns rfl (Or.inl ⟨rfl, Or.inr (Or.inl rfl), _, rfl⟩) (hb hby at_196) hr) (hPP _ _ ⟨hrun, hended, _, _, rfl, (by show Q_law n0 _ _; exact ⟨rfl, N35⟩), ⟨_, rfl⟩, hW, hsame.mono (by decide) (by decide)⟩)
      · skip
        refine own_Goes.st ?_ (fun _ k => XS.icmpNo X28.here hx rfl (hb hby at_133) rfl (feq hx0).1 k)
        show own_Goes p.tables e below P (T28.setTop (mkF m 136 #[.val (.int p0), .val (.int p1), .val (.int p2), .val (.int p3), .val (.int p4), .val (.int p5), .val (.int (1 : Int32)), .val (.int mm), .val (.int qq), .val (.ref a15), .unset] []))
        refine own_Goes.st ?_ (fun _ k => XS.iload X28.here hx rfl (hb hby at_136) rfl k)
        show own_Goes p.tables e below P (T28.setTop (mkF m 138 #[.val (.int p0), .val (.int p1), .val (.int p2), .val (.int p3), .val (.int p4), .val (.int p5), .val (.int (1 : Int32)), .val (.int mm), .val (.int qq), .val (.ref a15), .unset] [(.int (1 : Int32))]))
        refine own_Goes.st ?_ (fun _ k => XS.iconst X28.here hx rfl (hb hby at_138) k)
        show own_Goes p.tables e below P (T28.setTop (mkF m 139 #[.val (.int p0), .val (.int p1), .val (.int p2), .val (.int p3), .val (.int p4), .val (.int p5), .val (.int (1 : Int32)), .val (.int mm), .val (.int qq), .val (.ref a15), .unset] [(.int (2 : Int32)), (.int (1 : Int32))]))
        refine own_Goes.st ?_ (fun _ k => XS.icmpYes X28.here hx rfl (pc0 := 139) (pc' := 148) rfl (hb hby at_139) rfl (tlt (by decide : (1 : Int32) < (2 : Int32))).1 (by decide) (by decide) k)
        show own_Goes p.tables e below P (T28.setTop (mkF m 148 #[.val (.int p0), .val (.int p1), .val (.int p2), .val (.int p3), .val (.int p4), .val (.int p5), .val (.int (1 : Int32)), .val (.int mm), .val (.int qq), .val (.ref a15), .unset] []))
        refine own_Goes.st ?_ (fun _ k => XS.iload X28.here hx rfl (hb hby at_148) rfl k)
        show own_Goes p.tables e below P (T28.setTop (mkF m 150 #[.val (.int p0), .val (.int p1), .val (.int p2), .val (.int p3), .val (.int p4), .val (.int p5), .val (.int (1 : Int32)), .val (.int mm), .val (.int qq), .val (.ref a15), .unset] [(.int (1 : Int32))]))
        refine own_Goes.st ?_ (fun _ k => XS.iconst X28.here hx rfl (hb hby at_150) k)
        show own_Goes p.tables e below P (T28.setTop (mkF m 151 #[.val (.int p0), .val (.int p1), .val (.int p2), .val (.int p3), .val (.int p4), .val (.int p5), .val (.int (1 : Int32)), .val (.int mm), .val (.int qq), .val (.ref a15), .unset] [(.int (3 : Int32)), (.int (1 : Int32))]))
        refine own_Goes.st ?_ (fun _ k => XS.icmpYes X28.here hx rfl (pc0 := 151) (pc' := 160) rfl (hb hby at_151) rfl (tlt (by decide : (1 : Int32) < (3 : Int32))).1 (by decide) (by decide) k)
        show own_Goes p.tables e below P (T28.setTop (mkF m 160 #[.val (.int p0), .val (.int p1), .val (.int p2), .val (.int p3), .val (.int p4), .val (.int p5), .val (.int (1 : Int32)), .val (.int mm), .val (.int qq), .val (.ref a15), .unset] []))
        refine own_Goes.st ?_ (fun _ k => XS.iload X28.here hx rfl (hb hby at_160) rfl k)
        show own_Goes p.tables e below P (T28.setTop (mkF m 162 #[.val (.int p0), .val (.int p1), .val (.int p2), .val (.int p3), .val (.int p4), .val (.int p5), .val (.int (1 : Int32)), .val (.int mm), .val (.int qq), .val (.ref a15), .unset] [(.int (1 : Int32))]))
        refine own_Goes.st ?_ (fun _ k => XS.iconst X28.here hx rfl (hb hby at_162) k)
        show own_Goes p.tables e below P (T28.setTop (mkF m 163 #[.val (.int p0), .val (.int p1), .val (.int p2), .val (.int p3), .val (.int p4), .val (.int p5), .val (.int (1 : Int32)), .val (.int mm), .val (.int qq), .val (.ref a15), .unset] [(.int (4 : Int32)), (.int (1 : Int32))]))
        refine own_Goes.st ?_ (fun _ k => XS.icmpYes X28.here hx rfl (pc0 := 163) (pc' := 176) rfl (hb hby at_163) rfl (tlt (by decide : (1 : Int32) < (4 : Int32))).1 (by decide) (by decide) k)
        show own_Goes p.tables e below P (T28.setTop (mkF m 176 #[.val (.int p0), .val (.int p1), .val (.int p2), .val (.int p3), .val (.int p4), .val (.int p5), .val (.int (1 : Int32)), .val (.int mm), .val (.int qq), .val (.ref a15), .unset] []))
        refine own_Goes.st ?_ (fun _ k => XS.iconst X28.here hx rfl (hb hby at_176) k)
        show own_Goes p.tables e below P (T28.setTop (mkF m 177 #[.val (.int p0), .val (.int p1), .val (.int p2), .val (.int p3), .val (.int p4), .val (.int p5), .val (.int (1 : Int32)), .val (.int mm), .val (.int qq), .val (.ref a15), .unset] [(.int (0 : Int32))]))
        refine own_Goes.st ?_ (fun _ k => XS.istore X28.here hx rfl (hb hby at_177) rfl (l' := #[.val (.int p0), .val (.int p1), .val (.int p2), .val (.int p3), .val (.int p4), .val (.int p5), .val (.int (1 : Int32)), .val (.int mm), .val (.int qq), .val (.ref a15), .val (.int (0 : Int32))]) rfl k)
        show own_Goes p.tables e below P (T28.setTop (mkF m 179 #[.val (.int p0), .val (.int p1), .val (.int p2), .val (.int p3), .val (.int p4), .val (.int p5), .val (.int (1 : Int32)), .val (.int mm), .val (.int qq), .val (.ref a15), .val (.int (0 : Int32))] []))
        refine own_Goes.st ?_ (fun _ k => XS.aload X28.here hx rfl (hb hby at_179) rfl rfl k)
        show own_Goes p.tables e below P (T28.setTop (mkF m 181 #[.val (.int p0), .val (.int p1), .val (.int p2), .val (.int p3), .val (.int p4), .val (.int p5), .val (.int (1 : Int32)), .val (.int mm), .val (.int qq), .val (.ref a15), .val (.int (0 : Int32))] [(.ref a15)]))
        refine own_Goes.st ?_ (fun _ k => XS.iload X28.here hx rfl (hb hby at_181) rfl k)
        show own_Goes p.tables e below P (T28.setTop (mkF m 183 #[.val (.int p0), .val (.int p1), .val (.int p2), .val (.int p3), .val (.int p4), .val (.int p5), .val (.int (1 : Int32)), .val (.int mm), .val (.int qq), .val (.ref a15), .val (.int (0 : Int32))] [(.int qq), (.ref a15)]))
        obtain ⟨cq36, kq36, q36a, q36b, q36c⟩ := isOf hZ rfl f29
        obtain ⟨_, _, ⟨T36, L36, k36, n36⟩, -, X36, ⟨Lc36, hQ36, l36, y36, z36⟩, st36⟩ := X28.virtualBack hx (y := (⟨"com/example/taxodelta/taxodelta/taxonomy/IntList", "contains", "(I)Z"⟩ : MethodName)) (z := (⟨"com/example/taxodelta/taxodelta/taxonomy/IntList", "contains", "(I)Z"⟩ : MethodName)) hown (mvT hZ (hw _ (List.mem_of_getElem? (i := 31) rfl))) (mvT hZ (hw _ (List.mem_of_getElem? (i := 32) rfl))) (notFace_of_selects (args := #[]) (mvT hZ (hw _ (List.mem_of_getElem? (i := 34) rfl)))) (mvT hZ (hw _ (List.mem_of_getElem? (i := 34) rfl))) (mvT hZ (hw _ (List.mem_of_getElem? (i := 33) rfl))) (by decide) (backOf (W := 0) (rm_has_1 l Z a0 hw [] a15 qq b19 k19 p0 T28.heap n0 Z34 f30 f31 f32) hZ (hw _ (List.mem_of_getElem? (i := 35) rfl)) (hw _ (List.mem_of_getElem? (i := 2) rfl)) (by decide) (by decide)) q36a q36c (g := (mkF m 183 #[.val (.int p0), .val (.int p1), .val (.int p2), .val (.int p3), .val (.int p4), .val (.int p5), .val (.int (1 : Int32)), .val (.int mm), .val (.int qq), .val (.ref a15), .val (.int (0 : Int32))] [(.int qq), (.ref a15)])) rfl (by rw [hml]; rfl) (Steps.refl _) (argsL := [(.int qq)]) (rest := []) (lenOf own_pd__28_I_29_Z rfl) rfl (by show 2 * 0 + _ ≤ _; exact Nat.le_of_eq rfl) (hb hby at_183) (fun _ _ => ⟨rfl, rfl, (by decide : 2 + 0 ≤ _), (by decide : 4 + 0 ≤ _)⟩)
        dsimp only [Pt.U, Pt.locs, Pt.cells, Pt.slots] at X36 l36 y36 z36 st36 hQ36
        subst l36 y36 z36
        obtain ⟨rfl, Nq36, e36⟩ := hQ36
        have N36 := Fr.app N28 Nq36
        refine own_Goes.tr st36 ?_
        show own_Goes p.tables e below P (T36.setTop (mkF m 186 #[.val (.int p0), .val (.int p1), .val (.int p2), .val (.int p3), .val (.int p4), .val (.int p5), .val (.int (1 : Int32)), .val (.int mm), .val (.int qq), .val (.ref a15), .val (.int (0 : Int32))] [(.int (if p0 = qq then 1 else 0))]))
        rw [(show (if p0 = qq then 1 else 0) = (0 : Int32) by rw [if_neg hx0])]
        show own_Goes p.tables e below P (T36.setTop (mkF m 186 #[.val (.int p0), .val (.int p1), .val (.int p2), .val (.int p3), .val (.int p4), .val (.int p5), .val (.int (1 : Int32)), .val (.int mm), .val (.int qq), .val (.ref a15), .val (.int (0 : Int32))] [(.int (0 : Int32))]))
        refine own_Goes.st ?_ (fun _ k => XS.iload X36.here hx rfl (hb hby at_186) rfl k)
        show own_Goes p.tables e below P (T36.setTop (mkF m 188 #[.val (.int p0), .val (.int p1), .val (.int p2), .val (.int p3), .val (.int p4), .val (.int p5), .val (.int (1 : Int32)), .val (.int mm), .val (.int qq), .val (.ref a15), .val (.int (0 : Int32))] [(.int (0 : Int32)), (.int (0 : Int32))]))
        refine own_Goes.st ?_ (fun _ k => XS.icmpNo X36.here hx rfl (hb hby at_188) rfl (teq (by decide : (0 : Int32) = (0 : Int32))).2 k)
        show own_Goes p.tables e below P (T36.setTop (mkF m 191 #[.val (.int p0), .val (.int p1), .val (.int p2), .val (.int p3), .val (.int p4), .val (.int p5), .val (.int (1 : Int32)), .val (.int mm), .val (.int qq), .val (.ref a15), .val (.int (0 : Int32))] []))
        refine own_Goes.st ?_ (fun _ k => XS.iconst X36.here hx rfl (hb hby at_191) k)
        show own_Goes p.tables e below P (T36.setTop (mkF m 192 #[.val (.int p0), .val (.int p1), .val (.int p2), .val (.int p3), .val (.int p4), .val (.int p5), .val (.int (1 : Int32)), .val (.int mm), .val (.int qq), .val (.ref a15), .val (.int (0 : Int32))] [(.int (1 : Int32))]))
        refine own_Goes.st ?_ (fun _ k => XS.goto X36.here hx rfl (pc0 := 192) (pc' := 196) rfl (hb hby at_192) (by decide) (by decide) k)
        show own_Goes p.tables e below P (T36.setTop (mkF m 196 #[.val (.int p0), .val (.int p1), .val (.int p2), .val (.int p3), .val (.int p4), .val (.int p5), .val (.int (1 : Int32)), .val (.int mm), .val (.int qq), .val (.ref a15), .val (.int (0 : Int32))] [(.int (1 : Int32))]))
        obtain ⟨fs, hr, hrun, hended, hW, hsame⟩ := X36.leave (v := some (.int (1 : Int32))) (fun h => by rw [Bd.returns] at h; cases h)
        exact own_Goes.fin _ _ (retOut X36 hx (t := .boolean) Bd.returns rfl (Or.inl ⟨rfl, Or.inr (Or.inl rfl), _, rfl⟩) (hb hby at_196) hr) (hPP _ _ ⟨hrun, hended, _, _, rfl, (by show Q_law n0 _ _; exact ⟨rfl, N36⟩), ⟨_, rfl⟩, hW, hsame.mono (by decide) (by decide)⟩)
    · skip
      show own_Goes p.tables e below P (s₁.setTop (mkF m 67 #[.val (.int p0), .val (.int p1), .val (.int p2), .val (.int p3), .val (.int p4), .val (.int p5), .val (.int (2 : Int32)), .val (.int mm), .val (.int qq), .unset, .unset] []))
      obtain ⟨T37, h37, X37, e37, E37, A37, D37, -, st37⟩ := newO X0 hx hZ hown (hw _ (List.mem_of_getElem? (i := 0) rfl)) (hw _ (List.mem_of_getElem? (i := 1) rfl)) (hw _ (List.mem_of_getElem? (i := 2) rfl)) e0 (g := (mkF m 67 #[.val (.int p0), .val (.int p1), .val (.int p2), .val (.int p3), .val (.int p4), .val (.int p5), .val (.int (2 : Int32)), .val (.int mm), .val (.int qq), .unset, .unset] [])) rfl (hb hby at_67) (by decide) (by decide)
      obtain ⟨a37, g37⟩ : ∃ z, z = h0.size := ⟨_, rfl⟩
      rw [← g37] at A37 D37 st37
      have ge_a37 : n0 ≤ a37 := Nat.le_trans Z0 (Nat.le_of_eq g37.symm)
      refine own_Goes.st ?_ st37
      have Z38 : n0 ≤ h37.size := Nat.le_trans Z0 E37.1
      have F39 : Fld Z h37 a37 "com/example/taxodelta/taxodelta/taxonomy/IntList" "values" "[I" .null := D37 (Or.inl (hw _ (List.mem_of_getElem? (i := 11) rfl))) (ty := (.array .int)) (by decide)
      have F40 : Fld Z h37 a37 "com/example/taxodelta/taxodelta/taxonomy/IntList" "size" "I" (.int (0 : Int32)) := D37 (Or.inl (hw _ (List.mem_of_getElem? (i := 18) rfl))) (ty := .int) (by decide)
      show own_Goes p.tables e below P (T37.setTop (mkF m 70 #[.val (.int p0), .val (.int p1), .val (.int p2), .val (.int p3), .val (.int p4), .val (.int p5), .val (.int (2 : Int32)), .val (.int mm), .val (.int qq), .unset, .unset] [(.ref a37)]))
      refine own_Goes.st ?_ (fun _ k => XS.dup X37.here hx rfl (hb hby at_70) rfl rfl k)
      show own_Goes p.tables e below P (T37.setTop (mkF m 71 #[.val (.int p0), .val (.int p1), .val (.int p2), .val (.int p3), .val (.int p4), .val (.int p5), .val (.int (2 : Int32)), .val (.int mm), .val (.int qq), .unset, .unset] [(.ref a37), (.ref a37)]))
      obtain ⟨_, _, ⟨T41, L41, k41, n41⟩, -, X41, ⟨Lc41, hQ41, l41, y41, z41⟩, st41⟩ := X37.specialBack hx (y := (⟨"com/example/taxodelta/taxodelta/taxonomy/IntList", "<init>", "()V"⟩ : MethodName)) rfl hown (mvT hZ (hw _ (List.mem_of_getElem? (i := 3) rfl))) (mvT hZ (hw _ (List.mem_of_getElem? (i := 4) rfl))) (mvT hZ (hw _ (List.mem_of_getElem? (i := 5) rfl))) (by decide) (backOf (W := 1) (rm_ctor l Z a0 hw [] a37 .null h37 n0 Z38 A37 F39 F40 ge_a37) hZ (hw _ (List.mem_of_getElem? (i := 5) rfl)) (hw _ (List.mem_of_getElem? (i := 2) rfl)) (by decide) (by decide)) (g := (mkF m 71 #[.val (.int p0), .val (.int p1), .val (.int p2), .val (.int p3), .val (.int p4), .val (.int p5), .val (.int (2 : Int32)), .val (.int mm), .val (.int qq), .unset, .unset] [(.ref a37), (.ref a37)])) rfl (by rw [hml]; rfl) (Steps.refl _) (a := a37) (argsL := []) (rest := [(.ref a37)]) (lenOf own_pd__28__29_V rfl) rfl (by show 2 * 0 + _ ≤ _; exact Nat.le_of_eq rfl) (hb hby at_71) (fun _ _ => ⟨rfl, e37, (by decide : 1 + 1 ≤ _), (by decide : 2 + 2 ≤ _)⟩)
      dsimp only [Pt.U, Pt.locs, Pt.cells, Pt.slots] at X41 l41 y41 z41 st41 hQ41
      subst l41 y41 z41
      obtain ⟨b41, k41, rfl, Nq41, K41, f42, f43, f44, f45, f46, f47⟩ := hQ41
      have N41 := Fr.app N0 Nq41
      refine own_Goes.tr st41 ?_
      have ne48 : a37 ≠ b41 := Nat.ne_of_lt (Nat.lt_of_lt_of_le A37.lt f45)
      have ge_b41 : n0 ≤ b41 := Nat.le_trans Z38 f45
      have Z49 : n0 ≤ T41.heap.size := Nat.le_trans Z38 K41.1
      show own_Goes p.tables e below P (T41.setTop (mkF m 74 #[.val (.int p0), .val (.int p1), .val (.int p2), .val (.int p3), .val (.int p4), .val (.int p5), .val (.int (2 : Int32)), .val (.int mm), .val (.int qq), .unset, .unset] [(.ref a37)]))
      refine own_Goes.st ?_ (fun _ k => XS.astore X41.here hx rfl (hb hby at_74) rfl rfl (l' := #[.val (.int p0), .val (.int p1), .val (.int p2), .val (.int p3), .val (.int p4), .val (.int p5), .val (.int (2 : Int32)), .val (.int mm), .val (.int qq), .val (.ref a37), .unset]) rfl k)
      show own_Goes p.tables e below P (T41.setTop (mkF m 76 #[.val (.int p0), .val (.int p1), .val (.int p2), .val (.int p3), .val (.int p4), .val (.int p5), .val (.int (2 : Int32)), .val (.int mm), .val (.int qq), .val (.ref a37), .unset] []))
      refine own_Goes.st ?_ (fun _ k => XS.iload X41.here hx rfl (hb hby at_76) rfl k)
      show own_Goes p.tables e below P (T41.setTop (mkF m 78 #[.val (.int p0), .val (.int p1), .val (.int p2), .val (.int p3), .val (.int p4), .val (.int p5), .val (.int (2 : Int32)), .val (.int mm), .val (.int qq), .val (.ref a37), .unset] [(.int (2 : Int32))]))
      refine own_Goes.st ?_ (fun _ k => XS.iconst X41.here hx rfl (hb hby at_78) k)
      show own_Goes p.tables e below P (T41.setTop (mkF m 79 #[.val (.int p0), .val (.int p1), .val (.int p2), .val (.int p3), .val (.int p4), .val (.int p5), .val (.int (2 : Int32)), .val (.int mm), .val (.int qq), .val (.ref a37), .unset] [(.int (1 : Int32)), (.int (2 : Int32))]))
      refine own_Goes.st ?_ (fun _ k => XS.icmpNo X41.here hx rfl (hb hby at_79) rfl (flt (by decide : ¬ ((2 : Int32) < (1 : Int32)))).1 k)
      show own_Goes p.tables e below P (T41.setTop (mkF m 82 #[.val (.int p0), .val (.int p1), .val (.int p2), .val (.int p3), .val (.int p4), .val (.int p5), .val (.int (2 : Int32)), .val (.int mm), .val (.int qq), .val (.ref a37), .unset] []))
      refine own_Goes.st ?_ (fun _ k => XS.aload X41.here hx rfl (hb hby at_82) rfl rfl k)
      show own_Goes p.tables e below P (T41.setTop (mkF m 84 #[.val (.int p0), .val (.int p1), .val (.int p2), .val (.int p3), .val (.int p4), .val (.int p5), .val (.int (2 : Int32)), .val (.int mm), .val (.int qq), .val (.ref a37), .unset] [(.ref a37)]))
      refine own_Goes.st ?_ (fun _ k => XS.iloadN X41.here hx rfl (hb hby at_84) rfl k)
      show own_Goes p.tables e below P (T41.setTop (mkF m 85 #[.val (.int p0), .val (.int p1), .val (.int p2), .val (.int p3), .val (.int p4), .val (.int p5), .val (.int (2 : Int32)), .val (.int mm), .val (.int qq), .val (.ref a37), .unset] [(.int p0), (.ref a37)]))
      obtain ⟨cq50, kq50, q50a, q50b, q50c⟩ := isOf hZ rfl f42
      obtain ⟨_, _, ⟨T50, L50, k50, n50⟩, -, X50, ⟨Lc50, hQ50, l50, y50, z50⟩, st50⟩ := X41.virtualBack hx (y := (⟨"com/example/taxodelta/taxodelta/taxonomy/IntList", "add", "(I)V"⟩ : MethodName)) (z := (⟨"com/example/taxodelta/taxodelta/taxonomy/IntList", "add", "(I)V"⟩ : MethodName)) hown (mvT hZ (hw _ (List.mem_of_getElem? (i := 12) rfl))) (mvT hZ (hw _ (List.mem_of_getElem? (i := 13) rfl))) (notFace_of_selects (args := #[]) (mvT hZ (hw _ (List.mem_of_getElem? (i := 15) rfl)))) (mvT hZ (hw _ (List.mem_of_getElem? (i := 15) rfl))) (mvT hZ (hw _ (List.mem_of_getElem? (i := 14) rfl))) (by decide) (backOf (W := 0) (rm_add_0 l Z a0 hw [] a37 p0 b41 k41 T41.heap n0 Z49 f42 f43 f44 f46 f47 ge_a37 ge_b41 ne48) hZ (hw _ (List.mem_of_getElem? (i := 16) rfl)) (hw _ (List.mem_of_getElem? (i := 2) rfl)) (by decide) (by decide)) q50a q50c (g := (mkF m 85 #[.val (.int p0), .val (.int p1), .val (.int p2), .val (.int p3), .val (.int p4), .val (.int p5), .val (.int (2 : Int32)), .val (.int mm), .val (.int qq), .val (.ref a37), .unset] [(.int p0), (.ref a37)])) rfl (by rw [hml]; rfl) (Steps.refl _) (argsL := [(.int p0)]) (rest := []) (lenOf own_pd__28_I_29_V rfl) rfl (by show 2 * 0 + _ ≤ _; exact Nat.le_of_eq rfl) (hb hby at_85) (fun _ _ => ⟨rfl, rfl, (by decide : 2 + 0 ≤ _), (by decide : 4 + 0 ≤ _)⟩)
      dsimp only [Pt.U, Pt.locs, Pt.cells, Pt.slots] at X50 l50 y50 z50 st50 hQ50
      subst l50 y50 z50
      obtain ⟨rfl, Nq50, K50, f51, f52, f53, f54, f55⟩ := hQ50
      have N50 := Fr.app N41 Nq50
      refine own_Goes.tr st50 ?_
      have Z56 : n0 ≤ T50.heap.size := Nat.le_trans Z49 K50.1
      show own_Goes p.tables e below P (T50.setTop (mkF m 88 #[.val (.int p0), .val (.int p1), .val (.int p2), .val (.int p3), .val (.int p4), .val (.int p5), .val (.int (2 : Int32)), .val (.int mm), .val (.int qq), .val (.ref a37), .unset] []))
      refine own_Goes.st ?_ (fun _ k => XS.iload X50.here hx rfl (hb hby at_88) rfl k)
      show own_Goes p.tables e below P (T50.setTop (mkF m 90 #[.val (.int p0), .val (.int p1), .val (.int p2), .val (.int p3), .val (.int p4), .val (.int p5), .val (.int (2 : Int32)), .val (.int mm), .val (.int qq), .val (.ref a37), .unset] [(.int (2 : Int32))]))
      refine own_Goes.st ?_ (fun _ k => XS.iconst X50.here hx rfl (hb hby at_90) k)
      show own_Goes p.tables e below P (T50.setTop (mkF m 91 #[.val (.int p0), .val (.int p1), .val (.int p2), .val (.int p3), .val (.int p4), .val (.int p5), .val (.int (2 : Int32)), .val (.int mm), .val (.int qq), .val (.ref a37), .unset] [(.int (2 : Int32)), (.int (2 : Int32))]))
      refine own_Goes.st ?_ (fun _ k => XS.icmpNo X50.here hx rfl (hb hby at_91) rfl (flt (by decide : ¬ ((2 : Int32) < (2 : Int32)))).1 k)
      show own_Goes p.tables e below P (T50.setTop (mkF m 94 #[.val (.int p0), .val (.int p1), .val (.int p2), .val (.int p3), .val (.int p4), .val (.int p5), .val (.int (2 : Int32)), .val (.int mm), .val (.int qq), .val (.ref a37), .unset] []))
      refine own_Goes.st ?_ (fun _ k => XS.aload X50.here hx rfl (hb hby at_94) rfl rfl k)
      show own_Goes p.tables e below P (T50.setTop (mkF m 96 #[.val (.int p0), .val (.int p1), .val (.int p2), .val (.int p3), .val (.int p4), .val (.int p5), .val (.int (2 : Int32)), .val (.int mm), .val (.int qq), .val (.ref a37), .unset] [(.ref a37)]))
      refine own_Goes.st ?_ (fun _ k => XS.iloadN X50.here hx rfl (hb hby at_96) rfl k)
      show own_Goes p.tables e below P (T50.setTop (mkF m 97 #[.val (.int p0), .val (.int p1), .val (.int p2), .val (.int p3), .val (.int p4), .val (.int p5), .val (.int (2 : Int32)), .val (.int mm), .val (.int qq), .val (.ref a37), .unset] [(.int p1), (.ref a37)]))
      obtain ⟨cq57, kq57, q57a, q57b, q57c⟩ := isOf hZ rfl f51
      obtain ⟨_, _, ⟨T57, L57, k57, n57⟩, -, X57, ⟨Lc57, hQ57, l57, y57, z57⟩, st57⟩ := X50.virtualBack hx (y := (⟨"com/example/taxodelta/taxodelta/taxonomy/IntList", "add", "(I)V"⟩ : MethodName)) (z := (⟨"com/example/taxodelta/taxodelta/taxonomy/IntList", "add", "(I)V"⟩ : MethodName)) hown (mvT hZ (hw _ (List.mem_of_getElem? (i := 12) rfl))) (mvT hZ (hw _ (List.mem_of_getElem? (i := 13) rfl))) (notFace_of_selects (args := #[]) (mvT hZ (hw _ (List.mem_of_getElem? (i := 15) rfl)))) (mvT hZ (hw _ (List.mem_of_getElem? (i := 15) rfl))) (mvT hZ (hw _ (List.mem_of_getElem? (i := 14) rfl))) (by decide) (backOf (W := 0) (rm_add_1 l Z a0 hw [] a37 p1 b41 k41 p0 T50.heap n0 Z56 f51 f52 f53 f54 f55 ge_a37 ge_b41 ne48) hZ (hw _ (List.mem_of_getElem? (i := 16) rfl)) (hw _ (List.mem_of_getElem? (i := 2) rfl)) (by decide) (by decide)) q57a q57c (g := (mkF m 97 #[.val (.int p0), .val (.int p1), .val (.int p2), .val (.int p3), .val (.int p4), .val (.int p5), .val (.int (2 : Int32)), .val (.int mm), .val (.int qq), .val (.ref a37), .unset] [(.int p1), (.ref a37)])) rfl (by rw [hml]; rfl) (Steps.refl _) (argsL := [(.int p1)]) (rest := []) (lenOf own_pd__28_I_29_V rfl) rfl (by show 2 * 0 + _ ≤ _; exact Nat.le_of_eq rfl) (hb hby at_97) (fun _ _ => ⟨rfl, rfl, (by decide : 2 + 0 ≤ _), (by decide : 4 + 0 ≤ _)⟩)
      dsimp only [Pt.U, Pt.locs, Pt.cells, Pt.slots] at X57 l57 y57 z57 st57 hQ57
      subst l57 y57 z57
      obtain ⟨rfl, Nq57, K57, f58, f59, f60, f61, f62⟩ := hQ57
      have N57 := Fr.app N50 Nq57
      refine own_Goes.tr st57 ?_
      have Z63 : n0 ≤ T57.heap.size := Nat.le_trans Z56 K57.1
      show own_Goes p.tables e below P (T57.setTop (mkF m 100 #[.val (.int p0), .val (.int p1), .val (.int p2), .val (.int p3), .val (.int p4), .val (.int p5), .val (.int (2 : Int32)), .val (.int mm), .val (.int qq), .val (.ref a37), .unset] []))
      refine own_Goes.st ?_ (fun _ k => XS.iload X57.here hx rfl (hb hby at_100) rfl k)
      show own_Goes p.tables e below P (T57.setTop (mkF m 102 #[.val (.int p0), .val (.int p1), .val (.int p2), .val (.int p3), .val (.int p4), .val (.int p5), .val (.int (2 : Int32)), .val (.int mm), .val (.int qq), .val (.ref a37), .unset] [(.int (2 : Int32))]))
      refine own_Goes.st ?_ (fun _ k => XS.iconst X57.here hx rfl (hb hby at_102) k)
      show own_Goes p.tables e below P (T57.setTop (mkF m 103 #[.val (.int p0), .val (.int p1), .val (.int p2), .val (.int p3), .val (.int p4), .val (.int p5), .val (.int (2 : Int32)), .val (.int mm), .val (.int qq), .val (.ref a37), .unset] [(.int (3 : Int32)), (.int (2 : Int32))]))
      refine own_Goes.st ?_ (fun _ k => XS.icmpYes X57.here hx rfl (pc0 := 103) (pc' := 112) rfl (hb hby at_103) rfl (tlt (by decide : (2 : Int32) < (3 : Int32))).1 (by decide) (by decide) k)
      show own_Goes p.tables e below P (T57.setTop (mkF m 112 #[.val (.int p0), .val (.int p1), .val (.int p2), .val (.int p3), .val (.int p4), .val (.int p5), .val (.int (2 : Int32)), .val (.int mm), .val (.int qq), .val (.ref a37), .unset] []))
      refine own_Goes.st ?_ (fun _ k => XS.iload X57.here hx rfl (hb hby at_112) rfl k)
      show own_Goes p.tables e below P (T57.setTop (mkF m 114 #[.val (.int p0), .val (.int p1), .val (.int p2), .val (.int p3), .val (.int p4), .val (.int p5), .val (.int (2 : Int32)), .val (.int mm), .val (.int qq), .val (.ref a37), .unset] [(.int (2 : Int32))]))
      refine own_Goes.st ?_ (fun _ k => XS.iconst X57.here hx rfl (hb hby at_114) k)
      show own_Goes p.tables e below P (T57.setTop (mkF m 115 #[.val (.int p0), .val (.int p1), .val (.int p2), .val (.int p3), .val (.int p4), .val (.int p5), .val (.int (2 : Int32)), .val (.int mm), .val (.int qq), .val (.ref a37), .unset] [(.int (4 : Int32)), (.int (2 : Int32))]))
      refine own_Goes.st ?_ (fun _ k => XS.icmpYes X57.here hx rfl (pc0 := 115) (pc' := 124) rfl (hb hby at_115) rfl (tlt (by decide : (2 : Int32) < (4 : Int32))).1 (by decide) (by decide) k)
      show own_Goes p.tables e below P (T57.setTop (mkF m 124 #[.val (.int p0), .val (.int p1), .val (.int p2), .val (.int p3), .val (.int p4), .val (.int p5), .val (.int (2 : Int32)), .val (.int mm), .val (.int qq), .val (.ref a37), .unset] []))
      refine own_Goes.st ?_ (fun _ k => XS.iload X57.here hx rfl (hb hby at_124) rfl k)
      show own_Goes p.tables e below P (T57.setTop (mkF m 126 #[.val (.int p0), .val (.int p1), .val (.int p2), .val (.int p3), .val (.int p4), .val (.int p5), .val (.int (2 : Int32)), .val (.int mm), .val (.int qq), .val (.ref a37), .unset] [(.int (2 : Int32))]))
      refine own_Goes.st ?_ (fun _ k => XS.iconst X57.here hx rfl (hb hby at_126) k)
      show own_Goes p.tables e below P (T57.setTop (mkF m 127 #[.val (.int p0), .val (.int p1), .val (.int p2), .val (.int p3), .val (.int p4), .val (.int p5), .val (.int (2 : Int32)), .val (.int mm), .val (.int qq), .val (.ref a37), .unset] [(.int (1 : Int32)), (.int (2 : Int32))]))
      refine own_Goes.st ?_ (fun _ k => XS.icmpNo X57.here hx rfl (hb hby at_127) rfl (flt (by decide : ¬ ((2 : Int32) < (1 : Int32)))).1 k)
      show own_Goes p.tables e below P (T57.setTop (mkF m 130 #[.val (.int p0), .val (.int p1), .val (.int p2), .val (.int p3), .val (.int p4), .val (.int p5), .val (.int (2 : Int32)), .val (.int mm), .val (.int qq), .val (.ref a37), .unset] []))
      refine own_Goes.st ?_ (fun _ k => XS.iloadN X57.here hx rfl (hb hby at_130) rfl k)
      show own_Goes p.tables e below P (T57.setTop (mkF m 131 #[.val (.int p0), .val (.int p1), .val (.int p2), .val (.int p3), .val (.int p4), .val (.int p5), .val (.int (2 : Int32)), .val (.int mm), .val (.int qq), .val (.ref a37), .unset] [(.int p0)]))
      refine own_Goes.st ?_ (fun _ k => XS.iload X57.here hx rfl (hb hby at_131) rfl k)
      show own_Goes p.tables e below P (T57.setTop (mkF m 133 #[.val (.int p0), .val (.int p1), .val (.int p2), .val (.int p3), .val (.int p4), .val (.int p5), .val (.int (2 : Int32)), .val (.int mm), .val (.int qq), .val (.ref a37), .unset] [(.int qq), (.int p0)]))
      by_cases hx0 : p0 = qq
      · skip
        refine own_Goes.st ?_ (fun _ k => XS.icmpYes X57.here hx rfl (pc0 := 133) (pc' := 172) rfl (hb hby at_133) rfl (teq hx0).1 (by decide) (by decide) k)
        show own_Goes p.tables e below P (T57.setTop (mkF m 172 #[.val (.int p0), .val (.int p1), .val (.int p2), .val (.int p3), .val (.int p4), .val (.int p5), .val (.int (2 : Int32)), .val (.int mm), .val (.int qq), .val (.ref a37), .unset] []))
        refine own_Goes.st ?_ (fun _ k => XS.iconst X57.here hx rfl (hb hby at_172) k)
        show own_Goes p.tables e below P (T57.setTop (mkF m 173 #[.val (.int p0), .val (.int p1), .val (.int p2), .val (.int p3), .val (.int p4), .val (.int p5), .val (.int (2 : Int32)), .val (.int mm), .val (.int qq), .val (.ref a37), .unset] [(.int (1 : Int32))]))
        refine own_Goes.st ?_ (fun _ k => XS.goto X57.here hx rfl (pc0 := 173) (pc' := 177) rfl (hb hby at_173) (by decide) (by decide) k)
        show own_Goes p.tables e below P (T57.setTop (mkF m 177 #[.val (.int p0), .val (.int p1), .val (.int p2), .val (.int p3), .val (.int p4), .val (.int p5), .val (.int (2 : Int32)), .val (.int mm), .val (.int qq), .val (.ref a37), .unset] [(.int (1 : Int32))]))
        refine own_Goes.st ?_ (fun _ k => XS.istore X57.here hx rfl (hb hby at_177) rfl (l' := #[.val (.int p0), .val (.int p1), .val (.int p2), .val (.int p3), .val (.int p4), .val (.int p5), .val (.int (2 : Int32)), .val (.int mm), .val (.int qq), .val (.ref a37), .val (.int (1 : Int32))]) rfl k)
        show own_Goes p.tables e below P (T57.setTop (mkF m 179 #[.val (.int p0), .val (.int p1), .val (.int p2), .val (.int p3), .val (.int p4), .val (.int p5), .val (.int (2 : Int32)), .val (.int mm), .val (.int qq), .val (.ref a37), .val (.int (1 : Int32))] []))
        refine own_Goes.st ?_ (fun _ k => XS.aload X57.here hx rfl (hb hby at_179) rfl rfl k)
        show own_Goes p.tables e below P (T57.setTop (mkF m 181 #[.val (.int p0), .val (.int p1), .val (.int p2), .val (.int p3), .val (.int p4), .val (.int p5), .val (.int (2 : Int32)), .val (.int mm), .val (.int qq), .val (.ref a37), .val (.int (1 : Int32))] [(.ref a37)]))
        refine own_Goes.st ?_ (fun _ k => XS.iload X57.here hx rfl (hb hby at_181) rfl k)
        show own_Goes p.tables e below P (T57.setTop (mkF m 183 #[.val (.int p0), .val (.int p1), .val (.int p2), .val (.int p3), .val (.int p4), .val (.int p5), .val (.int (2 : Int32)), .val (.int mm), .val (.int qq), .val (.ref a37), .val (.int (1 : Int32))] [(.int qq), (.ref a37)]))
        obtain ⟨cq64, kq64, q64a, q64b, q64c⟩ := isOf hZ rfl f58
        obtain ⟨_, _, ⟨T64, L64, k64, n64⟩, -, X64, ⟨Lc64, hQ64, l64, y64, z64⟩, st64⟩ := X57.virtualBack hx (y := (⟨"com/example/taxodelta/taxodelta/taxonomy/IntList", "contains", "(I)Z"⟩ : MethodName)) (z := (⟨"com/example/taxodelta/taxodelta/taxonomy/IntList", "contains", "(I)Z"⟩ : MethodName)) hown (mvT hZ (hw _ (List.mem_of_getElem? (i := 31) rfl))) (mvT hZ (hw _ (List.mem_of_getElem? (i := 32) rfl))) (notFace_of_selects (args := #[]) (mvT hZ (hw _ (List.mem_of_getElem? (i := 34) rfl)))) (mvT hZ (hw _ (List.mem_of_getElem? (i := 34) rfl))) (mvT hZ (hw _ (List.mem_of_getElem? (i := 33) rfl))) (by decide) (backOf (W := 0) (rm_has_2 l Z a0 hw [] a37 qq b41 k41 p0 p1 T57.heap n0 Z63 f59 f60 f61) hZ (hw _ (List.mem_of_getElem? (i := 35) rfl)) (hw _ (List.mem_of_getElem? (i := 2) rfl)) (by decide) (by decide)) q64a q64c (g := (mkF m 183 #[.val (.int p0), .val (.int p1), .val (.int p2), .val (.int p3), .val (.int p4), .val (.int p5), .val (.int (2 : Int32)), .val (.int mm), .val (.int qq), .val (.ref a37), .val (.int (1 : Int32))] [(.int qq), (.ref a37)])) rfl (by rw [hml]; rfl) (Steps.refl _) (argsL := [(.int qq)]) (rest := []) (lenOf own_pd__28_I_29_Z rfl) rfl (by show 2 * 0 + _ ≤ _; exact Nat.le_of_eq rfl) (hb hby at_183) (fun _ _ => ⟨rfl, rfl, (by decide : 2 + 0 ≤ _), (by decide : 4 + 0 ≤ _)⟩)
        dsimp only [Pt.U, Pt.locs, Pt.cells, Pt.slots] at X64 l64 y64 z64 st64 hQ64
        subst l64 y64 z64
        obtain ⟨rfl, Nq64, e64⟩ := hQ64
        have N64 := Fr.app N57 Nq64
        refine own_Goes.tr st64 ?_
        show own_Goes p.tables e below P (T64.setTop (mkF m 186 #[.val (.int p0), .val (.int p1), .val (.int p2), .val (.int p3), .val (.int p4), .val (.int p5), .val (.int (2 : Int32)), .val (.int mm), .val (.int qq), .val (.ref a37), .val (.int (1 : Int32))] [(.int (if p0 = qq then 1 else (if p1 = qq then 1 else 0)))]))
        rw [(show (if p0 = qq then 1 else (if p1 = qq then 1 else 0)) = (1 : Int32) by rw [if_pos hx0])]
        show own_Goes p.tables e below P (T64.setTop (mkF m 186 #[.val (.int p0), .val (.int p1), .val (.int p2), .val (.int p3), .val (.int p4), .val (.int p5), .val (.int (2 : Int32)), .val (.int mm), .val (.int qq), .val (.ref a37), .val (.int (1 : Int32))] [(.int (1 : Int32))]))
        refine own_Goes.st ?_ (fun _ k => XS.iload X64.here hx rfl (hb hby at_186) rfl k)
        show own_Goes p.tables e below P (T64.setTop (mkF m 188 #[.val (.int p0), .val (.int p1), .val (.int p2), .val (.int p3), .val (.int p4), .val (.int p5), .val (.int (2 : Int32)), .val (.int mm), .val (.int qq), .val (.ref a37), .val (.int (1 : Int32))] [(.int (1 : Int32)), (.int (1 : Int32))]))
        refine own_Goes.st ?_ (fun _ k => XS.icmpNo X64.here hx rfl (hb hby at_188) rfl (teq (by decide : (1 : Int32) = (1 : Int32))).2 k)
        show own_Goes p.tables e below P (T64.setTop (mkF m 191 #[.val (.int p0), .val (.int p1), .val (.int p2), .val (.int p3), .val (.int p4), .val (.int p5), .val (.int (2 : Int32)), .val (.int mm), .val (.int qq), .val (.ref a37), .val (.int (1 : Int32))] []))
        refine own_Goes.st ?_ (fun _ k => XS.iconst X64.here hx rfl (hb hby at_191) k)
        show own_Goes p.tables e below P (T64.setTop (mkF m 192 #[.val (.int p0), .val (.int p1), .val (.int p2), .val (.int p3), .val (.int p4), .val (.int p5), .val (.int (2 : Int32)), .val (.int mm), .val (.int qq), .val (.ref a37), .val (.int (1 : Int32))] [(.int (1 : Int32))]))
        refine own_Goes.st ?_ (fun _ k => XS.goto X64.here hx rfl (pc0 := 192) (pc' := 196) rfl (hb hby at_192) (by decide) (by decide) k)
        show own_Goes p.tables e below P (T64.setTop (mkF m 196 #[.val (.int p0), .val (.int p1), .val (.int p2), .val (.int p3), .val (.int p4), .val (.int p5), .val (.int (2 : Int32)), .val (.int mm), .val (.int qq), .val (.ref a37), .val (.int (1 : Int32))] [(.int (1 : Int32))]))
        obtain ⟨fs, hr, hrun, hended, hW, hsame⟩ := X64.leave (v := some (.int (1 : Int32))) (fun h => by rw [Bd.returns] at h; cases h)
        exact own_Goes.fin _ _ (retOut X64 hx (t := .boolean) Bd.returns rfl (Or.inl ⟨rfl, Or.inr (Or.inl rfl), _, rfl⟩) (hb hby at_196) hr) (hPP _ _ ⟨hrun, hended, _, _, rfl, (by show Q_law n0 _ _; exact ⟨rfl, N64⟩), ⟨_, rfl⟩, hW, hsame.mono (by decide) (by decide)⟩)
      · skip
        refine own_Goes.st ?_ (fun _ k => XS.icmpNo X57.here hx rfl (hb hby at_133) rfl (feq hx0).1 k)
        show own_Goes p.tables e below P (T57.setTop (mkF m 136 #[.val (.int p0), .val (.int p1), .val (.int p2), .val (.int p3), .val (.int p4), .val (.int p5), .val (.int (2 : Int32)), .val (.int mm), .val (.int qq), .val (.ref a37), .unset] []))
        refine own_Goes.st ?_ (fun _ k => XS.iload X57.here hx rfl (hb hby at_136) rfl k)
        show own_Goes p.tables e below P (T57.setTop (mkF m 138 #[.val (.int p0), .val (.int p1), .val (.int p2), .val (.int p3), .val (.int p4), .val (.int p5), .val (.int (2 : Int32)), .val (.int mm), .val (.int qq), .val (.ref a37), .unset] [(.int (2 : Int32))]))
        refine own_Goes.st ?_ (fun _ k => XS.iconst X57.here hx rfl (hb hby at_138) k)
        show own_Goes p.tables e below P (T57.setTop (mkF m 139 #[.val (.int p0), .val (.int p1), .val (.int p2), .val (.int p3), .val (.int p4), .val (.int p5), .val (.int (2 : Int32)), .val (.int mm), .val (.int qq), .val (.ref a37), .unset] [(.int (2 : Int32)), (.int (2 : Int32))]))
        refine own_Goes.st ?_ (fun _ k => XS.icmpNo X57.here hx rfl (hb hby at_139) rfl (flt (by decide : ¬ ((2 : Int32) < (2 : Int32)))).1 k)
        show own_Goes p.tables e below P (T57.setTop (mkF m 142 #[.val (.int p0), .val (.int p1), .val (.int p2), .val (.int p3), .val (.int p4), .val (.int p5), .val (.int (2 : Int32)), .val (.int mm), .val (.int qq), .val (.ref a37), .unset] []))
        refine own_Goes.st ?_ (fun _ k => XS.iloadN X57.here hx rfl (hb hby at_142) rfl k)
        show own_Goes p.tables e below P (T57.setTop (mkF m 143 #[.val (.int p0), .val (.int p1), .val (.int p2), .val (.int p3), .val (.int p4), .val (.int p5), .val (.int (2 : Int32)), .val (.int mm), .val (.int qq), .val (.ref a37), .unset] [(.int p1)]))
        refine own_Goes.st ?_ (fun _ k => XS.iload X57.here hx rfl (hb hby at_143) rfl k)
        show own_Goes p.tables e below P (T57.setTop (mkF m 145 #[.val (.int p0), .val (.int p1), .val (.int p2), .val (.int p3), .val (.int p4), .val (.int p5), .val (.int (2 : Int32)), .val (.int mm), .val (.int qq), .val (.ref a37), .unset] [(.int qq), (.int p1)]))
        by_cases hx1 : p1 = qq
        · skip
          refine own_Goes.st ?_ (fun _ k => XS.icmpYes X57.here hx rfl (pc0 := 145) (pc' := 172) rfl (hb hby at_145) rfl (teq hx1).1 (by decide) (by decide) k)
          show own_Goes p.tables e below P (T57.setTop (mkF m 172 #[.val (.int p0), .val (.int p1), .val (.int p2), .val (.int p3), .val (.int p4), .val (.int p5), .val (.int (2 : Int32)), .val (.int mm), .val (.int qq), .val (.ref a37), .unset] []))
          refine own_Goes.st ?_ (fun _ k => XS.iconst X57.here hx rfl (hb hby at_172) k)
          show own_Goes p.tables e below P (T57.setTop (mkF m 173 #[.val (.int p0), .val (.int p1), .val (.int p2), .val (.int p3), .val (.int p4), .val (.int p5), .val (.int (2 : Int32)), .val (.int mm), .val (.int qq), .val (.ref a37), .unset] [(.int (1 : Int32))]))
          refine own_Goes.st ?_ (fun _ k => XS.goto X57.here hx rfl (pc0 := 173) (pc' := 177) rfl (hb hby at_173) (by decide) (by decide) k)
          show own_Goes p.tables e below P (T57.setTop (mkF m 177 #[.val (.int p0), .val (.int p1), .val (.int p2), .val (.int p3), .val (.int p4), .val (.int p5), .val (.int (2 : Int32)), .val (.int mm), .val (.int qq), .val (.ref a37), .unset] [(.int (1 : Int32))]))
          refine own_Goes.st ?_ (fun _ k => XS.istore X57.here hx rfl (hb hby at_177) rfl (l' := #[.val (.int p0), .val (.int p1), .val (.int p2), .val (.int p3), .val (.int p4), .val (.int p5), .val (.int (2 : Int32)), .val (.int mm), .val (.int qq), .val (.ref a37), .val (.int (1 : Int32))]) rfl k)
          show own_Goes p.tables e below P (T57.setTop (mkF m 179 #[.val (.int p0), .val (.int p1), .val (.int p2), .val (.int p3), .val (.int p4), .val (.int p5), .val (.int (2 : Int32)), .val (.int mm), .val (.int qq), .val (.ref a37), .val (.int (1 : Int32))] []))
          refine own_Goes.st ?_ (fun _ k => XS.aload X57.here hx rfl (hb hby at_179) rfl rfl k)
          show own_Goes p.tables e below P (T57.setTop (mkF m 181 #[.val (.int p0), .val (.int p1), .val (.int p2), .val (.int p3), .val (.int p4), .val (.int p5), .val (.int (2 : Int32)), .val (.int mm), .val (.int qq), .val (.ref a37), .val (.int (1 : Int32))] [(.ref a37)]))
          refine own_Goes.st ?_ (fun _ k => XS.iload X57.here hx rfl (hb hby at_181) rfl k)
          show own_Goes p.tables e below P (T57.setTop (mkF m 183 #[.val (.int p0), .val (.int p1), .val (.int p2), .val (.int p3), .val (.int p4), .val (.int p5), .val (.int (2 : Int32)), .val (.int mm), .val (.int qq), .val (.ref a37), .val (.int (1 : Int32))] [(.int qq), (.ref a37)]))
          obtain ⟨cq65, kq65, q65a, q65b, q65c⟩ := isOf hZ rfl f58
          obtain ⟨_, _, ⟨T65, L65, k65, n65⟩, -, X65, ⟨Lc65, hQ65, l65, y65, z65⟩, st65⟩ := X57.virtualBack hx (y := (⟨"com/example/taxodelta/taxodelta/taxonomy/IntList", "contains", "(I)Z"⟩ : MethodName)) (z := (⟨"com/example/taxodelta/taxodelta/taxonomy/IntList", "contains", "(I)Z"⟩ : MethodName)) hown (mvT hZ (hw _ (List.mem_of_getElem? (i := 31) rfl))) (mvT hZ (hw _ (List.mem_of_getElem? (i := 32) rfl))) (notFace_of_selects (args := #[]) (mvT hZ (hw _ (List.mem_of_getElem? (i := 34) rfl)))) (mvT hZ (hw _ (List.mem_of_getElem? (i := 34) rfl))) (mvT hZ (hw _ (List.mem_of_getElem? (i := 33) rfl))) (by decide) (backOf (W := 0) (rm_has_2 l Z a0 hw [] a37 qq b41 k41 p0 p1 T57.heap n0 Z63 f59 f60 f61) hZ (hw _ (List.mem_of_getElem? (i := 35) rfl)) (hw _ (List.mem_of_getElem? (i := 2) rfl)) (by decide) (by decide)) q65a q65c (g := (mkF m 183 #[.val (.int p0), .val (.int p1), .val (.int p2), .val (.int p3), .val (.int p4), .val (.int p5), .val (.int (2 : Int32)), .val (.int mm), .val (.int qq), .val (.ref a37), .val (.int (1 : Int32))] [(.int qq), (.ref a37)])) rfl (by rw [hml]; rfl) (Steps.refl _) (argsL := [(.int qq)]) (rest := []) (lenOf own_pd__28_I_29_Z rfl) rfl (by show 2 * 0 + _ ≤ _; exact Nat.le_of_eq rfl) (hb hby at_183) (fun _ _ => ⟨rfl, rfl, (by decide : 2 + 0 ≤ _), (by decide : 4 + 0 ≤ _)⟩)
          dsimp only [Pt.U, Pt.locs, Pt.cells, Pt.slots] at X65 l65 y65 z65 st65 hQ65
          subst l65 y65 z65
          obtain ⟨rfl, Nq65, e65⟩ := hQ65
          have N65 := Fr.app N57 Nq65
          refine own_Goes.tr st65 ?_
          show own_Goes p.tables e below P (T65.setTop (mkF m 186 #[.val (.int p0), .val (.int p1), .val (.int p2), .val (.int p3), .val (.int p4), .val (.int p5), .val (.int (2 : Int32)), .val (.int mm), .val (.int qq), .val (.ref a37), .val (.int (1 : Int32))] [(.int (if p0 = qq then 1 else (if p1 = qq then 1 else 0)))]))
          rw [(show (if p0 = qq then 1 else (if p1 = qq then 1 else 0)) = (1 : Int32) by rw [if_neg hx0, if_pos hx1])]
          show own_Goes p.tables e below P (T65.setTop (mkF m 186 #[.val (.int p0), .val (.int p1), .val (.int p2), .val (.int p3), .val (.int p4), .val (.int p5), .val (.int (2 : Int32)), .val (.int mm), .val (.int qq), .val (.ref a37), .val (.int (1 : Int32))] [(.int (1 : Int32))]))
          refine own_Goes.st ?_ (fun _ k => XS.iload X65.here hx rfl (hb hby at_186) rfl k)
          show own_Goes p.tables e below P (T65.setTop (mkF m 188 #[.val (.int p0), .val (.int p1), .val (.int p2), .val (.int p3), .val (.int p4), .val (.int p5), .val (.int (2 : Int32)), .val (.int mm), .val (.int qq), .val (.ref a37), .val (.int (1 : Int32))] [(.int (1 : Int32)), (.int (1 : Int32))]))
          refine own_Goes.st ?_ (fun _ k => XS.icmpNo X65.here hx rfl (hb hby at_188) rfl (teq (by decide : (1 : Int32) = (1 : Int32))).2 k)
          show own_Goes p.tables e below P (T65.setTop (mkF m 191 #[.val (.int p0), .val (.int p1), .val (.int p2), .val (.int p3), .val (.int p4), .val (.int p5), .val (.int (2 : Int32)), .val (.int mm), .val (.int qq), .val (.ref a37), .val (.int (1 : Int32))] []))
          refine own_Goes.st ?_ (fun _ k => XS.iconst X65.here hx rfl (hb hby at_191) k)
          show own_Goes p.tables e below P (T65.setTop (mkF m 192 #[.val (.int p0), .val (.int p1), .val (.int p2), .val (.int p3), .val (.int p4), .val (.int p5), .val (.int (2 : Int32)), .val (.int mm), .val (.int qq), .val (.ref a37), .val (.int (1 : Int32))] [(.int (1 : Int32))]))
          refine own_Goes.st ?_ (fun _ k => XS.goto X65.here hx rfl (pc0 := 192) (pc' := 196) rfl (hb hby at_192) (by decide) (by decide) k)
          show own_Goes p.tables e below P (T65.setTop (mkF m 196 #[.val (.int p0), .val (.int p1), .val (.int p2), .val (.int p3), .val (.int p4), .val (.int p5), .val (.int (2 : Int32)), .val (.int mm), .val (.int qq), .val (.ref a37), .val (.int (1 : Int32))] [(.int (1 : Int32))]))
          obtain ⟨fs, hr, hrun, hended, hW, hsame⟩ := X65.leave (v := some (.int (1 : Int32))) (fun h => by rw [Bd.returns] at h; cases h)
          exact own_Goes.fin _ _ (retOut X65 hx (t := .boolean) Bd.returns rfl (Or.inl ⟨rfl, Or.inr (Or.inl rfl), _, rfl⟩) (hb hby at_196) hr) (hPP _ _ ⟨hrun, hended, _, _, rfl, (by show Q_law n0 _ _; exact ⟨rfl, N65⟩), ⟨_, rfl⟩, hW, hsame.mono (by decide) (by decide)⟩)
        · skip
          refine own_Goes.st ?_ (fun _ k => XS.icmpNo X57.here hx rfl (hb hby at_145) rfl (feq hx1).1 k)
          show own_Goes p.tables e below P (T57.setTop (mkF m 148 #[.val (.int p0), .val (.int p1), .val (.int p2), .val (.int p3), .val (.int p4), .val (.int p5), .val (.int (2 : Int32)), .val (.int mm), .val (.int qq), .val (.ref a37), .unset] []))
          refine own_Goes.st ?_ (fun _ k => XS.iload X57.here hx rfl (hb hby at_148) rfl k)
          show own_Goes p.tables e below P (T57.setTop (mkF m 150 #[.val (.int p0), .val (.int p1), .val (.int p2), .val (.int p3), .val (.int p4), .val (.int p5), .val (.int (2 : Int32)), .val (.int mm), .val (.int qq), .val (.ref a37), .unset] [(.int (2 : Int32))]))
          refine own_Goes.st ?_ (fun _ k => XS.iconst X57.here hx rfl (hb hby at_150) k)
          show own_Goes p.tables e below P (T57.setTop (mkF m 151 #[.val (.int p0), .val (.int p1), .val (.int p2), .val (.int p3), .val (.int p4), .val (.int p5), .val (.int (2 : Int32)), .val (.int mm), .val (.int qq), .val (.ref a37), .unset] [(.int (3 : Int32)), (.int (2 : Int32))]))
          refine own_Goes.st ?_ (fun _ k => XS.icmpYes X57.here hx rfl (pc0 := 151) (pc' := 160) rfl (hb hby at_151) rfl (tlt (by decide : (2 : Int32) < (3 : Int32))).1 (by decide) (by decide) k)
          show own_Goes p.tables e below P (T57.setTop (mkF m 160 #[.val (.int p0), .val (.int p1), .val (.int p2), .val (.int p3), .val (.int p4), .val (.int p5), .val (.int (2 : Int32)), .val (.int mm), .val (.int qq), .val (.ref a37), .unset] []))
          refine own_Goes.st ?_ (fun _ k => XS.iload X57.here hx rfl (hb hby at_160) rfl k)
          show own_Goes p.tables e below P (T57.setTop (mkF m 162 #[.val (.int p0), .val (.int p1), .val (.int p2), .val (.int p3), .val (.int p4), .val (.int p5), .val (.int (2 : Int32)), .val (.int mm), .val (.int qq), .val (.ref a37), .unset] [(.int (2 : Int32))]))
          refine own_Goes.st ?_ (fun _ k => XS.iconst X57.here hx rfl (hb hby at_162) k)
          show own_Goes p.tables e below P (T57.setTop (mkF m 163 #[.val (.int p0), .val (.int p1), .val (.int p2), .val (.int p3), .val (.int p4), .val (.int p5), .val (.int (2 : Int32)), .val (.int mm), .val (.int qq), .val (.ref a37), .unset] [(.int (4 : Int32)), (.int (2 : Int32))]))
          refine own_Goes.st ?_ (fun _ k => XS.icmpYes X57.here hx rfl (pc0 := 163) (pc' := 176) rfl (hb hby at_163) rfl (tlt (by decide : (2 : Int32) < (4 : Int32))).1 (by decide) (by decide) k)
          show own_Goes p.tables e below P (T57.setTop (mkF m 176 #[.val (.int p0), .val (.int p1), .val (.int p2), .val (.int p3), .val (.int p4), .val (.int p5), .val (.int (2 : Int32)), .val (.int mm), .val (.int qq), .val (.ref a37), .unset] []))
          refine own_Goes.st ?_ (fun _ k => XS.iconst X57.here hx rfl (hb hby at_176) k)
          show own_Goes p.tables e below P (T57.setTop (mkF m 177 #[.val (.int p0), .val (.int p1), .val (.int p2), .val (.int p3), .val (.int p4), .val (.int p5), .val (.int (2 : Int32)), .val (.int mm), .val (.int qq), .val (.ref a37), .unset] [(.int (0 : Int32))]))
          refine own_Goes.st ?_ (fun _ k => XS.istore X57.here hx rfl (hb hby at_177) rfl (l' := #[.val (.int p0), .val (.int p1), .val (.int p2), .val (.int p3), .val (.int p4), .val (.int p5), .val (.int (2 : Int32)), .val (.int mm), .val (.int qq), .val (.ref a37), .val (.int (0 : Int32))]) rfl k)
          show own_Goes p.tables e below P (T57.setTop (mkF m 179 #[.val (.int p0), .val (.int p1), .val (.int p2), .val (.int p3), .val (.int p4), .val (.int p5), .val (.int (2 : Int32)), .val (.int mm), .val (.int qq), .val (.ref a37), .val (.int (0 : Int32))] []))
          refine own_Goes.st ?_ (fun _ k => XS.aload X57.here hx rfl (hb hby at_179) rfl rfl k)
          show own_Goes p.tables e below P (T57.setTop (mkF m 181 #[.val (.int p0), .val (.int p1), .val (.int p2), .val (.int p3), .val (.int p4), .val (.int p5), .val (.int (2 : Int32)), .val (.int mm), .val (.int qq), .val (.ref a37), .val (.int (0 : Int32))] [(.ref a37)]))
          refine own_Goes.st ?_ (fun _ k => XS.iload X57.here hx rfl (hb hby at_181) rfl k)
          show own_Goes p.tables e below P (T57.setTop (mkF m 183 #[.val (.int p0), .val (.int p1), .val (.int p2), .val (.int p3), .val (.int p4), .val (.int p5), .val (.int (2 : Int32)), .val (.int mm), .val (.int qq), .val (.ref a37), .val (.int (0 : Int32))] [(.int qq), (.ref a37)]))
          obtain ⟨cq66, kq66, q66a, q66b, q66c⟩ := isOf hZ rfl f58
          obtain ⟨_, _, ⟨T66, L66, k66, n66⟩, -, X66, ⟨Lc66, hQ66, l66, y66, z66⟩, st66⟩ := X57.virtualBack hx (y := (⟨"com/example/taxodelta/taxodelta/taxonomy/IntList", "contains", "(I)Z"⟩ : MethodName)) (z := (⟨"com/example/taxodelta/taxodelta/taxonomy/IntList", "contains", "(I)Z"⟩ : MethodName)) hown (mvT hZ (hw _ (List.mem_of_getElem? (i := 31) rfl))) (mvT hZ (hw _ (List.mem_of_getElem? (i := 32) rfl))) (notFace_of_selects (args := #[]) (mvT hZ (hw _ (List.mem_of_getElem? (i := 34) rfl)))) (mvT hZ (hw _ (List.mem_of_getElem? (i := 34) rfl))) (mvT hZ (hw _ (List.mem_of_getElem? (i := 33) rfl))) (by decide) (backOf (W := 0) (rm_has_2 l Z a0 hw [] a37 qq b41 k41 p0 p1 T57.heap n0 Z63 f59 f60 f61) hZ (hw _ (List.mem_of_getElem? (i := 35) rfl)) (hw _ (List.mem_of_getElem? (i := 2) rfl)) (by decide) (by decide)) q66a q66c (g := (mkF m 183 #[.val (.int p0), .val (.int p1), .val (.int p2), .val (.int p3), .val (.int p4), .val (.int p5), .val (.int (2 : Int32)), .val (.int mm), .val (.int qq), .val (.ref a37), .val (.int (0 : Int32))] [(.int qq), (.ref a37)])) rfl (by rw [hml]; rfl) (Steps.refl _) (argsL := [(.int qq)]) (rest := []) (lenOf own_pd__28_I_29_Z rfl) rfl (by show 2 * 0 + _ ≤ _; exact Nat.le_of_eq rfl) (hb hby at_183) (fun _ _ => ⟨rfl, rfl, (by decide : 2 + 0 ≤ _), (by decide : 4 + 0 ≤ _)⟩)
          dsimp only [Pt.U, Pt.locs, Pt.cells, Pt.slots] at X66 l66 y66 z66 st66 hQ66
          subst l66 y66 z66
          obtain ⟨rfl, Nq66, e66⟩ := hQ66
          have N66 := Fr.app N57 Nq66
          refine own_Goes.tr st66 ?_
          show own_Goes p.tables e below P (T66.setTop (mkF m 186 #[.val (.int p0), .val (.int p1), .val (.int p2), .val (.int p3), .val (.int p4), .val (.int p5), .val (.int (2 : Int32)), .val (.int mm), .val (.int qq), .val (.ref a37), .val (.int (0 : Int32))] [(.int (if p0 = qq then 1 else (if p1 = qq then 1 else 0)))]))
          rw [(show (if p0 = qq then 1 else (if p1 = qq then 1 else 0)) = (0 : Int32) by rw [if_neg hx0, if_neg hx1])]
          show own_Goes p.tables e below P (T66.setTop (mkF m 186 #[.val (.int p0), .val (.int p1), .val (.int p2), .val (.int p3), .val (.int p4), .val (.int p5), .val (.int (2 : Int32)), .val (.int mm), .val (.int qq), .val (.ref a37), .val (.int (0 : Int32))] [(.int (0 : Int32))]))
          refine own_Goes.st ?_ (fun _ k => XS.iload X66.here hx rfl (hb hby at_186) rfl k)
          show own_Goes p.tables e below P (T66.setTop (mkF m 188 #[.val (.int p0), .val (.int p1), .val (.int p2), .val (.int p3), .val (.int p4), .val (.int p5), .val (.int (2 : Int32)), .val (.int mm), .val (.int qq), .val (.ref a37), .val (.int (0 : Int32))] [(.int (0 : Int32)), (.int (0 : Int32))]))
          refine own_Goes.st ?_ (fun _ k => XS.icmpNo X66.here hx rfl (hb hby at_188) rfl (teq (by decide : (0 : Int32) = (0 : Int32))).2 k)
          show own_Goes p.tables e below P (T66.setTop (mkF m 191 #[.val (.int p0), .val (.int p1), .val (.int p2), .val (.int p3), .val (.int p4), .val (.int p5), .val (.int (2 : Int32)), .val (.int mm), .val (.int qq), .val (.ref a37), .val (.int (0 : Int32))] []))
          refine own_Goes.st ?_ (fun _ k => XS.iconst X66.here hx rfl (hb hby at_191) k)
          show own_Goes p.tables e below P (T66.setTop (mkF m 192 #[.val (.int p0), .val (.int p1), .val (.int p2), .val (.int p3), .val (.int p4), .val (.int p5), .val (.int (2 : Int32)), .val (.int mm), .val (.int qq), .val (.ref a37), .val (.int (0 : Int32))] [(.int (1 : Int32))]))
          refine own_Goes.st ?_ (fun _ k => XS.goto X66.here hx rfl (pc0 := 192) (pc' := 196) rfl (hb hby at_192) (by decide) (by decide) k)
          show own_Goes p.tables e below P (T66.setTop (mkF m 196 #[.val (.int p0), .val (.int p1), .val (.int p2), .val (.int p3), .val (.int p4), .val (.int p5), .val (.int (2 : Int32)), .val (.int mm), .val (.int qq), .val (.ref a37), .val (.int (0 : Int32))] [(.int (1 : Int32))]))
          obtain ⟨fs, hr, hrun, hended, hW, hsame⟩ := X66.leave (v := some (.int (1 : Int32))) (fun h => by rw [Bd.returns] at h; cases h)
          exact own_Goes.fin _ _ (retOut X66 hx (t := .boolean) Bd.returns rfl (Or.inl ⟨rfl, Or.inr (Or.inl rfl), _, rfl⟩) (hb hby at_196) hr) (hPP _ _ ⟨hrun, hended, _, _, rfl, (by show Q_law n0 _ _; exact ⟨rfl, N66⟩), ⟨_, rfl⟩, hW, hsame.mono (by decide) (by decide)⟩)
    · skip
      show own_Goes p.tables e below P (s₁.setTop (mkF m 67 #[.val (.int p0), .val (.int p1), .val (.int p2), .val (.int p3), .val (.int p4), .val (.int p5), .val (.int (3 : Int32)), .val (.int mm), .val (.int qq), .unset, .unset] []))
      obtain ⟨T67, h67, X67, e67, E67, A67, D67, -, st67⟩ := newO X0 hx hZ hown (hw _ (List.mem_of_getElem? (i := 0) rfl)) (hw _ (List.mem_of_getElem? (i := 1) rfl)) (hw _ (List.mem_of_getElem? (i := 2) rfl)) e0 (g := (mkF m 67 #[.val (.int p0), .val (.int p1), .val (.int p2), .val (.int p3), .val (.int p4), .val (.int p5), .val (.int (3 : Int32)), .val (.int mm), .val (.int qq), .unset, .unset] [])) rfl (hb hby at_67) (by decide) (by decide)
      obtain ⟨a67, g67⟩ : ∃ z, z = h0.size := ⟨_, rfl⟩
      rw [← g67] at A67 D67 st67
      have ge_a67 : n0 ≤ a67 := Nat.le_trans Z0 (Nat.le_of_eq g67.symm)
      refine own_Goes.st ?_ st67
      have Z68 : n0 ≤ h67.size := Nat.le_trans Z0 E67.1
      have F69 : Fld Z h67 a67 "com/example/taxodelta/taxodelta/taxonomy/IntList" "values" "[I" .null := D67 (Or.inl (hw _ (List.mem_of_getElem? (i := 11) rfl))) (ty := (.array .int)) (by decide)
      have F70 : Fld Z h67 a67 "com/example/taxodelta/taxodelta/taxonomy/IntList" "size" "I" (.int (0 : Int32)) := D67 (Or.inl (hw _ (List.mem_of_getElem? (i := 18) rfl))) (ty := .int) (by decide)
      show own_Goes p.tables e below P (T67.setTop (mkF m 70 #[.val (.int p0), .val (.int p1), .val (.int p2), .val (.int p3), .val (.int p4), .val (.int p5), .val (.int (3 : Int32)), .val (.int mm), .val (.int qq), .unset, .unset] [(.ref a67)]))
      refine own_Goes.st ?_ (fun _ k => XS.dup X67.here hx rfl (hb hby at_70) rfl rfl k)
      show own_Goes p.tables e below P (T67.setTop (mkF m 71 #[.val (.int p0), .val (.int p1), .val (.int p2), .val (.int p3), .val (.int p4), .val (.int p5), .val (.int (3 : Int32)), .val (.int mm), .val (.int qq), .unset, .unset] [(.ref a67), (.ref a67)]))
      obtain ⟨_, _, ⟨T71, L71, k71, n71⟩, -, X71, ⟨Lc71, hQ71, l71, y71, z71⟩, st71⟩ := X67.specialBack hx (y := (⟨"com/example/taxodelta/taxodelta/taxonomy/IntList", "<init>", "()V"⟩ : MethodName)) rfl hown (mvT hZ (hw _ (List.mem_of_getElem? (i := 3) rfl))) (mvT hZ (hw _ (List.mem_of_getElem? (i := 4) rfl))) (mvT hZ (hw _ (List.mem_of_getElem? (i := 5) rfl))) (by decide) (backOf (W := 1) (rm_ctor l Z a0 hw [] a67 .null h67 n0 Z68 A67 F69 F70 ge_a67) hZ (hw _ (List.mem_of_getElem? (i := 5) rfl)) (hw _ (List.mem_of_getElem? (i := 2) rfl)) (by decide) (by decide)) (g := (mkF m 71 #[.val (.int p0), .val (.int p1), .val (.int p2), .val (.int p3), .val (.int p4), .val (.int p5), .val (.int (3 : Int32)), .val (.int mm), .val (.int qq), .unset, .unset] [(.ref a67), (.ref a67)])) rfl (by rw [hml]; rfl) (Steps.refl _) (a := a67) (argsL := []) (rest := [(.ref a67)]) (lenOf own_pd__28__29_V rfl) rfl (by show 2 * 0 + _ ≤ _; exact Nat.le_of_eq rfl) (hb hby at_71) (fun _ _ => ⟨rfl, e67, (by decide : 1 + 1 ≤ _), (by decide : 2 + 2 ≤ _)⟩)
      dsimp only [Pt.U, Pt.locs, Pt.cells, Pt.slots] at X71 l71 y71 z71 st71 hQ71
      subst l71 y71 z71
      obtain ⟨b71, k71, rfl, Nq71, K71, f72, f73, f74, f75, f76, f77⟩ := hQ71
      have N71 := Fr.app N0 Nq71
      refine own_Goes.tr st71 ?_
      have ne78 : a67 ≠ b71 := Nat.ne_of_lt (Nat.lt_of_lt_of_le A67.lt f75)
      have ge_b71 : n0 ≤ b71 := Nat.le_trans Z68 f75
      have Z79 : n0 ≤ T71.heap.size := Nat.le_trans Z68 K71.1
      show own_Goes p.tables e below P (T71.setTop (mkF m 74 #[.val (.int p0), .val (.int p1), .val (.int p2), .val (.int p3), .val (.int p4), .val (.int p5), .val (.int (3 : Int32)), .val (.int mm), .val (.int qq), .unset, .unset] [(.ref a67)]))
      refine own_Goes.st ?_ (fun _ k => XS.astore X71.here hx rfl (hb hby at_74) rfl rfl (l' := #[.val (.int p0), .val (.int p1), .val (.int p2), .val (.int p3), .val (.int p4), .val (.int p5), .val (.int (3 : Int32)), .val (.int mm), .val (.int qq), .val (.ref a67), .unset]) rfl k)
      show own_Goes p.tables e below P (T71.setTop (mkF m 76 #[.val (.int p0), .val (.int p1), .val (.int p2), .val (.int p3), .val (.int p4), .val (.int p5), .val (.int (3 : Int32)), .val (.int mm), .val (.int qq), .val (.ref a67), .unset] []))
      refine own_Goes.st ?_ (fun _ k => XS.iload X71.here hx rfl (hb hby at_76) rfl k)
      show own_Goes p.tables e below P (T71.setTop (mkF m 78 #[.val (.int p0), .val (.int p1), .val (.int p2), .val (.int p3), .val (.int p4), .val (.int p5), .val (.int (3 : Int32)), .val (.int mm), .val (.int qq), .val (.ref a67), .unset] [(.int (3 : Int32))]))
      refine own_Goes.st ?_ (fun _ k => XS.iconst X71.here hx rfl (hb hby at_78) k)
      show own_Goes p.tables e below P (T71.setTop (mkF m 79 #[.val (.int p0), .val (.int p1), .val (.int p2), .val (.int p3), .val (.int p4), .val (.int p5), .val (.int (3 : Int32)), .val (.int mm), .val (.int qq), .val (.ref a67), .unset] [(.int (1 : Int32)), (.int (3 : Int32))]))
      refine own_Goes.st ?_ (fun _ k => XS.icmpNo X71.here hx rfl (hb hby at_79) rfl (flt (by decide : ¬ ((3 : Int32) < (1 : Int32)))).1 k)
      show own_Goes p.tables e below P (T71.setTop (mkF m 82 #[.val (.int p0), .val (.int p1), .val (.int p2), .val (.int p3), .val (.int p4), .val (.int p5), .val (.int (3 : Int32)), .val (.int mm), .val (.int qq), .val (.ref a67), .unset] []))
      refine own_Goes.st ?_ (fun _ k => XS.aload X71.here hx rfl (hb hby at_82) rfl rfl k)
      show own_Goes p.tables e below P (T71.setTop (mkF m 84 #[.val (.int p0), .val (.int p1), .val (.int p2), .val (.int p3), .val (.int p4), .val (.int p5), .val (.int (3 : Int32)), .val (.int mm), .val (.int qq), .val (.ref a67), .unset] [(.ref a67)]))
      refine own_Goes.st ?_ (fun _ k => XS.iloadN X71.here hx rfl (hb hby at_84) rfl k)
      show own_Goes p.tables e below P (T71.setTop (mkF m 85 #[.val (.int p0), .val (.int p1), .val (.int p2), .val (.int p3), .val (.int p4), .val (.int p5), .val (.int (3 : Int32)), .val (.int mm), .val (.int qq), .val (.ref a67), .unset] [(.int p0), (.ref a67)]))
      obtain ⟨cq80, kq80, q80a, q80b, q80c⟩ := isOf hZ rfl f72
      obtain ⟨_, _, ⟨T80, L80, k80, n80⟩, -, X80, ⟨Lc80, hQ80, l80, y80, z80⟩, st80⟩ := X71.virtualBack hx (y := (⟨"com/example/taxodelta/taxodelta/taxonomy/IntList", "add", "(I)V"⟩ : MethodName)) (z := (⟨"com/example/taxodelta/taxodelta/taxonomy/IntList", "add", "(I)V"⟩ : MethodName)) hown (mvT hZ (hw _ (List.mem_of_getElem? (i := 12) rfl))) (mvT hZ (hw _ (List.mem_of_getElem? (i := 13) rfl))) (notFace_of_selects (args := #[]) (mvT hZ (hw _ (List.mem_of_getElem? (i := 15) rfl)))) (mvT hZ (hw _ (List.mem_of_getElem? (i := 15) rfl))) (mvT hZ (hw _ (List.mem_of_getElem? (i := 14) rfl))) (by decide) (backOf (W := 0) (rm_add_0 l Z a0 hw [] a67 p0 b71 k71 T71.heap n0 Z79 f72 f73 f74 f76 f77 ge_a67 ge_b71 ne78) hZ (hw _ (List.mem_of_getElem? (i := 16) rfl)) (hw _ (List.mem_of_getElem? (i := 2) rfl)) (by decide) (by decide)) q80a q80c (g := (mkF m 85 #[.val (.int p0), .val (.int p1), .val (.int p2), .val (.int p3), .val (.int p4), .val (.int p5), .val (.int (3 : Int32)), .val (.int mm), .val (.int qq), .val (.ref a67), .unset] [(.int p0), (.ref a67)])) rfl (by rw [hml]; rfl) (Steps.refl _) (argsL := [(.int p0)]) (rest := []) (lenOf own_pd__28_I_29_V rfl) rfl (by show 2 * 0 + _ ≤ _; exact Nat.le_of_eq rfl) (hb hby at_85) (fun _ _ => ⟨rfl, rfl, (by decide : 2 + 0 ≤ _), (by decide : 4 + 0 ≤ _)⟩)
      dsimp only [Pt.U, Pt.locs, Pt.cells, Pt.slots] at X80 l80 y80 z80 st80 hQ80
      subst l80 y80 z80
      obtain ⟨rfl, Nq80, K80, f81, f82, f83, f84, f85⟩ := hQ80
      have N80 := Fr.app N71 Nq80
      refine own_Goes.tr st80 ?_
      have Z86 : n0 ≤ T80.heap.size := Nat.le_trans Z79 K80.1
      show own_Goes p.tables e below P (T80.setTop (mkF m 88 #[.val (.int p0), .val (.int p1), .val (.int p2), .val (.int p3), .val (.int p4), .val (.int p5), .val (.int (3 : Int32)), .val (.int mm), .val (.int qq), .val (.ref a67), .unset] []))
      refine own_Goes.st ?_ (fun _ k => XS.iload X80.here hx rfl (hb hby at_88) rfl k)
      show own_Goes p.tables e below P (T80.setTop (mkF m 90 #[.val (.int p0), .val (.int p1), .val (.int p2), .val (.int p3), .val (.int p4), .val (.int p5), .val (.int (3 : Int32)), .val (.int mm), .val (.int qq), .val (.ref a67), .unset] [(.int (3 : Int32))]))
      refine own_Goes.st ?_ (fun _ k => XS.iconst X80.here hx rfl (hb hby at_90) k)
      show own_Goes p.tables e below P (T80.setTop (mkF m 91 #[.val (.int p0), .val (.int p1), .val (.int p2), .val (.int p3), .val (.int p4), .val (.int p5), .val (.int (3 : Int32)), .val (.int mm), .val (.int qq), .val (.ref a67), .unset] [(.int (2 : Int32)), (.int (3 : Int32))]))
      refine own_Goes.st ?_ (fun _ k => XS.icmpNo X80.here hx rfl (hb hby at_91) rfl (flt (by decide : ¬ ((3 : Int32) < (2 : Int32)))).1 k)
      show own_Goes p.tables e below P (T80.setTop (mkF m 94 #[.val (.int p0), .val (.int p1), .val (.int p2), .val (.int p3), .val (.int p4), .val (.int p5), .val (.int (3 : Int32)), .val (.int mm), .val (.int qq), .val (.ref a67), .unset] []))
      refine own_Goes.st ?_ (fun _ k => XS.aload X80.here hx rfl (hb hby at_94) rfl rfl k)
      show own_Goes p.tables e below P (T80.setTop (mkF m 96 #[.val (.int p0), .val (.int p1), .val (.int p2), .val (.int p3), .val (.int p4), .val (.int p5), .val (.int (3 : Int32)), .val (.int mm), .val (.int qq), .val (.ref a67), .unset] [(.ref a67)]))
      refine own_Goes.st ?_ (fun _ k => XS.iloadN X80.here hx rfl (hb hby at_96) rfl k)
      show own_Goes p.tables e below P (T80.setTop (mkF m 97 #[.val (.int p0), .val (.int p1), .val (.int p2), .val (.int p3), .val (.int p4), .val (.int p5), .val (.int (3 : Int32)), .val (.int mm), .val (.int qq), .val (.ref a67), .unset] [(.int p1), (.ref a67)]))
      obtain ⟨cq87, kq87, q87a, q87b, q87c⟩ := isOf hZ rfl f81
      obtain ⟨_, _, ⟨T87, L87, k87, n87⟩, -, X87, ⟨Lc87, hQ87, l87, y87, z87⟩, st87⟩ := X80.virtualBack hx (y := (⟨"com/example/taxodelta/taxodelta/taxonomy/IntList", "add", "(I)V"⟩ : MethodName)) (z := (⟨"com/example/taxodelta/taxodelta/taxonomy/IntList", "add", "(I)V"⟩ : MethodName)) hown (mvT hZ (hw _ (List.mem_of_getElem? (i := 12) rfl))) (mvT hZ (hw _ (List.mem_of_getElem? (i := 13) rfl))) (notFace_of_selects (args := #[]) (mvT hZ (hw _ (List.mem_of_getElem? (i := 15) rfl)))) (mvT hZ (hw _ (List.mem_of_getElem? (i := 15) rfl))) (mvT hZ (hw _ (List.mem_of_getElem? (i := 14) rfl))) (by decide) (backOf (W := 0) (rm_add_1 l Z a0 hw [] a67 p1 b71 k71 p0 T80.heap n0 Z86 f81 f82 f83 f84 f85 ge_a67 ge_b71 ne78) hZ (hw _ (List.mem_of_getElem? (i := 16) rfl)) (hw _ (List.mem_of_getElem? (i := 2) rfl)) (by decide) (by decide)) q87a q87c (g := (mkF m 97 #[.val (.int p0), .val (.int p1), .val (.int p2), .val (.int p3), .val (.int p4), .val (.int p5), .val (.int (3 : Int32)), .val (.int mm), .val (.int qq), .val (.ref a67), .unset] [(.int p1), (.ref a67)])) rfl (by rw [hml]; rfl) (Steps.refl _) (argsL := [(.int p1)]) (rest := []) (lenOf own_pd__28_I_29_V rfl) rfl (by show 2 * 0 + _ ≤ _; exact Nat.le_of_eq rfl) (hb hby at_97) (fun _ _ => ⟨rfl, rfl, (by decide : 2 + 0 ≤ _), (by decide : 4 + 0 ≤ _)⟩)
      dsimp only [Pt.U, Pt.locs, Pt.cells, Pt.slots] at X87 l87 y87 z87 st87 hQ87
      subst l87 y87 z87
      obtain ⟨rfl, Nq87, K87, f88, f89, f90, f91, f92⟩ := hQ87
      have N87 := Fr.app N80 Nq87
      refine own_Goes.tr st87 ?_
      have Z93 : n0 ≤ T87.heap.size := Nat.le_trans Z86 K87.1
      show own_Goes p.tables e below P (T87.setTop (mkF m 100 #[.val (.int p0), .val (.int p1), .val (.int p2), .val (.int p3), .val (.int p4), .val (.int p5), .val (.int (3 : Int32)), .val (.int mm), .val (.int qq), .val (.ref a67), .unset] []))
      refine own_Goes.st ?_ (fun _ k => XS.iload X87.here hx rfl (hb hby at_100) rfl k)
      show own_Goes p.tables e below P (T87.setTop (mkF m 102 #[.val (.int p0), .val (.int p1), .val (.int p2), .val (.int p3), .val (.int p4), .val (.int p5), .val (.int (3 : Int32)), .val (.int mm), .val (.int qq), .val (.ref a67), .unset] [(.int (3 : Int32))]))
      refine own_Goes.st ?_ (fun _ k => XS.iconst X87.here hx rfl (hb hby at_102) k)
      show own_Goes p.tables e below P (T87.setTop (mkF m 103 #[.val (.int p0), .val (.int p1), .val (.int p2), .val (.int p3), .val (.int p4), .val (.int p5), .val (.int (3 : Int32)), .val (.int mm), .val (.int qq), .val (.ref a67), .unset] [(.int (3 : Int32)), (.int (3 : Int32))]))
      refine own_Goes.st ?_ (fun _ k => XS.icmpNo X87.here hx rfl (hb hby at_103) rfl (flt (by decide : ¬ ((3 : Int32) < (3 : Int32)))).1 k)
      show own_Goes p.tables e below P (T87.setTop (mkF m 106 #[.val (.int p0), .val (.int p1), .val (.int p2), .val (.int p3), .val (.int p4), .val (.int p5), .val (.int (3 : Int32)), .val (.int mm), .val (.int qq), .val (.ref a67), .unset] []))
      refine own_Goes.st ?_ (fun _ k => XS.aload X87.here hx rfl (hb hby at_106) rfl rfl k)
      show own_Goes p.tables e below P (T87.setTop (mkF m 108 #[.val (.int p0), .val (.int p1), .val (.int p2), .val (.int p3), .val (.int p4), .val (.int p5), .val (.int (3 : Int32)), .val (.int mm), .val (.int qq), .val (.ref a67), .unset] [(.ref a67)]))
      refine own_Goes.st ?_ (fun _ k => XS.iloadN X87.here hx rfl (hb hby at_108) rfl k)
      show own_Goes p.tables e below P (T87.setTop (mkF m 109 #[.val (.int p0), .val (.int p1), .val (.int p2), .val (.int p3), .val (.int p4), .val (.int p5), .val (.int (3 : Int32)), .val (.int mm), .val (.int qq), .val (.ref a67), .unset] [(.int p2), (.ref a67)]))
      obtain ⟨cq94, kq94, q94a, q94b, q94c⟩ := isOf hZ rfl f88
      obtain ⟨_, _, ⟨T94, L94, k94, n94⟩, -, X94, ⟨Lc94, hQ94, l94, y94, z94⟩, st94⟩ := X87.virtualBack hx (y := (⟨"com/example/taxodelta/taxodelta/taxonomy/IntList", "add", "(I)V"⟩ : MethodName)) (z := (⟨"com/example/taxodelta/taxodelta/taxonomy/IntList", "add", "(I)V"⟩ : MethodName)) hown (mvT hZ (hw _ (List.mem_of_getElem? (i := 12) rfl))) (mvT hZ (hw _ (List.mem_of_getElem? (i := 13) rfl))) (notFace_of_selects (args := #[]) (mvT hZ (hw _ (List.mem_of_getElem? (i := 15) rfl)))) (mvT hZ (hw _ (List.mem_of_getElem? (i := 15) rfl))) (mvT hZ (hw _ (List.mem_of_getElem? (i := 14) rfl))) (by decide) (backOf (W := 0) (rm_add_2 l Z a0 hw [] a67 p2 b71 k71 p0 p1 T87.heap n0 Z93 f88 f89 f90 f91 f92 ge_a67 ge_b71 ne78) hZ (hw _ (List.mem_of_getElem? (i := 16) rfl)) (hw _ (List.mem_of_getElem? (i := 2) rfl)) (by decide) (by decide)) q94a q94c (g := (mkF m 109 #[.val (.int p0), .val (.int p1), .val (.int p2), .val (.int p3), .val (.int p4), .val (.int p5), .val (.int (3 : Int32)), .val (.int mm), .val (.int qq), .val (.ref a67), .unset] [(.int p2), (.ref a67)])) rfl (by rw [hml]; rfl) (Steps.refl _) (argsL := [(.int p2)]) (rest := []) (lenOf own_pd__28_I_29_V rfl) rfl (by show 2 * 0 + _ ≤ _; exact Nat.le_of_eq rfl) (hb hby at_109) (fun _ _ => ⟨rfl, rfl, (by decide : 2 + 1 ≤ _), (by decide : 4 + 4 ≤ _)⟩)
      dsimp only [Pt.U, Pt.locs, Pt.cells, Pt.slots] at X94 l94 y94 z94 st94 hQ94
      subst l94 y94 z94
      obtain ⟨b294, k294, rfl, Nq94, K94, f95, f96, f97, f98, f99, f100⟩ := hQ94
      have N94 := Fr.app N87 Nq94
      refine own_Goes.tr st94 ?_
      have ne101 : a67 ≠ b294 := Nat.ne_of_lt (Nat.lt_of_lt_of_le f88.lt f98)
      have ne102 : b71 ≠ b294 := Nat.ne_of_lt (Nat.lt_of_lt_of_le f92.lt f98)
      have ge_b294 : n0 ≤ b294 := Nat.le_trans Z93 f98
      have Z103 : n0 ≤ T94.heap.size := Nat.le_trans Z93 K94.1
      show own_Goes p.tables e below P (T94.setTop (mkF m 112 #[.val (.int p0), .val (.int p1), .val (.int p2), .val (.int p3), .val (.int p4), .val (.int p5), .val (.int (3 : Int32)), .val (.int mm), .val (.int qq), .val (.ref a67), .unset] []))
      refine own_Goes.st ?_ (fun _ k => XS.iload X94.here hx rfl (hb hby at_112) rfl k)
      show own_Goes p.tables e below P (T94.setTop (mkF m 114 #[.val (.int p0), .val (.int p1), .val (.int p2), .val (.int p3), .val (.int p4), .val (.int p5), .val (.int (3 : Int32)), .val (.int mm), .val (.int qq), .val (.ref a67), .unset] [(.int (3 : Int32))]))
      refine own_Goes.st ?_ (fun _ k => XS.iconst X94.here hx rfl (hb hby at_114) k)
      show own_Goes p.tables e below P (T94.setTop (mkF m 115 #[.val (.int p0), .val (.int p1), .val (.int p2), .val (.int p3), .val (.int p4), .val (.int p5), .val (.int (3 : Int32)), .val (.int mm), .val (.int qq), .val (.ref a67), .unset] [(.int (4 : Int32)), (.int (3 : Int32))]))
      refine own_Goes.st ?_ (fun _ k => XS.icmpYes X94.here hx rfl (pc0 := 115) (pc' := 124) rfl (hb hby at_115) rfl (tlt (by decide : (3 : Int32) < (4 : Int32))).1 (by decide) (by decide) k)
      show own_Goes p.tables e below P (T94.setTop (mkF m 124 #[.val (.int p0), .val (.int p1), .val (.int p2), .val (.int p3), .val (.int p4), .val (.int p5), .val (.int (3 : Int32)), .val (.int mm), .val (.int qq), .val (.ref a67), .unset] []))
      refine own_Goes.st ?_ (fun _ k => XS.iload X94.here hx rfl (hb hby at_124) rfl k)
      show own_Goes p.tables e below P (T94.setTop (mkF m 126 #[.val (.int p0), .val (.int p1), .val (.int p2), .val (.int p3), .val (.int p4), .val (.int p5), .val (.int (3 : Int32)), .val (.int mm), .val (.int qq), .val (.ref a67), .unset] [(.int (3 : Int32))]))
      refine own_Goes.st ?_ (fun _ k => XS.iconst X94.here hx rfl (hb hby at_126) k)
      show own_Goes p.tables e below P (T94.setTop (mkF m 127 #[.val (.int p0), .val (.int p1), .val (.int p2), .val (.int p3), .val (.int p4), .val (.int p5), .val (.int (3 : Int32)), .val (.int mm), .val (.int qq), .val (.ref a67), .unset] [(.int (1 : Int32)), (.int (3 : Int32))]))
      refine own_Goes.st ?_ (fun _ k => XS.icmpNo X94.here hx rfl (hb hby at_127) rfl (flt (by decide : ¬ ((3 : Int32) < (1 : Int32)))).1 k)
      show own_Goes p.tables e below P (T94.setTop (mkF m 130 #[.val (.int p0), .val (.int p1), .val (.int p2), .val (.int p3), .val (.int p4), .val (.int p5), .val (.int (3 : Int32)), .val (.int mm), .val (.int qq), .val (.ref a67), .unset] []))
      refine own_Goes.st ?_ (fun _ k => XS.iloadN X94.here hx rfl (hb hby at_130) rfl k)
      show own_Goes p.tables e below P (T94.setTop (mkF m 131 #[.val (.int p0), .val (.int p1), .val (.int p2), .val (.int p3), .val (.int p4), .val (.int p5), .val (.int (3 : Int32)), .val (.int mm), .val (.int qq), .val (.ref a67), .unset] [(.int p0)]))
      refine own_Goes.st ?_ (fun _ k => XS.iload X94.here hx rfl (hb hby at_131) rfl k)
      show own_Goes p.tables e below P (T94.setTop (mkF m 133 #[.val (.int p0), .val (.int p1), .val (.int p2), .val (.int p3), .val (.int p4), .val (.int p5), .val (.int (3 : Int32)), .val (.int mm), .val (.int qq), .val (.ref a67), .unset] [(.int qq), (.int p0)]))
      by_cases hx0 : p0 = qq
      · skip
        refine own_Goes.st ?_ (fun _ k => XS.icmpYes X94.here hx rfl (pc0 := 133) (pc' := 172) rfl (hb hby at_133) rfl (teq hx0).1 (by decide) (by decide) k)
        show own_Goes p.tables e below P (T94.setTop (mkF m 172 #[.val (.int p0), .val (.int p1), .val (.int p2), .val (.int p3), .val (.int p4), .val (.int p5), .val (.int (3 : Int32)), .val (.int mm), .val (.int qq), .val (.ref a67), .unset] []))
        refine own_Goes.st ?_ (fun _ k => XS.iconst X94.here hx rfl (hb hby at_172) k)
        show own_Goes p.tables e below P (T94.setTop (mkF m 173 #[.val (.int p0), .val (.int p1), .val (.int p2), .val (.int p3), .val (.int p4), .val (.int p5), .val (.int (3 : Int32)), .val (.int mm), .val (.int qq), .val (.ref a67), .unset] [(.int (1 : Int32))]))
        refine own_Goes.st ?_ (fun _ k => XS.goto X94.here hx rfl (pc0 := 173) (pc' := 177) rfl (hb hby at_173) (by decide) (by decide) k)
        show own_Goes p.tables e below P (T94.setTop (mkF m 177 #[.val (.int p0), .val (.int p1), .val (.int p2), .val (.int p3), .val (.int p4), .val (.int p5), .val (.int (3 : Int32)), .val (.int mm), .val (.int qq), .val (.ref a67), .unset] [(.int (1 : Int32))]))
        refine own_Goes.st ?_ (fun _ k => XS.istore X94.here hx rfl (hb hby at_177) rfl (l' := #[.val (.int p0), .val (.int p1), .val (.int p2), .val (.int p3), .val (.int p4), .val (.int p5), .val (.int (3 : Int32)), .val (.int mm), .val (.int qq), .val (.ref a67), .val (.int (1 : Int32))]) rfl k)
        show own_Goes p.tables e below P (T94.setTop (mkF m 179 #[.val (.int p0), .val (.int p1), .val (.int p2), .val (.int p3), .val (.int p4), .val (.int p5), .val (.int (3 : Int32)), .val (.int mm), .val (.int qq), .val (.ref a67), .val (.int (1 : Int32))] []))
        refine own_Goes.st ?_ (fun _ k => XS.aload X94.here hx rfl (hb hby at_179) rfl rfl k)
        show own_Goes p.tables e below P (T94.setTop (mkF m 181 #[.val (.int p0), .val (.int p1), .val (.int p2), .val (.int p3), .val (.int p4), .val (.int p5), .val (.int (3 : Int32)), .val (.int mm), .val (.int qq), .val (.ref a67), .val (.int (1 : Int32))] [(.ref a67)]))
        refine own_Goes.st ?_ (fun _ k => XS.iload X94.here hx rfl (hb hby at_181) rfl k)
        show own_Goes p.tables e below P (T94.setTop (mkF m 183 #[.val (.int p0), .val (.int p1), .val (.int p2), .val (.int p3), .val (.int p4), .val (.int p5), .val (.int (3 : Int32)), .val (.int mm), .val (.int qq), .val (.ref a67), .val (.int (1 : Int32))] [(.int qq), (.ref a67)]))
        obtain ⟨cq104, kq104, q104a, q104b, q104c⟩ := isOf hZ rfl f95
        obtain ⟨_, _, ⟨T104, L104, k104, n104⟩, -, X104, ⟨Lc104, hQ104, l104, y104, z104⟩, st104⟩ := X94.virtualBack hx (y := (⟨"com/example/taxodelta/taxodelta/taxonomy/IntList", "contains", "(I)Z"⟩ : MethodName)) (z := (⟨"com/example/taxodelta/taxodelta/taxonomy/IntList", "contains", "(I)Z"⟩ : MethodName)) hown (mvT hZ (hw _ (List.mem_of_getElem? (i := 31) rfl))) (mvT hZ (hw _ (List.mem_of_getElem? (i := 32) rfl))) (notFace_of_selects (args := #[]) (mvT hZ (hw _ (List.mem_of_getElem? (i := 34) rfl)))) (mvT hZ (hw _ (List.mem_of_getElem? (i := 34) rfl))) (mvT hZ (hw _ (List.mem_of_getElem? (i := 33) rfl))) (by decide) (backOf (W := 0) (rm_has_3 l Z a0 hw [] a67 qq b294 k294 p0 p1 p2 T94.heap n0 Z103 f96 f97 f99) hZ (hw _ (List.mem_of_getElem? (i := 35) rfl)) (hw _ (List.mem_of_getElem? (i := 2) rfl)) (by decide) (by decide)) q104a q104c (g := (mkF m 183 #[.val (.int p0), .val (.int p1), .val (.int p2), .val (.int p3), .val (.int p4), .val (.int p5), .val (.int (3 : Int32)), .val (.int mm), .val (.int qq), .val (.ref a67), .val (.int (1 : Int32))] [(.int qq), (.ref a67)])) rfl (by rw [hml]; rfl) (Steps.refl _) (argsL := [(.int qq)]) (rest := []) (lenOf own_pd__28_I_29_Z rfl) rfl (by show 2 * 0 + _ ≤ _; exact Nat.le_of_eq rfl) (hb hby at_183) (fun _ _ => ⟨rfl, rfl, (by decide : 3 + 0 ≤ _), (by decide : 8 + 0 ≤ _)⟩)
        dsimp only [Pt.U, Pt.locs, Pt.cells, Pt.slots] at X104 l104 y104 z104 st104 hQ104
        subst l104 y104 z104
        obtain ⟨rfl, Nq104, e104⟩ := hQ104
        have N104 := Fr.app N94 Nq104
        refine own_Goes.tr st104 ?_
        show own_Goes p.tables e below P (T104.setTop (mkF m 186 #[.val (.int p0), .val (.int p1), .val (.int p2), .val (.int p3), .val (.int p4), .val (.int p5), .val (.int (3 : Int32)), .val (.int mm), .val (.int qq), .val (.ref a67), .val (.int (1 : Int32))] [(.int (if p0 = qq then 1 else (if p1 = qq then 1 else (if p2 = qq then 1 else 0))))]))
        rw [(show (if p0 = qq then 1 else (if p1 = qq then 1 else (if p2 = qq then 1 else 0))) = (1 : Int32) by rw [if_pos hx0])]
        show own_Goes p.tables e below P (T104.setTop (mkF m 186 #[.val (.int p0), .val (.int p1), .val (.int p2), .val (.int p3), .val (.int p4), .val (.int p5), .val (.int (3 : Int32)), .val (.int mm), .val (.int qq), .val (.ref a67), .val (.int (1 : Int32))] [(.int (1 : Int32))]))
        refine own_Goes.st ?_ (fun _ k => XS.iload X104.here hx rfl (hb hby at_186) rfl k)
        show own_Goes p.tables e below P (T104.setTop (mkF m 188 #[.val (.int p0), .val (.int p1), .val (.int p2), .val (.int p3), .val (.int p4), .val (.int p5), .val (.int (3 : Int32)), .val (.int mm), .val (.int qq), .val (.ref a67), .val (.int (1 : Int32))] [(.int (1 : Int32)), (.int (1 : Int32))]))
        refine own_Goes.st ?_ (fun _ k => XS.icmpNo X104.here hx rfl (hb hby at_188) rfl (teq (by decide : (1 : Int32) = (1 : Int32))).2 k)
        show own_Goes p.tables e below P (T104.setTop (mkF m 191 #[.val (.int p0), .val (.int p1), .val (.int p2), .val (.int p3), .val (.int p4), .val (.int p5), .val (.int (3 : Int32)), .val (.int mm), .val (.int qq), .val (.ref a67), .val (.int (1 : Int32))] []))
        refine own_Goes.st ?_ (fun _ k => XS.iconst X104.here hx rfl (hb hby at_191) k)
        show own_Goes p.tables e below P (T104.setTop (mkF m 192 #[.val (.int p0), .val (.int p1), .val (.int p2), .val (.int p3), .val (.int p4), .val (.int p5), .val (.int (3 : Int32)), .val (.int mm), .val (.int qq), .val (.ref a67), .val (.int (1 : Int32))] [(.int (1 : Int32))]))
        refine own_Goes.st ?_ (fun _ k => XS.goto X104.here hx rfl (pc0 := 192) (pc' := 196) rfl (hb hby at_192) (by decide) (by decide) k)
        show own_Goes p.tables e below P (T104.setTop (mkF m 196 #[.val (.int p0), .val (.int p1), .val (.int p2), .val (.int p3), .val (.int p4), .val (.int p5), .val (.int (3 : Int32)), .val (.int mm), .val (.int qq), .val (.ref a67), .val (.int (1 : Int32))] [(.int (1 : Int32))]))
        obtain ⟨fs, hr, hrun, hended, hW, hsame⟩ := X104.leave (v := some (.int (1 : Int32))) (fun h => by rw [Bd.returns] at h; cases h)
        exact own_Goes.fin _ _ (retOut X104 hx (t := .boolean) Bd.returns rfl (Or.inl ⟨rfl, Or.inr (Or.inl rfl), _, rfl⟩) (hb hby at_196) hr) (hPP _ _ ⟨hrun, hended, _, _, rfl, (by show Q_law n0 _ _; exact ⟨rfl, N104⟩), ⟨_, rfl⟩, hW, hsame.mono (by decide) (by decide)⟩)
      · skip
        refine own_Goes.st ?_ (fun _ k => XS.icmpNo X94.here hx rfl (hb hby at_133) rfl (feq hx0).1 k)
        show own_Goes p.tables e below P (T94.setTop (mkF m 136 #[.val (.int p0), .val (.int p1), .val (.int p2), .val (.int p3), .val (.int p4), .val (.int p5), .val (.int (3 : Int32)), .val (.int mm), .val (.int qq), .val (.ref a67), .unset] []))
        refine own_Goes.st ?_ (fun _ k => XS.iload X94.here hx rfl (hb hby at_136) rfl k)
        show own_Goes p.tables e below P (T94.setTop (mkF m 138 #[.val (.int p0), .val (.int p1), .val (.int p2), .val (.int p3), .val (.int p4), .val (.int p5), .val (.int (3 : Int32)), .val (.int mm), .val (.int qq), .val (.ref a67), .unset] [(.int (3 : Int32))]))
        refine own_Goes.st ?_ (fun _ k => XS.iconst X94.here hx rfl (hb hby at_138) k)
        show own_Goes p.tables e below P (T94.setTop (mkF m 139 #[.val (.int p0), .val (.int p1), .val (.int p2), .val (.int p3), .val (.int p4), .val (.int p5), .val (.int (3 : Int32)), .val (.int mm), .val (.int qq), .val (.ref a67), .unset] [(.int (2 : Int32)), (.int (3 : Int32))]))
        refine own_Goes.st ?_ (fun _ k => XS.icmpNo X94.here hx rfl (hb hby at_139) rfl (flt (by decide : ¬ ((3 : Int32) < (2 : Int32)))).1 k)
        show own_Goes p.tables e below P (T94.setTop (mkF m 142 #[.val (.int p0), .val (.int p1), .val (.int p2), .val (.int p3), .val (.int p4), .val (.int p5), .val (.int (3 : Int32)), .val (.int mm), .val (.int qq), .val (.ref a67), .unset] []))
        refine own_Goes.st ?_ (fun _ k => XS.iloadN X94.here hx rfl (hb hby at_142) rfl k)
        show own_Goes p.tables e below P (T94.setTop (mkF m 143 #[.val (.int p0), .val (.int p1), .val (.int p2), .val (.int p3), .val (.int p4), .val (.int p5), .val (.int (3 : Int32)), .val (.int mm), .val (.int qq), .val (.ref a67), .unset] [(.int p1)]))
        refine own_Goes.st ?_ (fun _ k => XS.iload X94.here hx rfl (hb hby at_143) rfl k)
        show own_Goes p.tables e below P (T94.setTop (mkF m 145 #[.val (.int p0), .val (.int p1), .val (.int p2), .val (.int p3), .val (.int p4), .val (.int p5), .val (.int (3 : Int32)), .val (.int mm), .val (.int qq), .val (.ref a67), .unset] [(.int qq), (.int p1)]))
        by_cases hx1 : p1 = qq
        · skip
          refine own_Goes.st ?_ (fun _ k => XS.icmpYes X94.here hx rfl (pc0 := 145) (pc' := 172) rfl (hb hby at_145) rfl (teq hx1).1 (by decide) (by decide) k)
          show own_Goes p.tables e below P (T94.setTop (mkF m 172 #[.val (.int p0), .val (.int p1), .val (.int p2), .val (.int p3), .val (.int p4), .val (.int p5), .val (.int (3 : Int32)), .val (.int mm), .val (.int qq), .val (.ref a67), .unset] []))
          refine own_Goes.st ?_ (fun _ k => XS.iconst X94.here hx rfl (hb hby at_172) k)
          show own_Goes p.tables e below P (T94.setTop (mkF m 173 #[.val (.int p0), .val (.int p1), .val (.int p2), .val (.int p3), .val (.int p4), .val (.int p5), .val (.int (3 : Int32)), .val (.int mm), .val (.int qq), .val (.ref a67), .unset] [(.int (1 : Int32))]))
          refine own_Goes.st ?_ (fun _ k => XS.goto X94.here hx rfl (pc0 := 173) (pc' := 177) rfl (hb hby at_173) (by decide) (by decide) k)
          show own_Goes p.tables e below P (T94.setTop (mkF m 177 #[.val (.int p0), .val (.int p1), .val (.int p2), .val (.int p3), .val (.int p4), .val (.int p5), .val (.int (3 : Int32)), .val (.int mm), .val (.int qq), .val (.ref a67), .unset] [(.int (1 : Int32))]))
          refine own_Goes.st ?_ (fun _ k => XS.istore X94.here hx rfl (hb hby at_177) rfl (l' := #[.val (.int p0), .val (.int p1), .val (.int p2), .val (.int p3), .val (.int p4), .val (.int p5), .val (.int (3 : Int32)), .val (.int mm), .val (.int qq), .val (.ref a67), .val (.int (1 : Int32))]) rfl k)
          show own_Goes p.tables e below P (T94.setTop (mkF m 179 #[.val (.int p0), .val (.int p1), .val (.int p2), .val (.int p3), .val (.int p4), .val (.int p5), .val (.int (3 : Int32)), .val (.int mm), .val (.int qq), .val (.ref a67), .val (.int (1 : Int32))] []))
          refine own_Goes.st ?_ (fun _ k => XS.aload X94.here hx rfl (hb hby at_179) rfl rfl k)
          show own_Goes p.tables e below P (T94.setTop (mkF m 181 #[.val (.int p0), .val (.int p1), .val (.int p2), .val (.int p3), .val (.int p4), .val (.int p5), .val (.int (3 : Int32)), .val (.int mm), .val (.int qq), .val (.ref a67), .val (.int (1 : Int32))] [(.ref a67)]))
          refine own_Goes.st ?_ (fun _ k => XS.iload X94.here hx rfl (hb hby at_181) rfl k)
          show own_Goes p.tables e below P (T94.setTop (mkF m 183 #[.val (.int p0), .val (.int p1), .val (.int p2), .val (.int p3), .val (.int p4), .val (.int p5), .val (.int (3 : Int32)), .val (.int mm), .val (.int qq), .val (.ref a67), .val (.int (1 : Int32))] [(.int qq), (.ref a67)]))
          obtain ⟨cq105, kq105, q105a, q105b, q105c⟩ := isOf hZ rfl f95
          obtain ⟨_, _, ⟨T105, L105, k105, n105⟩, -, X105, ⟨Lc105, hQ105, l105, y105, z105⟩, st105⟩ := X94.virtualBack hx (y := (⟨"com/example/taxodelta/taxodelta/taxonomy/IntList", "contains", "(I)Z"⟩ : MethodName)) (z := (⟨"com/example/taxodelta/taxodelta/taxonomy/IntList", "contains", "(I)Z"⟩ : MethodName)) hown (mvT hZ (hw _ (List.mem_of_getElem? (i := 31) rfl))) (mvT hZ (hw _ (List.mem_of_getElem? (i := 32) rfl))) (notFace_of_selects (args := #[]) (mvT hZ (hw _ (List.mem_of_getElem? (i := 34) rfl)))) (mvT hZ (hw _ (List.mem_of_getElem? (i := 34) rfl))) (mvT hZ (hw _ (List.mem_of_getElem? (i := 33) rfl))) (by decide) (backOf (W := 0) (rm_has_3 l Z a0 hw [] a67 qq b294 k294 p0 p1 p2 T94.heap n0 Z103 f96 f97 f99) hZ (hw _ (List.mem_of_getElem? (i := 35) rfl)) (hw _ (List.mem_of_getElem? (i := 2) rfl)) (by decide) (by decide)) q105a q105c (g := (mkF m 183 #[.val (.int p0), .val (.int p1), .val (.int p2), .val (.int p3), .val (.int p4), .val (.int p5), .val (.int (3 : Int32)), .val (.int mm), .val (.int qq), .val (.ref a67), .val (.int (1 : Int32))] [(.int qq), (.ref a67)])) rfl (by rw [hml]; rfl) (Steps.refl _) (argsL := [(.int qq)]) (rest := []) (lenOf own_pd__28_I_29_Z rfl) rfl (by show 2 * 0 + _ ≤ _; exact Nat.le_of_eq rfl) (hb hby at_183) (fun _ _ => ⟨rfl, rfl, (by decide : 3 + 0 ≤ _), (by decide : 8 + 0 ≤ _)⟩)
          dsimp only [Pt.U, Pt.locs, Pt.cells, Pt.slots] at X105 l105 y105 z105 st105 hQ105
          subst l105 y105 z105
          obtain ⟨rfl, Nq105, e105⟩ := hQ105
          have N105 := Fr.app N94 Nq105
          refine own_Goes.tr st105 ?_
          show own_Goes p.tables e below P (T105.setTop (mkF m 186 #[.val (.int p0), .val (.int p1), .val (.int p2), .val (.int p3), .val (.int p4), .val (.int p5), .val (.int (3 : Int32)), .val (.int mm), .val (.int qq), .val (.ref a67), .val (.int (1 : Int32))] [(.int (if p0 = qq then 1 else (if p1 = qq then 1 else (if p2 = qq then 1 else 0))))]))
          rw [(show (if p0 = qq then 1 else (if p1 = qq then 1 else (if p2 = qq then 1 else 0))) = (1 : Int32) by rw [if_neg hx0, if_pos hx1])]
          show own_Goes p.tables e below P (T105.setTop (mkF m 186 #[.val (.int p0), .val (.int p1), .val (.int p2), .val (.int p3), .val (.int p4), .val (.int p5), .val (.int (3 : Int32)), .val (.int mm), .val (.int qq), .val (.ref a67), .val (.int (1 : Int32))] [(.int (1 : Int32))]))
          refine own_Goes.st ?_ (fun _ k => XS.iload X105.here hx rfl (hb hby at_186) rfl k)
          show own_Goes p.tables e below P (T105.setTop (mkF m 188 #[.val (.int p0), .val (.int p1), .val (.int p2), .val (.int p3), .val (.int p4), .val (.int p5), .val (.int (3 : Int32)), .val (.int mm), .val (.int qq), .val (.ref a67), .val (.int (1 : Int32))] [(.int (1 : Int32)), (.int (1 : Int32))]))
          refine own_Goes.st ?_ (fun _ k => XS.icmpNo X105.here hx rfl (hb hby at_188) rfl (teq (by decide : (1 : Int32) = (1 : Int32))).2 k)
          show own_Goes p.tables e below P (T105.setTop (mkF m 191 #[.val (.int p0), .val (.int p1), .val (.int p2), .val (.int p3), .val (.int p4), .val (.int p5), .val (.int (3 : Int32)), .val (.int mm), .val (.int qq), .val (.ref a67), .val (.int (1 : Int32))] []))
          refine own_Goes.st ?_ (fun _ k => XS.iconst X105.here hx rfl (hb hby at_191) k)
          show own_Goes p.tables e below P (T105.setTop (mkF m 192 #[.val (.int p0), .val (.int p1), .val (.int p2), .val (.int p3), .val (.int p4), .val (.int p5), .val (.int (3 : Int32)), .val (.int mm), .val (.int qq), .val (.ref a67), .val (.int (1 : Int32))] [(.int (1 : Int32))]))
          refine own_Goes.st ?_ (fun _ k => XS.goto X105.here hx rfl (pc0 := 192) (pc' := 196) rfl (hb hby at_192) (by decide) (by decide) k)
          show own_Goes p.tables e below P (T105.setTop (mkF m 196 #[.val (.int p0), .val (.int p1), .val (.int p2), .val (.int p3), .val (.int p4), .val (.int p5), .val (.int (3 : Int32)), .val (.int mm), .val (.int qq), .val (.ref a67), .val (.int (1 : Int32))] [(.int (1 : Int32))]))
          obtain ⟨fs, hr, hrun, hended, hW, hsame⟩ := X105.leave (v := some (.int (1 : Int32))) (fun h => by rw [Bd.returns] at h; cases h)
          exact own_Goes.fin _ _ (retOut X105 hx (t := .boolean) Bd.returns rfl (Or.inl ⟨rfl, Or.inr (Or.inl rfl), _, rfl⟩) (hb hby at_196) hr) (hPP _ _ ⟨hrun, hended, _, _, rfl, (by show Q_law n0 _ _; exact ⟨rfl, N105⟩), ⟨_, rfl⟩, hW, hsame.mono (by decide) (by decide)⟩)
        · skip
          refine own_Goes.st ?_ (fun _ k => XS.icmpNo X94.here hx rfl (hb hby at_145) rfl (feq hx1).1 k)
          show own_Goes p.tables e below P (T94.setTop (mkF m 148 #[.val (.int p0), .val (.int p1), .val (.int p2), .val (.int p3), .val (.int p4), .val (.int p5), .val (.int (3 : Int32)), .val (.int mm), .val (.int qq), .val (.ref a67), .unset] []))
          refine own_Goes.st ?_ (fun _ k => XS.iload X94.here hx rfl (hb hby at_148) rfl k)
          show own_Goes p.tables e below P (T94.setTop (mkF m 150 #[.val (.int p0), .val (.int p1), .val (.int p2), .val (.int p3), .val (.int p4), .val (.int p5), .val (.int (3 : Int32)), .val (.int mm), .val (.int qq), .val (.ref a67), .unset] [(.int (3 : Int32))]))
          refine own_Goes.st ?_ (fun _ k => XS.iconst X94.here hx rfl (hb hby at_150) k)
          show own_Goes p.tables e below P (T94.setTop (mkF m 151 #[.val (.int p0), .val (.int p1), .val (.int p2), .val (.int p3), .val (.int p4), .val (.int p5), .val (.int (3 : Int32)), .val (.int mm), .val (.int qq), .val (.ref a67), .unset] [(.int (3 : Int32)), (.int (3 : Int32))]))
          refine own_Goes.st ?_ (fun _ k => XS.icmpNo X94.here hx rfl (hb hby at_151) rfl (flt (by decide : ¬ ((3 : Int32) < (3 : Int32)))).1 k)
          show own_Goes p.tables e below P (T94.setTop (mkF m 154 #[.val (.int p0), .val (.int p1), .val (.int p2), .val (.int p3), .val (.int p4), .val (.int p5), .val (.int (3 : Int32)), .val (.int mm), .val (.int qq), .val (.ref a67), .unset] []))
          refine own_Goes.st ?_ (fun _ k => XS.iloadN X94.here hx rfl (hb hby at_154) rfl k)
          show own_Goes p.tables e below P (T94.setTop (mkF m 155 #[.val (.int p0), .val (.int p1), .val (.int p2), .val (.int p3), .val (.int p4), .val (.int p5), .val (.int (3 : Int32)), .val (.int mm), .val (.int qq), .val (.ref a67), .unset] [(.int p2)]))
          refine own_Goes.st ?_ (fun _ k => XS.iload X94.here hx rfl (hb hby at_155) rfl k)
          show own_Goes p.tables e below P (T94.setTop (mkF m 157 #[.val (.int p0), .val (.int p1), .val (.int p2), .val (.int p3), .val (.int p4), .val (.int p5), .val (.int (3 : Int32)), .val (.int mm), .val (.int qq), .val (.ref a67), .unset] [(.int qq), (.int p2)]))
          by_cases hx2 : p2 = qq
          · skip
            refine own_Goes.st ?_ (fun _ k => XS.icmpYes X94.here hx rfl (pc0 := 157) (pc' := 172) rfl (hb hby at_157) rfl (teq hx2).1 (by decide) (by decide) k)
            show own_Goes p.tables e below P (T94.setTop (mkF m 172 #[.val (.int p0), .val (.int p1), .val (.int p2), .val (.int p3), .val (.int p4), .val (.int p5), .val (.int (3 : Int32)), .val (.int mm), .val (.int qq), .val (.ref a67), .unset] []))
            refine own_Goes.st ?_ (fun _ k => XS.iconst X94.here hx rfl (hb hby at_172) k)
            show own_Goes p.tables e below P (T94.setTop (mkF m 173 #[.val (.int p0), .val (.int p1), .val (.int p2), .val (.int p3), .val (.int p4), .val (.int p5), .val (.int (3 : Int32)), .val (.int mm), .val (.int qq), .val (.ref a67), .unset] [(.int (1 : Int32))]))
            refine own_Goes.st ?_ (fun _ k => XS.goto X94.here hx rfl (pc0 := 173) (pc' := 177) rfl (hb hby at_173) (by decide) (by decide) k)
            show own_Goes p.tables e below P (T94.setTop (mkF m 177 #[.val (.int p0), .val (.int p1), .val (.int p2), .val (.int p3), .val (.int p4), .val (.int p5), .val (.int (3 : Int32)), .val (.int mm), .val (.int qq), .val (.ref a67), .unset] [(.int (1 : Int32))]))
            refine own_Goes.st ?_ (fun _ k => XS.istore X94.here hx rfl (hb hby at_177) rfl (l' := #[.val (.int p0), .val (.int p1), .val (.int p2), .val (.int p3), .val (.int p4), .val (.int p5), .val (.int (3 : Int32)), .val (.int mm), .val (.int qq), .val (.ref a67), .val (.int (1 : Int32))]) rfl k)
            show own_Goes p.tables e below P (T94.setTop (mkF m 179 #[.val (.int p0), .val (.int p1), .val (.int p2), .val (.int p3), .val (.int p4), .val (.int p5), .val (.int (3 : Int32)), .val (.int mm), .val (.int qq), .val (.ref a67), .val (.int (1 : Int32))] []))
            refine own_Goes.st ?_ (fun _ k => XS.aload X94.here hx rfl (hb hby at_179) rfl rfl k)
            show own_Goes p.tables e below P (T94.setTop (mkF m 181 #[.val (.int p0), .val (.int p1), .val (.int p2), .val (.int p3), .val (.int p4), .val (.int p5), .val (.int (3 : Int32)), .val (.int mm), .val (.int qq), .val (.ref a67), .val (.int (1 : Int32))] [(.ref a67)]))
            refine own_Goes.st ?_ (fun _ k => XS.iload X94.here hx rfl (hb hby at_181) rfl k)
            show own_Goes p.tables e below P (T94.setTop (mkF m 183 #[.val (.int p0), .val (.int p1), .val (.int p2), .val (.int p3), .val (.int p4), .val (.int p5), .val (.int (3 : Int32)), .val (.int mm), .val (.int qq), .val (.ref a67), .val (.int (1 : Int32))] [(.int qq), (.ref a67)]))
            obtain ⟨cq106, kq106, q106a, q106b, q106c⟩ := isOf hZ rfl f95
            obtain ⟨_, _, ⟨T106, L106, k106, n106⟩, -, X106, ⟨Lc106, hQ106, l106, y106, z106⟩, st106⟩ := X94.virtualBack hx (y := (⟨"com/example/taxodelta/taxodelta/taxonomy/IntList", "contains", "(I)Z"⟩ : MethodName)) (z := (⟨"com/example/taxodelta/taxodelta/taxonomy/IntList", "contains", "(I)Z"⟩ : MethodName)) hown (mvT hZ (hw _ (List.mem_of_getElem? (i := 31) rfl))) (mvT hZ (hw _ (List.mem_of_getElem? (i := 32) rfl))) (notFace_of_selects (args := #[]) (mvT hZ (hw _ (List.mem_of_getElem? (i := 34) rfl)))) (mvT hZ (hw _ (List.mem_of_getElem? (i := 34) rfl))) (mvT hZ (hw _ (List.mem_of_getElem? (i := 33) rfl))) (by decide) (backOf (W := 0) (rm_has_3 l Z a0 hw [] a67 qq b294 k294 p0 p1 p2 T94.heap n0 Z103 f96 f97 f99) hZ (hw _ (List.mem_of_getElem? (i := 35) rfl)) (hw _ (List.mem_of_getElem? (i := 2) rfl)) (by decide) (by decide)) q106a q106c (g := (mkF m 183 #[.val (.int p0), .val (.int p1), .val (.int p2), .val (.int p3), .val (.int p4), .val (.int p5), .val (.int (3 : Int32)), .val (.int mm), .val (.int qq), .val (.ref a67), .val (.int (1 : Int32))] [(.int qq), (.ref a67)])) rfl (by rw [hml]; rfl) (Steps.refl _) (argsL := [(.int qq)]) (rest := []) (lenOf own_pd__28_I_29_Z rfl) rfl (by show 2 * 0 + _ ≤ _; exact Nat.le_of_eq rfl) (hb hby at_183) (fun _ _ => ⟨rfl, rfl, (by decide : 3 + 0 ≤ _), (by decide : 8 + 0 ≤ _)⟩)
            dsimp only [Pt.U, Pt.locs, Pt.cells, Pt.slots] at X106 l106 y106 z106 st106 hQ106
            subst l106 y106 z106
            obtain ⟨rfl, Nq106, e106⟩ := hQ106
            have N106 := Fr.app N94 Nq106
            refine own_Goes.tr st106 ?_
            show own_Goes p.tables e below P (T106.setTop (mkF m 186 #[.val (.int p0), .val (.int p1), .val (.int p2), .val (.int p3), .val (.int p4), .val (.int p5), .val (.int (3 : Int32)), .val (.int mm), .val (.int qq), .val (.ref a67), .val (.int (1 : Int32))] [(.int (if p0 = qq then 1 else (if p1 = qq then 1 else (if p2 = qq then 1 else 0))))]))
            rw [(show (if p0 = qq then 1 else (if p1 = qq then 1 else (if p2 = qq then 1 else 0))) = (1 : Int32) by rw [if_neg hx0, if_neg hx1, if_pos hx2])]
            show own_Goes p.tables e below P (T106.setTop (mkF m 186 #[.val (.int p0), .val (.int p1), .val (.int p2), .val (.int p3), .val (.int p4), .val (.int p5), .val (.int (3 : Int32)), .val (.int mm), .val (.int qq), .val (.ref a67), .val (.int (1 : Int32))] [(.int (1 : Int32))]))
            refine own_Goes.st ?_ (fun _ k => XS.iload X106.here hx rfl (hb hby at_186) rfl k)
            show own_Goes p.tables e below P (T106.setTop (mkF m 188 #[.val (.int p0), .val (.int p1), .val (.int p2), .val (.int p3), .val (.int p4), .val (.int p5), .val (.int (3 : Int32)), .val (.int mm), .val (.int qq), .val (.ref a67), .val (.int (1 : Int32))] [(.int (1 : Int32)), (.int (1 : Int32))]))
            refine own_Goes.st ?_ (fun _ k => XS.icmpNo X106.here hx rfl (hb hby at_188) rfl (teq (by decide : (1 : Int32) = (1 : Int32))).2 k)
            show own_Goes p.tables e below P (T106.setTop (mkF m 191 #[.val (.int p0), .val (.int p1), .val (.int p2), .val (.int p3), .val (.int p4), .val (.int p5), .val (.int (3 : Int32)), .val (.int mm), .val (.int qq), .val (.ref a67), .val (.int (1 : Int32))] []))
            refine own_Goes.st ?_ (fun _ k => XS.iconst X106.here hx rfl (hb hby at_191) k)
            show own_Goes p.tables e below P (T106.setTop (mkF m 192 #[.val (.int p0), .val (.int p1), .val (.int p2), .val (.int p3), .val (.int p4), .val (.int p5), .val (.int (3 : Int32)), .val (.int mm), .val (.int qq), .val (.ref a67), .val (.int (1 : Int32))] [(.int (1 : Int32))]))
            refine own_Goes.st ?_ (fun _ k => XS.goto X106.here hx rfl (pc0 := 192) (pc' := 196) rfl (hb hby at_192) (by decide) (by decide) k)
            show own_Goes p.tables e below P (T106.setTop (mkF m 196 #[.val (.int p0), .val (.int p1), .val (.int p2), .val (.int p3), .val (.int p4), .val (.int p5), .val (.int (3 : Int32)), .val (.int mm), .val (.int qq), .val (.ref a67), .val (.int (1 : Int32))] [(.int (1 : Int32))]))
            obtain ⟨fs, hr, hrun, hended, hW, hsame⟩ := X106.leave (v := some (.int (1 : Int32))) (fun h => by rw [Bd.returns] at h; cases h)
            exact own_Goes.fin _ _ (retOut X106 hx (t := .boolean) Bd.returns rfl (Or.inl ⟨rfl, Or.inr (Or.inl rfl), _, rfl⟩) (hb hby at_196) hr) (hPP _ _ ⟨hrun, hended, _, _, rfl, (by show Q_law n0 _ _; exact ⟨rfl, N106⟩), ⟨_, rfl⟩, hW, hsame.mono (by decide) (by decide)⟩)
          · skip
            refine own_Goes.st ?_ (fun _ k => XS.icmpNo X94.here hx rfl (hb hby at_157) rfl (feq hx2).1 k)
            show own_Goes p.tables e below P (T94.setTop (mkF m 160 #[.val (.int p0), .val (.int p1), .val (.int p2), .val (.int p3), .val (.int p4), .val (.int p5), .val (.int (3 : Int32)), .val (.int mm), .val (.int qq), .val (.ref a67), .unset] []))
            refine own_Goes.st ?_ (fun _ k => XS.iload X94.here hx rfl (hb hby at_160) rfl k)
            show own_Goes p.tables e below P (T94.setTop (mkF m 162 #[.val (.int p0), .val (.int p1), .val (.int p2), .val (.int p3), .val (.int p4), .val (.int p5), .val (.int (3 : Int32)), .val (.int mm), .val (.int qq), .val (.ref a67), .unset] [(.int (3 : Int32))]))
            refine own_Goes.st ?_ (fun _ k => XS.iconst X94.here hx rfl (hb hby at_162) k)
            show own_Goes p.tables e below P (T94.setTop (mkF m 163 #[.val (.int p0), .val (.int p1), .val (.int p2), .val (.int p3), .val (.int p4), .val (.int p5), .val (.int (3 : Int32)), .val (.int mm), .val (.int qq), .val (.ref a67), .unset] [(.int (4 : Int32)), (.int (3 : Int32))]))
            refine own_Goes.st ?_ (fun _ k => XS.icmpYes X94.here hx rfl (pc0 := 163) (pc' := 176) rfl (hb hby at_163) rfl (tlt (by decide : (3 : Int32) < (4 : Int32))).1 (by decide) (by decide) k)
            show own_Goes p.tables e below P (T94.setTop (mkF m 176 #[.val (.int p0), .val (.int p1), .val (.int p2), .val (.int p3), .val (.int p4), .val (.int p5), .val (.int (3 : Int32)), .val (.int mm), .val (.int qq), .val (.ref a67), .unset] []))
            refine own_Goes.st ?_ (fun _ k => XS.iconst X94.here hx rfl (hb hby at_176) k)
            show own_Goes p.tables e below P (T94.setTop (mkF m 177 #[.val (.int p0), .val (.int p1), .val (.int p2), .val (.int p3), .val (.int p4), .val (.int p5), .val (.int (3 : Int32)), .val (.int mm), .val (.int qq), .val (.ref a67), .unset] [(.int (0 : Int32))]))
            refine own_Goes.st ?_ (fun _ k => XS.istore X94.here hx rfl (hb hby at_177) rfl (l' := #[.val (.int p0), .val (.int p1), .val (.int p2), .val (.int p3), .val (.int p4), .val (.int p5), .val (.int (3 : Int32)), .val (.int mm), .val (.int qq), .val (.ref a67), .val (.int (0 : Int32))]) rfl k)
            show own_Goes p.tables e below P (T94.setTop (mkF m 179 #[.val (.int p0), .val (.int p1), .val (.int p2), .val (.int p3), .val (.int p4), .val (.int p5), .val (.int (3 : Int32)), .val (.int mm), .val (.int qq), .val (.ref a67), .val (.int (0 : Int32))] []))
            refine own_Goes.st ?_ (fun _ k => XS.aload X94.here hx rfl (hb hby at_179) rfl rfl k)
            show own_Goes p.tables e below P (T94.setTop (mkF m 181 #[.val (.int p0), .val (.int p1), .val (.int p2), .val (.int p3), .val (.int p4), .val (.int p5), .val (.int (3 : Int32)), .val (.int mm), .val (.int qq), .val (.ref a67), .val (.int (0 : Int32))] [(.ref a67)]))
            refine own_Goes.st ?_ (fun _ k => XS.iload X94.here hx rfl (hb hby at_181) rfl k)
            show own_Goes p.tables e below P (T94.setTop (mkF m 183 #[.val (.int p0), .val (.int p1), .val (.int p2), .val (.int p3), .val (.int p4), .val (.int p5), .val (.int (3 : Int32)), .val (.int mm), .val (.int qq), .val (.ref a67), .val (.int (0 : Int32))] [(.int qq), (.ref a67)]))
            obtain ⟨cq107, kq107, q107a, q107b, q107c⟩ := isOf hZ rfl f95
            obtain ⟨_, _, ⟨T107, L107, k107, n107⟩, -, X107, ⟨Lc107, hQ107, l107, y107, z107⟩, st107⟩ := X94.virtualBack hx (y := (⟨"com/example/taxodelta/taxodelta/taxonomy/IntList", "contains", "(I)Z"⟩ : MethodName)) (z := (⟨"com/example/taxodelta/taxodelta/taxonomy/IntList", "contains", "(I)Z"⟩ : MethodName)) hown (mvT hZ (hw _ (List.mem_of_getElem? (i := 31) rfl))) (mvT hZ (hw _ (List.mem_of_getElem? (i := 32) rfl))) (notFace_of_selects (args := #[]) (mvT hZ (hw _ (List.mem_of_getElem? (i := 34) rfl)))) (mvT hZ (hw _ (List.mem_of_getElem? (i := 34) rfl))) (mvT hZ (hw _ (List.mem_of_getElem? (i := 33) rfl))) (by decide) (backOf (W := 0) (rm_has_3 l Z a0 hw [] a67 qq b294 k294 p0 p1 p2 T94.heap n0 Z103 f96 f97 f99) hZ (hw _ (List.mem_of_getElem? (i := 35) rfl)) (hw _ (List.mem_of_getElem? (i := 2) rfl)) (by decide) (by decide)) q107a q107c (g := (mkF m 183 #[.val (.int p0), .val (.int p1), .val (.int p2), .val (.int p3), .val (.int p4), .val (.int p5), .val (.int (3 : Int32)), .val (.int mm), .val (.int qq), .val (.ref a67), .val (.int (0 : Int32))] [(.int qq), (.ref a67)])) rfl (by rw [hml]; rfl) (Steps.refl _) (argsL := [(.int qq)]) (rest := []) (lenOf own_pd__28_I_29_Z rfl) rfl (by show 2 * 0 + _ ≤ _; exact Nat.le_of_eq rfl) (hb hby at_183) (fun _ _ => ⟨rfl, rfl, (by decide : 3 + 0 ≤ _), (by decide : 8 + 0 ≤ _)⟩)
            dsimp only [Pt.U, Pt.locs, Pt.cells, Pt.slots] at X107 l107 y107 z107 st107 hQ107
            subst l107 y107 z107
            obtain ⟨rfl, Nq107, e107⟩ := hQ107
            have N107 := Fr.app N94 Nq107
            refine own_Goes.tr st107 ?_
            show own_Goes p.tables e below P (T107.setTop (mkF m 186 #[.val (.int p0), .val (.int p1), .val (.int p2), .val (.int p3), .val (.int p4), .val (.int p5), .val (.int (3 : Int32)), .val (.int mm), .val (.int qq), .val (.ref a67), .val (.int (0 : Int32))] [(.int (if p0 = qq then 1 else (if p1 = qq then 1 else (if p2 = qq then 1 else 0))))]))
            rw [(show (if p0 = qq then 1 else (if p1 = qq then 1 else (if p2 = qq then 1 else 0))) = (0 : Int32) by rw [if_neg hx0, if_neg hx1, if_neg hx2])]
            show own_Goes p.tables e below P (T107.setTop (mkF m 186 #[.val (.int p0), .val (.int p1), .val (.int p2), .val (.int p3), .val (.int p4), .val (.int p5), .val (.int (3 : Int32)), .val (.int mm), .val (.int qq), .val (.ref a67), .val (.int (0 : Int32))] [(.int (0 : Int32))]))
            refine own_Goes.st ?_ (fun _ k => XS.iload X107.here hx rfl (hb hby at_186) rfl k)
            show own_Goes p.tables e below P (T107.setTop (mkF m 188 #[.val (.int p0), .val (.int p1), .val (.int p2), .val (.int p3), .val (.int p4), .val (.int p5), .val (.int (3 : Int32)), .val (.int mm), .val (.int qq), .val (.ref a67), .val (.int (0 : Int32))] [(.int (0 : Int32)), (.int (0 : Int32))]))
            refine own_Goes.st ?_ (fun _ k => XS.icmpNo X107.here hx rfl (hb hby at_188) rfl (teq (by decide : (0 : Int32) = (0 : Int32))).2 k)
            show own_Goes p.tables e below P (T107.setTop (mkF m 191 #[.val (.int p0), .val (.int p1), .val (.int p2), .val (.int p3), .val (.int p4), .val (.int p5), .val (.int (3 : Int32)), .val (.int mm), .val (.int qq), .val (.ref a67), .val (.int (0 : Int32))] []))
            refine own_Goes.st ?_ (fun _ k => XS.iconst X107.here hx rfl (hb hby at_191) k)
            show own_Goes p.tables e below P (T107.setTop (mkF m 192 #[.val (.int p0), .val (.int p1), .val (.int p2), .val (.int p3), .val (.int p4), .val (.int p5), .val (.int (3 : Int32)), .val (.int mm), .val (.int qq), .val (.ref a67), .val (.int (0 : Int32))] [(.int (1 : Int32))]))
            refine own_Goes.st ?_ (fun _ k => XS.goto X107.here hx rfl (pc0 := 192) (pc' := 196) rfl (hb hby at_192) (by decide) (by decide) k)
            show own_Goes p.tables e below P (T107.setTop (mkF m 196 #[.val (.int p0), .val (.int p1), .val (.int p2), .val (.int p3), .val (.int p4), .val (.int p5), .val (.int (3 : Int32)), .val (.int mm), .val (.int qq), .val (.ref a67), .val (.int (0 : Int32))] [(.int (1 : Int32))]))
            obtain ⟨fs, hr, hrun, hended, hW, hsame⟩ := X107.leave (v := some (.int (1 : Int32))) (fun h => by rw [Bd.returns] at h; cases h)
            exact own_Goes.fin _ _ (retOut X107 hx (t := .boolean) Bd.returns rfl (Or.inl ⟨rfl, Or.inr (Or.inl rfl), _, rfl⟩) (hb hby at_196) hr) (hPP _ _ ⟨hrun, hended, _, _, rfl, (by show Q_law n0 _ _; exact ⟨rfl, N107⟩), ⟨_, rfl⟩, hW, hsame.mono (by decide) (by decide)⟩)
    · skip
      show own_Goes p.tables e below P (s₁.setTop (mkF m 67 #[.val (.int p0), .val (.int p1), .val (.int p2), .val (.int p3), .val (.int p4), .val (.int p5), .val (.int (4 : Int32)), .val (.int mm), .val (.int qq), .unset, .unset] []))
      obtain ⟨T108, h108, X108, e108, E108, A108, D108, -, st108⟩ := newO X0 hx hZ hown (hw _ (List.mem_of_getElem? (i := 0) rfl)) (hw _ (List.mem_of_getElem? (i := 1) rfl)) (hw _ (List.mem_of_getElem? (i := 2) rfl)) e0 (g := (mkF m 67 #[.val (.int p0), .val (.int p1), .val (.int p2), .val (.int p3), .val (.int p4), .val (.int p5), .val (.int (4 : Int32)), .val (.int mm), .val (.int qq), .unset, .unset] [])) rfl (hb hby at_67) (by decide) (by decide)
      obtain ⟨a108, g108⟩ : ∃ z, z = h0.size := ⟨_, rfl⟩
      rw [← g108] at A108 D108 st108
      have ge_a108 : n0 ≤ a108 := Nat.le_trans Z0 (Nat.le_of_eq g108.symm)
      refine own_Goes.st ?_ st108
      have Z109 : n0 ≤ h108.size := Nat.le_trans Z0 E108.1
      have F110 : Fld Z h108 a108 "com/example/taxodelta/taxodelta/taxonomy/IntList" "values" "[I" .null := D108 (Or.inl (hw _ (List.mem_of_getElem? (i := 11) rfl))) (ty := (.array .int)) (by decide)
      have F111 : Fld Z h108 a108 "com/example/taxodelta/taxodelta/taxonomy/IntList" "size" "I" (.int (0 : Int32)) := D108 (Or.inl (hw _ (List.mem_of_getElem? (i := 18) rfl))) (ty := .int) (by decide)
      show own_Goes p.tables e below P (T108.setTop (mkF m 70 #[.val (.int p0), .val (.int p1), .val (.int p2), .val (.int p3), .val (.int p4), .val (.int p5), .val (.int (4 : Int32)), .val (.int mm), .val (.int qq), .unset, .unset] [(.ref a108)]))
      refine own_Goes.st ?_ (fun _ k => XS.dup X108.here hx rfl (hb hby at_70) rfl rfl k)
      show own_Goes p.tables e below P (T108.setTop (mkF m 71 #[.val (.int p0), .val (.int p1), .val (.int p2), .val (.int p3), .val (.int p4), .val (.int p5), .val (.int (4 : Int32)), .val (.int mm), .val (.int qq), .unset, .unset] [(.ref a108), (.ref a108)]))
      obtain ⟨_, _, ⟨T112, L112, k112, n112⟩, -, X112, ⟨Lc112, hQ112, l112, y112, z112⟩, st112⟩ := X108.specialBack hx (y := (⟨"com/example/taxodelta/taxodelta/taxonomy/IntList", "<init>", "()V"⟩ : MethodName)) rfl hown (mvT hZ (hw _ (List.mem_of_getElem? (i := 3) rfl))) (mvT hZ (hw _ (List.mem_of_getElem? (i := 4) rfl))) (mvT hZ (hw _ (List.mem_of_getElem? (i := 5) rfl))) (by decide) (backOf (W := 1) (rm_ctor l Z a0 hw [] a108 .null h108 n0 Z109 A108 F110 F111 ge_a108) hZ (hw _ (List.mem_of_getElem? (i := 5) rfl)) (hw _ (List.mem_of_getElem? (i := 2) rfl)) (by decide) (by decide)) (g := (mkF m 71 #[.val (.int p0), .val (.int p1), .val (.int p2), .val (.int p3), .val (.int p4), .val (.int p5), .val (.int (4 : Int32)), .val (.int mm), .val (.int qq), .unset, .unset] [(.ref a108), (.ref a108)])) rfl (by rw [hml]; rfl) (Steps.refl _) (a := a108) (argsL := []) (rest := [(.ref a108)]) (lenOf own_pd__28__29_V rfl) rfl (by show 2 * 0 + _ ≤ _; exact Nat.le_of_eq rfl) (hb hby at_71) (fun _ _ => ⟨rfl, e108, (by decide : 1 + 1 ≤ _), (by decide : 2 + 2 ≤ _)⟩)
      dsimp only [Pt.U, Pt.locs, Pt.cells, Pt.slots] at X112 l112 y112 z112 st112 hQ112
      subst l112 y112 z112
      obtain ⟨b112, k112, rfl, Nq112, K112, f113, f114, f115, f116, f117, f118⟩ := hQ112
      have N112 := Fr.app N0 Nq112
      refine own_Goes.tr st112 ?_
      have ne119 : a108 ≠ b112 := Nat.ne_of_lt (Nat.lt_of_lt_of_le A108.lt f116)
      have ge_b112 : n0 ≤ b112 := Nat.le_trans Z109 f116
      have Z120 : n0 ≤ T112.heap.size := Nat.le_trans Z109 K112.1
      show own_Goes p.tables e below P (T112.setTop (mkF m 74 #[.val (.int p0), .val (.int p1), .val (.int p2), .val (.int p3), .val (.int p4), .val (.int p5), .val (.int (4 : Int32)), .val (.int mm), .val (.int qq), .unset, .unset] [(.ref a108)]))
      refine own_Goes.st ?_ (fun _ k => XS.astore X112.here hx rfl (hb hby at_74) rfl rfl (l' := #[.val (.int p0), .val (.int p1), .val (.int p2), .val (.int p3), .val (.int p4), .val (.int p5), .val (.int (4 : Int32)), .val (.int mm), .val (.int qq), .val (.ref a108), .unset]) rfl k)
      show own_Goes p.tables e below P (T112.setTop (mkF m 76 #[.val (.int p0), .val (.int p1), .val (.int p2), .val (.int p3), .val (.int p4), .val (.int p5), .val (.int (4 : Int32)), .val (.int mm), .val (.int qq), .val (.ref a108), .unset] []))
      refine own_Goes.st ?_ (fun _ k => XS.iload X112.here hx rfl (hb hby at_76) rfl k)
      show own_Goes p.tables e below P (T112.setTop (mkF m 78 #[.val (.int p0), .val (.int p1), .val (.int p2), .val (.int p3), .val (.int p4), .val (.int p5), .val (.int (4 : Int32)), .val (.int mm), .val (.int qq), .val (.ref a108), .unset] [(.int (4 : Int32))]))
      refine own_Goes.st ?_ (fun _ k => XS.iconst X112.here hx rfl (hb hby at_78) k)
      show own_Goes p.tables e below P (T112.setTop (mkF m 79 #[.val (.int p0), .val (.int p1), .val (.int p2), .val (.int p3), .val (.int p4), .val (.int p5), .val (.int (4 : Int32)), .val (.int mm), .val (.int qq), .val (.ref a108), .unset] [(.int (1 : Int32)), (.int (4 : Int32))]))
      refine own_Goes.st ?_ (fun _ k => XS.icmpNo X112.here hx rfl (hb hby at_79) rfl (flt (by decide : ¬ ((4 : Int32) < (1 : Int32)))).1 k)
      show own_Goes p.tables e below P (T112.setTop (mkF m 82 #[.val (.int p0), .val (.int p1), .val (.int p2), .val (.int p3), .val (.int p4), .val (.int p5), .val (.int (4 : Int32)), .val (.int mm), .val (.int qq), .val (.ref a108), .unset] []))
      refine own_Goes.st ?_ (fun _ k => XS.aload X112.here hx rfl (hb hby at_82) rfl rfl k)
      show own_Goes p.tables e below P (T112.setTop (mkF m 84 #[.val (.int p0), .val (.int p1), .val (.int p2), .val (.int p3), .val (.int p4), .val (.int p5), .val (.int (4 : Int32)), .val (.int mm), .val (.int qq), .val (.ref a108), .unset] [(.ref a108)]))
      refine own_Goes.st ?_ (fun _ k => XS.iloadN X112.here hx rfl (hb hby at_84) rfl k)
      show own_Goes p.tables e below P (T112.setTop (mkF m 85 #[.val (.int p0), .val (.int p1), .val (.int p2), .val (.int p3), .val (.int p4), .val (.int p5), .val (.int (4 : Int32)), .val (.int mm), .val (.int qq), .val (.ref a108), .unset] [(.int p0), (.ref a108)]))
      obtain ⟨cq121, kq121, q121a, q121b, q121c⟩ := isOf hZ rfl f113
      obtain ⟨_, _, ⟨T121, L121, k121, n121⟩, -, X121, ⟨Lc121, hQ121, l121, y121, z121⟩, st121⟩ := X112.virtualBack hx (y := (⟨"com/example/taxodelta/taxodelta/taxonomy/IntList", "add", "(I)V"⟩ : MethodName)) (z := (⟨"com/example/taxodelta/taxodelta/taxonomy/IntList", "add", "(I)V"⟩ : MethodName)) hown (mvT hZ (hw _ (List.mem_of_getElem? (i := 12) rfl))) (mvT hZ (hw _ (List.mem_of_getElem? (i := 13) rfl))) (notFace_of_selects (args := #[]) (mvT hZ (hw _ (List.mem_of_getElem? (i := 15) rfl)))) (mvT hZ (hw _ (List.mem_of_getElem? (i := 15) rfl))) (mvT hZ (hw _ (List.mem_of_getElem? (i := 14) rfl))) (by decide) (backOf (W := 0) (rm_add_0 l Z a0 hw [] a108 p0 b112 k112 T112.heap n0 Z120 f113 f114 f115 f117 f118 ge_a108 ge_b112 ne119) hZ (hw _ (List.mem_of_getElem? (i := 16) rfl)) (hw _ (List.mem_of_getElem? (i := 2) rfl)) (by decide) (by decide)) q121a q121c (g := (mkF m 85 #[.val (.int p0), .val (.int p1), .val (.int p2), .val (.int p3), .val (.int p4), .val (.int p5), .val (.int (4 : Int32)), .val (.int mm), .val (.int qq), .val (.ref a108), .unset] [(.int p0), (.ref a108)])) rfl (by rw [hml]; rfl) (Steps.refl _) (argsL := [(.int p0)]) (rest := []) (lenOf own_pd__28_I_29_V rfl) rfl (by show 2 * 0 + _ ≤ _; exact Nat.le_of_eq rfl) (hb hby at_85) (fun _ _ => ⟨rfl, rfl, (by decide : 2 + 0 ≤ _), (by decide : 4 + 0 ≤ _)⟩)
      dsimp only [Pt.U, Pt.locs, Pt.cells, Pt.slots] at X121 l121 y121 z121 st121 hQ121
      subst l121 y121 z121
      obtain ⟨rfl, Nq121, K121, f122, f123, f124, f125, f126⟩ := hQ121
      have N121 := Fr.app N112 Nq121
      refine own_Goes.tr st121 ?_
      have Z127 : n0 ≤ T121.heap.size := Nat.le_trans Z120 K121.1
      show own_Goes p.tables e below P (T121.setTop (mkF m 88 #[.val (.int p0), .val (.int p1), .val (.int p2), .val (.int p3), .val (.int p4), .val (.int p5), .val (.int (4 : Int32)), .val (.int mm), .val (.int qq), .val (.ref a108), .unset] []))
      refine own_Goes.st ?_ (fun _ k => XS.iload X121.here hx rfl (hb hby at_88) rfl k)
      show own_Goes p.tables e below P (T121.setTop (mkF m 90 #[.val (.int p0), .val (.int p1), .val (.int p2), .val (.int p3), .val (.int p4), .val (.int p5), .val (.int (4 : Int32)), .val (.int mm), .val (.int qq), .val (.ref a108), .unset] [(.int (4 : Int32))]))
      refine own_Goes.st ?_ (fun _ k => XS.iconst X121.here hx rfl (hb hby at_90) k)
      show own_Goes p.tables e below P (T121.setTop (mkF m 91 #[.val (.int p0), .val (.int p1), .val (.int p2), .val (.int p3), .val (.int p4), .val (.int p5), .val (.int (4 : Int32)), .val (.int mm), .val (.int qq), .val (.ref a108), .unset] [(.int (2 : Int32)), (.int (4 : Int32))]))
      refine own_Goes.st ?_ (fun _ k => XS.icmpNo X121.here hx rfl (hb hby at_91) rfl (flt (by decide : ¬ ((4 : Int32) < (2 : Int32)))).1 k)
      show own_Goes p.tables e below P (T121.setTop (mkF m 94 #[.val (.int p0), .val (.int p1), .val (.int p2), .val (.int p3), .val (.int p4), .val (.int p5), .val (.int (4 : Int32)), .val (.int mm), .val (.int qq), .val (.ref a108), .unset] []))
      refine own_Goes.st ?_ (fun _ k => XS.aload X121.here hx rfl (hb hby at_94) rfl rfl k)
      show own_Goes p.tables e below P (T121.setTop (mkF m 96 #[.val (.int p0), .val (.int p1), .val (.int p2), .val (.int p3), .val (.int p4), .val (.int p5), .val (.int (4 : Int32)), .val (.int mm), .val (.int qq), .val (.ref a108), .unset] [(.ref a108)]))
      refine own_Goes.st ?_ (fun _ k => XS.iloadN X121.here hx rfl (hb hby at_96) rfl k)
      show own_Goes p.tables e below P (T121.setTop (mkF m 97 #[.val (.int p0), .val (.int p1), .val (.int p2), .val (.int p3), .val (.int p4), .val (.int p5), .val (.int (4 : Int32)), .val (.int mm), .val (.int qq), .val (.ref a108), .unset] [(.int p1), (.ref a108)]))
      obtain ⟨cq128, kq128, q128a, q128b, q128c⟩ := isOf hZ rfl f122
      obtain ⟨_, _, ⟨T128, L128, k128, n128⟩, -, X128, ⟨Lc128, hQ128, l128, y128, z128⟩, st128⟩ := X121.virtualBack hx (y := (⟨"com/example/taxodelta/taxodelta/taxonomy/IntList", "add", "(I)V"⟩ : MethodName)) (z := (⟨"com/example/taxodelta/taxodelta/taxonomy/IntList", "add", "(I)V"⟩ : MethodName)) hown (mvT hZ (hw _ (List.mem_of_getElem? (i := 12) rfl))) (mvT hZ (hw _ (List.mem_of_getElem? (i := 13) rfl))) (notFace_of_selects (args := #[]) (mvT hZ (hw _ (List.mem_of_getElem? (i := 15) rfl)))) (mvT hZ (hw _ (List.mem_of_getElem? (i := 15) rfl))) (mvT hZ (hw _ (List.mem_of_getElem? (i := 14) rfl))) (by decide) (backOf (W := 0) (rm_add_1 l Z a0 hw [] a108 p1 b112 k112 p0 T121.heap n0 Z127 f122 f123 f124 f125 f126 ge_a108 ge_b112 ne119) hZ (hw _ (List.mem_of_getElem? (i := 16) rfl)) (hw _ (List.mem_of_getElem? (i := 2) rfl)) (by decide) (by decide)) q128a q128c (g := (mkF m 97 #[.val (.int p0), .val (.int p1), .val (.int p2), .val (.int p3), .val (.int p4), .val (.int p5), .val (.int (4 : Int32)), .val (.int mm), .val (.int qq), .val (.ref a108), .unset] [(.int p1), (.ref a108)])) rfl (by rw [hml]; rfl) (Steps.refl _) (argsL := [(.int p1)]) (rest := []) (lenOf own_pd__28_I_29_V rfl) rfl (by show 2 * 0 + _ ≤ _; exact Nat.le_of_eq rfl) (hb hby at_97) (fun _ _ => ⟨rfl, rfl, (by decide : 2 + 0 ≤ _), (by decide : 4 + 0 ≤ _)⟩)
      dsimp only [Pt.U, Pt.locs, Pt.cells, Pt.slots] at X128 l128 y128 z128 st128 hQ128
      subst l128 y128 z128
      obtain ⟨rfl, Nq128, K128, f129, f130, f131, f132, f133⟩ := hQ128
      have N128 := Fr.app N121 Nq128
      refine own_Goes.tr st128 ?_
      have Z134 : n0 ≤ T128.heap.size := Nat.le_trans Z127 K128.1
      show own_Goes p.tables e below P (T128.setTop (mkF m 100 #[.val (.int p0), .val (.int p1), .val (.int p2), .val (.int p3), .val (.int p4), .val (.int p5), .val (.int (4 : Int32)), .val (.int mm), .val (.int qq), .val (.ref a108), .unset] []))
      refine own_Goes.st ?_ (fun _ k => XS.iload X128.here hx rfl (hb hby at_100) rfl k)
      show own_Goes p.tables e below P (T128.setTop (mkF m 102 #[.val (.int p0), .val (.int p1), .val (.int p2), .val (.int p3), .val (.int p4), .val (.int p5), .val (.int (4 : Int32)), .val (.int mm), .val (.int qq), .val (.ref a108), .unset] [(.int (4 : Int32))]))
      refine own_Goes.st ?_ (fun _ k => XS.iconst X128.here hx rfl (hb hby at_102) k)
      show own_Goes p.tables e below P (T128.setTop (mkF m 103 #[.val (.int p0), .val (.int p1), .val (.int p2), .val (.int p3), .val (.int p4), .val (.int p5), .val (.int (4 : Int32)), .val (.int mm), .val (.int qq), .val (.ref a108), .unset] [(.int (3 : Int32)), (.int (4 : Int32))]))
      refine own_Goes.st ?_ (fun _ k => XS.icmpNo X128.here hx rfl (hb hby at_103) rfl (flt (by decide : ¬ ((4 : Int32) < (3 : Int32)))).1 k)
      show own_Goes p.tables e below P (T128.setTop (mkF m 106 #[.val (.int p0), .val (.int p1), .val (.int p2), .val (.int p3), .val (.int p4), .val (.int p5), .val (.int (4 : Int32)), .val (.int mm), .val (.int qq), .val (.ref a108), .unset] []))
      refine own_Goes.st ?_ (fun _ k => XS.aload X128.here hx rfl (hb hby at_106) rfl rfl k)
      show own_Goes p.tables e below P (T128.setTop (mkF m 108 #[.val (.int p0), .val (.int p1), .val (.int p2), .val (.int p3), .val (.int p4), .val (.int p5), .val (.int (4 : Int32)), .val (.int mm), .val (.int qq), .val (.ref a108), .unset] [(.ref a108)]))
      refine own_Goes.st ?_ (fun _ k => XS.iloadN X128.here hx rfl (hb hby at_108) rfl k)
      show own_Goes p.tables e below P (T128.setTop (mkF m 109 #[.val (.int p0), .val (.int p1), .val (.int p2), .val (.int p3), .val (.int p4), .val (.int p5), .val (.int (4 : Int32)), .val (.int mm), .val (.int qq), .val (.ref a108), .unset] [(.int p2), (.ref a108)]))
      obtain ⟨cq135, kq135, q135a, q135b, q135c⟩ := isOf hZ rfl f129
      obtain ⟨_, _, ⟨T135, L135, k135, n135⟩, -, X135, ⟨Lc135, hQ135, l135, y135, z135⟩, st135⟩ := X128.virtualBack hx (y := (⟨"com/example/taxodelta/taxodelta/taxonomy/IntList", "add", "(I)V"⟩ : MethodName)) (z := (⟨"com/example/taxodelta/taxodelta/taxonomy/IntList", "add", "(I)V"⟩ : MethodName)) hown (mvT hZ (hw _ (List.mem_of_getElem? (i := 12) rfl))) (mvT hZ (hw _ (List.mem_of_getElem? (i := 13) rfl))) (notFace_of_selects (args := #[]) (mvT hZ (hw _ (List.mem_of_getElem? (i := 15) rfl)))) (mvT hZ (hw _ (List.mem_of_getElem? (i := 15) rfl))) (mvT hZ (hw _ (List.mem_of_getElem? (i := 14) rfl))) (by decide) (backOf (W := 0) (rm_add_2 l Z a0 hw [] a108 p2 b112 k112 p0 p1 T128.heap n0 Z134 f129 f130 f131 f132 f133 ge_a108 ge_b112 ne119) hZ (hw _ (List.mem_of_getElem? (i := 16) rfl)) (hw _ (List.mem_of_getElem? (i := 2) rfl)) (by decide) (by decide)) q135a q135c (g := (mkF m 109 #[.val (.int p0), .val (.int p1), .val (.int p2), .val (.int p3), .val (.int p4), .val (.int p5), .val (.int (4 : Int32)), .val (.int mm), .val (.int qq), .val (.ref a108), .unset] [(.int p2), (.ref a108)])) rfl (by rw [hml]; rfl) (Steps.refl _) (argsL := [(.int p2)]) (rest := []) (lenOf own_pd__28_I_29_V rfl) rfl (by show 2 * 0 + _ ≤ _; exact Nat.le_of_eq rfl) (hb hby at_109) (fun _ _ => ⟨rfl, rfl, (by decide : 2 + 1 ≤ _), (by decide : 4 + 4 ≤ _)⟩)
      dsimp only [Pt.U, Pt.locs, Pt.cells, Pt.slots] at X135 l135 y135 z135 st135 hQ135
      subst l135 y135 z135
      obtain ⟨b2135, k2135, rfl, Nq135, K135, f136, f137, f138, f139, f140, f141⟩ := hQ135
      have N135 := Fr.app N128 Nq135
      refine own_Goes.tr st135 ?_
      have ne142 : a108 ≠ b2135 := Nat.ne_of_lt (Nat.lt_of_lt_of_le f129.lt f139)
      have ne143 : b112 ≠ b2135 := Nat.ne_of_lt (Nat.lt_of_lt_of_le f133.lt f139)
      have ge_b2135 : n0 ≤ b2135 := Nat.le_trans Z134 f139
      have Z144 : n0 ≤ T135.heap.size := Nat.le_trans Z134 K135.1
      show own_Goes p.tables e below P (T135.setTop (mkF m 112 #[.val (.int p0), .val (.int p1), .val (.int p2), .val (.int p3), .val (.int p4), .val (.int p5), .val (.int (4 : Int32)), .val (.int mm), .val (.int qq), .val (.ref a108), .unset] []))
      refine own_Goes.st ?_ (fun _ k => XS.iload X135.here hx rfl (hb hby at_112) rfl k)
      show own_Goes p.tables e below P (T135.setTop (mkF m 114 #[.val (.int p0), .val (.int p1), .val (.int p2), .val (.int p3), .val (.int p4), .val (.int p5), .val (.int (4 : Int32)), .val (.int mm), .val (.int qq), .val (.ref a108), .unset] [(.int (4 : Int32))]))
      refine own_Goes.st ?_ (fun _ k => XS.iconst X135.here hx rfl (hb hby at_114) k)
      show own_Goes p.tables e below P (T135.setTop (mkF m 115 #[.val (.int p0), .val (.int p1), .val (.int p2), .val (.int p3), .val (.int p4), .val (.int p5), .val (.int (4 : Int32)), .val (.int mm), .val (.int qq), .val (.ref a108), .unset] [(.int (4 : Int32)), (.int (4 : Int32))]))
      refine own_Goes.st ?_ (fun _ k => XS.icmpNo X135.here hx rfl (hb hby at_115) rfl (flt (by decide : ¬ ((4 : Int32) < (4 : Int32)))).1 k)
      show own_Goes p.tables e below P (T135.setTop (mkF m 118 #[.val (.int p0), .val (.int p1), .val (.int p2), .val (.int p3), .val (.int p4), .val (.int p5), .val (.int (4 : Int32)), .val (.int mm), .val (.int qq), .val (.ref a108), .unset] []))
      refine own_Goes.st ?_ (fun _ k => XS.aload X135.here hx rfl (hb hby at_118) rfl rfl k)
      show own_Goes p.tables e below P (T135.setTop (mkF m 120 #[.val (.int p0), .val (.int p1), .val (.int p2), .val (.int p3), .val (.int p4), .val (.int p5), .val (.int (4 : Int32)), .val (.int mm), .val (.int qq), .val (.ref a108), .unset] [(.ref a108)]))
      refine own_Goes.st ?_ (fun _ k => XS.iloadN X135.here hx rfl (hb hby at_120) rfl k)
      show own_Goes p.tables e below P (T135.setTop (mkF m 121 #[.val (.int p0), .val (.int p1), .val (.int p2), .val (.int p3), .val (.int p4), .val (.int p5), .val (.int (4 : Int32)), .val (.int mm), .val (.int qq), .val (.ref a108), .unset] [(.int p3), (.ref a108)]))
      obtain ⟨cq145, kq145, q145a, q145b, q145c⟩ := isOf hZ rfl f136
      obtain ⟨_, _, ⟨T145, L145, k145, n145⟩, -, X145, ⟨Lc145, hQ145, l145, y145, z145⟩, st145⟩ := X135.virtualBack hx (y := (⟨"com/example/taxodelta/taxodelta/taxonomy/IntList", "add", "(I)V"⟩ : MethodName)) (z := (⟨"com/example/taxodelta/taxodelta/taxonomy/IntList", "add", "(I)V"⟩ : MethodName)) hown (mvT hZ (hw _ (List.mem_of_getElem? (i := 12) rfl))) (mvT hZ (hw _ (List.mem_of_getElem? (i := 13) rfl))) (notFace_of_selects (args := #[]) (mvT hZ (hw _ (List.mem_of_getElem? (i := 15) rfl)))) (mvT hZ (hw _ (List.mem_of_getElem? (i := 15) rfl))) (mvT hZ (hw _ (List.mem_of_getElem? (i := 14) rfl))) (by decide) (backOf (W := 0) (rm_add_3 l Z a0 hw [] a108 p3 b2135 k2135 p0 p1 p2 T135.heap n0 Z144 f136 f137 f138 f140 f141 ge_a108 ge_b2135 ne142) hZ (hw _ (List.mem_of_getElem? (i := 16) rfl)) (hw _ (List.mem_of_getElem? (i := 2) rfl)) (by decide) (by decide)) q145a q145c (g := (mkF m 121 #[.val (.int p0), .val (.int p1), .val (.int p2), .val (.int p3), .val (.int p4), .val (.int p5), .val (.int (4 : Int32)), .val (.int mm), .val (.int qq), .val (.ref a108), .unset] [(.int p3), (.ref a108)])) rfl (by rw [hml]; rfl) (Steps.refl _) (argsL := [(.int p3)]) (rest := []) (lenOf own_pd__28_I_29_V rfl) rfl (by show 2 * 0 + _ ≤ _; exact Nat.le_of_eq rfl) (hb hby at_121) (fun _ _ => ⟨rfl, rfl, (by decide : 3 + 0 ≤ _), (by decide : 8 + 0 ≤ _)⟩)
      dsimp only [Pt.U, Pt.locs, Pt.cells, Pt.slots] at X145 l145 y145 z145 st145 hQ145
      subst l145 y145 z145
      obtain ⟨rfl, Nq145, K145, f146, f147, f148, f149, f150⟩ := hQ145
      have N145 := Fr.app N135 Nq145
      refine own_Goes.tr st145 ?_
      have Z151 : n0 ≤ T145.heap.size := Nat.le_trans Z144 K145.1
      show own_Goes p.tables e below P (T145.setTop (mkF m 124 #[.val (.int p0), .val (.int p1), .val (.int p2), .val (.int p3), .val (.int p4), .val (.int p5), .val (.int (4 : Int32)), .val (.int mm), .val (.int qq), .val (.ref a108), .unset] []))
      refine own_Goes.st ?_ (fun _ k => XS.iload X145.here hx rfl (hb hby at_124) rfl k)
      show own_Goes p.tables e below P (T145.setTop (mkF m 126 #[.val (.int p0), .val (.int p1), .val (.int p2), .val (.int p3), .val (.int p4), .val (.int p5), .val (.int (4 : Int32)), .val (.int mm), .val (.int qq), .val (.ref a108), .unset] [(.int (4 : Int32))]))
      refine own_Goes.st ?_ (fun _ k => XS.iconst X145.here hx rfl (hb hby at_126) k)
      show own_Goes p.tables e below P (T145.setTop (mkF m 127 #[.val (.int p0), .val (.int p1), .val (.int p2), .val (.int p3), .val (.int p4), .val (.int p5), .val (.int (4 : Int32)), .val (.int mm), .val (.int qq), .val (.ref a108), .unset] [(.int (1 : Int32)), (.int (4 : Int32))]))
      refine own_Goes.st ?_ (fun _ k => XS.icmpNo X145.here hx rfl (hb hby at_127) rfl (flt (by decide : ¬ ((4 : Int32) < (1 : Int32)))).1 k)
      show own_Goes p.tables e below P (T145.setTop (mkF m 130 #[.val (.int p0), .val (.int p1), .val (.int p2), .val (.int p3), .val (.int p4), .val (.int p5), .val (.int (4 : Int32)), .val (.int mm), .val (.int qq), .val (.ref a108), .unset] []))
      refine own_Goes.st ?_ (fun _ k => XS.iloadN X145.here hx rfl (hb hby at_130) rfl k)
      show own_Goes p.tables e below P (T145.setTop (mkF m 131 #[.val (.int p0), .val (.int p1), .val (.int p2), .val (.int p3), .val (.int p4), .val (.int p5), .val (.int (4 : Int32)), .val (.int mm), .val (.int qq), .val (.ref a108), .unset] [(.int p0)]))
      refine own_Goes.st ?_ (fun _ k => XS.iload X145.here hx rfl (hb hby at_131) rfl k)
      show own_Goes p.tables e below P (T145.setTop (mkF m 133 #[.val (.int p0), .val (.int p1), .val (.int p2), .val (.int p3), .val (.int p4), .val (.int p5), .val (.int (4 : Int32)), .val (.int mm), .val (.int qq), .val (.ref a108), .unset] [(.int qq), (.int p0)]))
      by_cases hx0 : p0 = qq
      · skip
        refine own_Goes.st ?_ (fun _ k => XS.icmpYes X145.here hx rfl (pc0 := 133) (pc' := 172) rfl (hb hby at_133) rfl (teq hx0).1 (by decide) (by decide) k)
        show own_Goes p.tables e below P (T145.setTop (mkF m 172 #[.val (.int p0), .val (.int p1), .val (.int p2), .val (.int p3), .val (.int p4), .val (.int p5), .val (.int (4 : Int32)), .val (.int mm), .val (.int qq), .val (.ref a108), .unset] []))
        refine own_Goes.st ?_ (fun _ k => XS.iconst X145.here hx rfl (hb hby at_172) k)
        show own_Goes p.tables e below P (T145.setTop (mkF m 173 #[.val (.int p0), .val (.int p1), .val (.int p2), .val (.int p3), .val (.int p4), .val (.int p5), .val (.int (4 : Int32)), .val (.int mm), .val (.int qq), .val (.ref a108), .unset] [(.int (1 : Int32))]))
        refine own_Goes.st ?_ (fun _ k => XS.goto X145.here hx rfl (pc0 := 173) (pc' := 177) rfl (hb hby at_173) (by decide) (by decide) k)
        show own_Goes p.tables e below P (T145.setTop (mkF m 177 #[.val (.int p0), .val (.int p1), .val (.int p2), .val (.int p3), .val (.int p4), .val (.int p5), .val (.int (4 : Int32)), .val (.int mm), .val (.int qq), .val (.ref a108), .unset] [(.int (1 : Int32))]))
        refine own_Goes.st ?_ (fun _ k => XS.istore X145.here hx rfl (hb hby at_177) rfl (l' := #[.val (.int p0), .val (.int p1), .val (.int p2), .val (.int p3), .val (.int p4), .val (.int p5), .val (.int (4 : Int32)), .val (.int mm), .val (.int qq), .val (.ref a108), .val (.int (1 : Int32))]) rfl k)
        show own_Goes p.tables e below P (T145.setTop (mkF m 179 #[.val (.int p0), .val (.int p1), .val (.int p2), .val (.int p3), .val (.int p4), .val (.int p5), .val (.int (4 : Int32)), .val (.int mm), .val (.int qq), .val (.ref a108), .val (.int (1 : Int32))] []))
        refine own_Goes.st ?_ (fun _ k => XS.aload X145.here hx rfl (hb hby at_179) rfl rfl k)
        show own_Goes p.tables e below P (T145.setTop (mkF m 181 #[.val (.int p0), .val (.int p1), .val (.int p2), .val (.int p3), .val (.int p4), .val (.int p5), .val (.int (4 : Int32)), .val (.int mm), .val (.int qq), .val (.ref a108), .val (.int (1 : Int32))] [(.ref a108)]))
        refine own_Goes.st ?_ (fun _ k => XS.iload X145.here hx rfl (hb hby at_181) rfl k)
        show own_Goes p.tables e below P (T145.setTop (mkF m 183 #[.val (.int p0), .val (.int p1), .val (.int p2), .val (.int p3), .val (.int p4), .val (.int p5), .val (.int (4 : Int32)), .val (.int mm), .val (.int qq), .val (.ref a108), .val (.int (1 : Int32))] [(.int qq), (.ref a108)]))
        obtain ⟨cq152, kq152, q152a, q152b, q152c⟩ := isOf hZ rfl f146
        obtain ⟨_, _, ⟨T152, L152, k152, n152⟩, -, X152, ⟨Lc152, hQ152, l152, y152, z152⟩, st152⟩ := X145.virtualBack hx (y := (⟨"com/example/taxodelta/taxodelta/taxonomy/IntList", "contains", "(I)Z"⟩ : MethodName)) (z := (⟨"com/example/taxodelta/taxodelta/taxonomy/IntList", "contains", "(I)Z"⟩ : MethodName)) hown (mvT hZ (hw _ (List.mem_of_getElem? (i := 31) rfl))) (mvT hZ (hw _ (List.mem_of_getElem? (i := 32) rfl))) (notFace_of_selects (args := #[]) (mvT hZ (hw _ (List.mem_of_getElem? (i := 34) rfl)))) (mvT hZ (hw _ (List.mem_of_getElem? (i := 34) rfl))) (mvT hZ (hw _ (List.mem_of_getElem? (i := 33) rfl))) (by decide) (backOf (W := 0) (rm_has_4 l Z a0 hw [] a108 qq b2135 k2135 p0 p1 p2 p3 T145.heap n0 Z151 f147 f148 f149) hZ (hw _ (List.mem_of_getElem? (i := 35) rfl)) (hw _ (List.mem_of_getElem? (i := 2) rfl)) (by decide) (by decide)) q152a q152c (g := (mkF m 183 #[.val (.int p0), .val (.int p1), .val (.int p2), .val (.int p3), .val (.int p4), .val (.int p5), .val (.int (4 : Int32)), .val (.int mm), .val (.int qq), .val (.ref a108), .val (.int (1 : Int32))] [(.int qq), (.ref a108)])) rfl (by rw [hml]; rfl) (Steps.refl _) (argsL := [(.int qq)]) (rest := []) (lenOf own_pd__28_I_29_Z rfl) rfl (by show 2 * 0 + _ ≤ _; exact Nat.le_of_eq rfl) (hb hby at_183) (fun _ _ => ⟨rfl, rfl, (by decide : 3 + 0 ≤ _), (by decide : 8 + 0 ≤ _)⟩)
        dsimp only [Pt.U, Pt.locs, Pt.cells, Pt.slots] at X152 l152 y152 z152 st152 hQ152
        subst l152 y152 z152
        obtain ⟨rfl, Nq152, e152⟩ := hQ152
        have N152 := Fr.app N145 Nq152
        refine own_Goes.tr st152 ?_
        show own_Goes p.tables e below P (T152.setTop (mkF m 186 #[.val (.int p0), .val (.int p1), .val (.int p2), .val (.int p3), .val (.int p4), .val (.int p5), .val (.int (4 : Int32)), .val (.int mm), .val (.int qq), .val (.ref a108), .val (.int (1 : Int32))] [(.int (if p0 = qq then 1 else (if p1 = qq then 1 else (if p2 = qq then 1 else (if p3 = qq then 1 else 0)))))]))
        rw [(show (if p0 = qq then 1 else (if p1 = qq then 1 else (if p2 = qq then 1 else (if p3 = qq then 1 else 0)))) = (1 : Int32) by rw [if_pos hx0])]
        show own_Goes p.tables e below P (T152.setTop (mkF m 186 #[.val (.int p0), .val (.int p1), .val (.int p2), .val (.int p3), .val (.int p4), .val (.int p5), .val (.int (4 : Int32)), .val (.int mm), .val (.int qq), .val (.ref a108), .val (.int (1 : Int32))] [(.int (1 : Int32))]))
        refine own_Goes.st ?_ (fun _ k => XS.iload X152.here hx rfl (hb hby at_186) rfl k)
        show own_Goes p.tables e below P (T152.setTop (mkF m 188 #[.val (.int p0), .val (.int p1), .val (.int p2), .val (.int p3), .val (.int p4), .val (.int p5), .val (.int (4 : Int32)), .val (.int mm), .val (.int qq), .val (.ref a108), .val (.int (1 : Int32))] [(.int (1 : Int32)), (.int (1 : Int32))]))
        refine own_Goes.st ?_ (fun _ k => XS.icmpNo X152.here hx rfl (hb hby at_188) rfl (teq (by decide : (1 : Int32) = (1 : Int32))).2 k)
        show own_Goes p.tables e below P (T152.setTop (mkF m 191 #[.val (.int p0), .val (.int p1), .val (.int p2), .val (.int p3), .val (.int p4), .val (.int p5), .val (.int (4 : Int32)), .val (.int mm), .val (.int qq), .val (.ref a108), .val (.int (1 : Int32))] []))
        refine own_Goes.st ?_ (fun _ k => XS.iconst X152.here hx rfl (hb hby at_191) k)
        show own_Goes p.tables e below P (T152.setTop (mkF m 192 #[.val (.int p0), .val (.int p1), .val (.int p2), .val (.int p3), .val (.int p4), .val (.int p5), .val (.int (4 : Int32)), .val (.int mm), .val (.int qq), .val (.ref a108), .val (.int (1 : Int32))] [(.int (1 : Int32))]))
        refine own_Goes.st ?_ (fun _ k => XS.goto X152.here hx rfl (pc0 := 192) (pc' := 196) rfl (hb hby at_192) (by decide) (by decide) k)
        show own_Goes p.tables e below P (T152.setTop (mkF m 196 #[.val (.int p0), .val (.int p1), .val (.int p2), .val (.int p3), .val (.int p4), .val (.int p5), .val (.int (4 : Int32)), .val (.int mm), .val (.int qq), .val (.ref a108), .val (.int (1 : Int32))] [(.int (1 : Int32))]))
        obtain ⟨fs, hr, hrun, hended, hW, hsame⟩ := X152.leave (v := some (.int (1 : Int32))) (fun h => by rw [Bd.returns] at h; cases h)
        exact own_Goes.fin _ _ (retOut X152 hx (t := .boolean) Bd.returns rfl (Or.inl ⟨rfl, Or.inr (Or.inl rfl), _, rfl⟩) (hb hby at_196) hr) (hPP _ _ ⟨hrun, hended, _, _, rfl, (by show Q_law n0 _ _; exact ⟨rfl, N152⟩), ⟨_, rfl⟩, hW, hsame.mono (by decide) (by decide)⟩)
      · skip
        refine own_Goes.st ?_ (fun _ k => XS.icmpNo X145.here hx rfl (hb hby at_133) rfl (feq hx0).1 k)
        show own_Goes p.tables e below P (T145.setTop (mkF m 136 #[.val (.int p0), .val (.int p1), .val (.int p2), .val (.int p3), .val (.int p4), .val (.int p5), .val (.int (4 : Int32)), .val (.int mm), .val (.int qq), .val (.ref a108), .unset] []))
        refine own_Goes.st ?_ (fun _ k => XS.iload X145.here hx rfl (hb hby at_136) rfl k)
        show own_Goes p.tables e below P (T145.setTop (mkF m 138 #[.val (.int p0), .val (.int p1), .val (.int p2), .val (.int p3), .val (.int p4), .val (.int p5), .val (.int (4 : Int32)), .val (.int mm), .val (.int qq), .val (.ref a108), .unset] [(.int (4 : Int32))]))
        refine own_Goes.st ?_ (fun _ k => XS.iconst X145.here hx rfl (hb hby at_138) k)
        show own_Goes p.tables e below P (T145.setTop (mkF m 139 #[.val (.int p0), .val (.int p1), .val (.int p2), .val (.int p3), .val (.int p4), .val (.int p5), .val (.int (4 : Int32)), .val (.int mm), .val (.int qq), .val (.ref a108), .unset] [(.int (2 : Int32)), (.int (4 : Int32))]))
        refine own_Goes.st ?_ (fun _ k => XS.icmpNo X145.here hx rfl (hb hby at_139) rfl (flt (by decide : ¬ ((4 : Int32) < (2 : Int32)))).1 k)
        show own_Goes p.tables e below P (T145.setTop (mkF m 142 #[.val (.int p0), .val (.int p1), .val (.int p2), .val (.int p3), .val (.int p4), .val (.int p5), .val (.int (4 : Int32)), .val (.int mm), .val (.int qq), .val (.ref a108), .unset] []))
        refine own_Goes.st ?_ (fun _ k => XS.iloadN X145.here hx rfl (hb hby at_142) rfl k)
        show own_Goes p.tables e below P (T145.setTop (mkF m 143 #[.val (.int p0), .val (.int p1), .val (.int p2), .val (.int p3), .val (.int p4), .val (.int p5), .val (.int (4 : Int32)), .val (.int mm), .val (.int qq), .val (.ref a108), .unset] [(.int p1)]))
        refine own_Goes.st ?_ (fun _ k => XS.iload X145.here hx rfl (hb hby at_143) rfl k)
        show own_Goes p.tables e below P (T145.setTop (mkF m 145 #[.val (.int p0), .val (.int p1), .val (.int p2), .val (.int p3), .val (.int p4), .val (.int p5), .val (.int (4 : Int32)), .val (.int mm), .val (.int qq), .val (.ref a108), .unset] [(.int qq), (.int p1)]))
        by_cases hx1 : p1 = qq
        · skip
          refine own_Goes.st ?_ (fun _ k => XS.icmpYes X145.here hx rfl (pc0 := 145) (pc' := 172) rfl (hb hby at_145) rfl (teq hx1).1 (by decide) (by decide) k)
          show own_Goes p.tables e below P (T145.setTop (mkF m 172 #[.val (.int p0), .val (.int p1), .val (.int p2), .val (.int p3), .val (.int p4), .val (.int p5), .val (.int (4 : Int32)), .val (.int mm), .val (.int qq), .val (.ref a108), .unset] []))
          refine own_Goes.st ?_ (fun _ k => XS.iconst X145.here hx rfl (hb hby at_172) k)
          show own_Goes p.tables e below P (T145.setTop (mkF m 173 #[.val (.int p0), .val (.int p1), .val (.int p2), .val (.int p3), .val (.int p4), .val (.int p5), .val (.int (4 : Int32)), .val (.int mm), .val (.int qq), .val (.ref a108), .unset] [(.int (1 : Int32))]))
          refine own_Goes.st ?_ (fun _ k => XS.goto X145.here hx rfl (pc0 := 173) (pc' := 177) rfl (hb hby at_173) (by decide) (by decide) k)
          show own_Goes p.tables e below P (T145.setTop (mkF m 177 #[.val (.int p0), .val (.int p1), .val (.int p2), .val (.int p3), .val (.int p4), .val (.int p5), .val (.int (4 : Int32)), .val (.int mm), .val (.int qq), .val (.ref a108), .unset] [(.int (1 : Int32))]))
          refine own_Goes.st ?_ (fun _ k => XS.istore X145.here hx rfl (hb hby at_177) rfl (l' := #[.val (.int p0), .val (.int p1), .val (.int p2), .val (.int p3), .val (.int p4), .val (.int p5), .val (.int (4 : Int32)), .val (.int mm), .val (.int qq), .val (.ref a108), .val (.int (1 : Int32))]) rfl k)
          show own_Goes p.tables e below P (T145.setTop (mkF m 179 #[.val (.int p0), .val (.int p1), .val (.int p2), .val (.int p3), .val (.int p4), .val (.int p5), .val (.int (4 : Int32)), .val (.int mm), .val (.int qq), .val (.ref a108), .val (.int (1 : Int32))] []))
          refine own_Goes.st ?_ (fun _ k => XS.aload X145.here hx rfl (hb hby at_179) rfl rfl k)
          show own_Goes p.tables e below P (T145.setTop (mkF m 181 #[.val (.int p0), .val (.int p1), .val (.int p2), .val (.int p3), .val (.int p4), .val (.int p5), .val (.int (4 : Int32)), .val (.int mm), .val (.int qq), .val (.ref a108), .val (.int (1 : Int32))] [(.ref a108)]))
          refine own_Goes.st ?_ (fun _ k => XS.iload X145.here hx rfl (hb hby at_181) rfl k)
          show own_Goes p.tables e below P (T145.setTop (mkF m 183 #[.val (.int p0), .val (.int p1), .val (.int p2), .val (.int p3), .val (.int p4), .val (.int p5), .val (.int (4 : Int32)), .val (.int mm), .val (.int qq), .val (.ref a108), .val (.int (1 : Int32))] [(.int qq), (.ref a108)]))
          obtain ⟨cq153, kq153, q153a, q153b, q153c⟩ := isOf hZ rfl f146
          obtain ⟨_, _, ⟨T153, L153, k153, n153⟩, -, X153, ⟨Lc153, hQ153, l153, y153, z153⟩, st153⟩ := X145.virtualBack hx (y := (⟨"com/example/taxodelta/taxodelta/taxonomy/IntList", "contains", "(I)Z"⟩ : MethodName)) (z := (⟨"com/example/taxodelta/taxodelta/taxonomy/IntList", "contains", "(I)Z"⟩ : MethodName)) hown (mvT hZ (hw _ (List.mem_of_getElem? (i := 31) rfl))) (mvT hZ (hw _ (List.mem_of_getElem? (i := 32) rfl))) (notFace_of_selects (args := #[]) (mvT hZ (hw _ (List.mem_of_getElem? (i := 34) rfl)))) (mvT hZ (hw _ (List.mem_of_getElem? (i := 34) rfl))) (mvT hZ (hw _ (List.mem_of_getElem? (i := 33) rfl))) (by decide) (backOf (W := 0) (rm_has_4 l Z a0 hw [] a108 qq b2135 k2135 p0 p1 p2 p3 T145.heap n0 Z151 f147 f148 f149) hZ (hw _ (List.mem_of_getElem? (i := 35) rfl)) (hw _ (List.mem_of_getElem? (i := 2) rfl)) (by decide) (by decide)) q153a q153c (g := (mkF m 183 #[.val (.int p0), .val (.int p1), .val (.int p2), .val (.int p3), .val (.int p4), .val (.int p5), .val (.int (4 : Int32)), .val (.int mm), .val (.int qq), .val (.ref a108), .val (.int (1 : Int32))] [(.int qq), (.ref a108)])) rfl (by rw [hml]; rfl) (Steps.refl _) (argsL := [(.int qq)]) (rest := []) (lenOf own_pd__28_I_29_Z rfl) rfl (by show 2 * 0 + _ ≤ _; exact Nat.le_of_eq rfl) (hb hby at_183) (fun _ _ => ⟨rfl, rfl, (by decide : 3 + 0 ≤ _), (by decide : 8 + 0 ≤ _)⟩)
          dsimp only [Pt.U, Pt.locs, Pt.cells, Pt.slots] at X153 l153 y153 z153 st153 hQ153
          subst l153 y153 z153
          obtain ⟨rfl, Nq153, e153⟩ := hQ153
          have N153 := Fr.app N145 Nq153
          refine own_Goes.tr st153 ?_
          show own_Goes p.tables e below P (T153.setTop (mkF m 186 #[.val (.int p0), .val (.int p1), .val (.int p2), .val (.int p3), .val (.int p4), .val (.int p5), .val (.int (4 : Int32)), .val (.int mm), .val (.int qq), .val (.ref a108), .val (.int (1 : Int32))] [(.int (if p0 = qq then 1 else (if p1 = qq then 1 else (if p2 = qq then 1 else (if p3 = qq then 1 else 0)))))]))
          rw [(show (if p0 = qq then 1 else (if p1 = qq then 1 else (if p2 = qq then 1 else (if p3 = qq then 1 else 0)))) = (1 : Int32) by rw [if_neg hx0, if_pos hx1])]
          show own_Goes p.tables e below P (T153.setTop (mkF m 186 #[.val (.int p0), .val (.int p1), .val (.int p2), .val (.int p3), .val (.int p4), .val (.int p5), .val (.int (4 : Int32)), .val (.int mm), .val (.int qq), .val (.ref a108), .val (.int (1 : Int32))] [(.int (1 : Int32))]))
          refine own_Goes.st ?_ (fun _ k => XS.iload X153.here hx rfl (hb hby at_186) rfl k)
          show own_Goes p.tables e below P (T153.setTop (mkF m 188 #[.val (.int p0), .val (.int p1), .val (.int p2), .val (.int p3), .val (.int p4), .val (.int p5), .val (.int (4 : Int32)), .val (.int mm), .val (.int qq), .val (.ref a108), .val (.int (1 : Int32))] [(.int (1 : Int32)), (.int (1 : Int32))]))
          refine own_Goes.st ?_ (fun _ k => XS.icmpNo X153.here hx rfl (hb hby at_188) rfl (teq (by decide : (1 : Int32) = (1 : Int32))).2 k)
          show own_Goes p.tables e below P (T153.setTop (mkF m 191 #[.val (.int p0), .val (.int p1), .val (.int p2), .val (.int p3), .val (.int p4), .val (.int p5), .val (.int (4 : Int32)), .val (.int mm), .val (.int qq), .val (.ref a108), .val (.int (1 : Int32))] []))
          refine own_Goes.st ?_ (fun _ k => XS.iconst X153.here hx rfl (hb hby at_191) k)
          show own_Goes p.tables e below P (T153.setTop (mkF m 192 #[.val (.int p0), .val (.int p1), .val (.int p2), .val (.int p3), .val (.int p4), .val (.int p5), .val (.int (4 : Int32)), .val (.int mm), .val (.int qq), .val (.ref a108), .val (.int (1 : Int32))] [(.int (1 : Int32))]))
          refine own_Goes.st ?_ (fun _ k => XS.goto X153.here hx rfl (pc0 := 192) (pc' := 196) rfl (hb hby at_192) (by decide) (by decide) k)
          show own_Goes p.tables e below P (T153.setTop (mkF m 196 #[.val (.int p0), .val (.int p1), .val (.int p2), .val (.int p3), .val (.int p4), .val (.int p5), .val (.int (4 : Int32)), .val (.int mm), .val (.int qq), .val (.ref a108), .val (.int (1 : Int32))] [(.int (1 : Int32))]))
          obtain ⟨fs, hr, hrun, hended, hW, hsame⟩ := X153.leave (v := some (.int (1 : Int32))) (fun h => by rw [Bd.returns] at h; cases h)
          exact own_Goes.fin _ _ (retOut X153 hx (t := .boolean) Bd.returns rfl (Or.inl ⟨rfl, Or.inr (Or.inl rfl), _, rfl⟩) (hb hby at_196) hr) (hPP _ _ ⟨hrun, hended, _, _, rfl, (by show Q_law n0 _ _; exact ⟨rfl, N153⟩), ⟨_, rfl⟩, hW, hsame.mono (by decide) (by decide)⟩)
        · skip
          refine own_Goes.st ?_ (fun _ k => XS.icmpNo X145.here hx rfl (hb hby at_145) rfl (feq hx1).1 k)
          show own_Goes p.tables e below P (T145.setTop (mkF m 148 #[.val (.int p0), .val (.int p1), .val (.int p2), .val (.int p3), .val (.int p4), .val (.int p5), .val (.int (4 : Int32)), .val (.int mm), .val (.int qq), .val (.ref a108), .unset] []))
          refine own_Goes.st ?_ (fun _ k => XS.iload X145.here hx rfl (hb hby at_148) rfl k)
          show own_Goes p.tables e below P (T145.setTop (mkF m 150 #[.val (.int p0), .val (.int p1), .val (.int p2), .val (.int p3), .val (.int p4), .val (.int p5), .val (.int (4 : Int32)), .val (.int mm), .val (.int qq), .val (.ref a108), .unset] [(.int (4 : Int32))]))
          refine own_Goes.st ?_ (fun _ k => XS.iconst X145.here hx rfl (hb hby at_150) k)
          show own_Goes p.tables e below P (T145.setTop (mkF m 151 #[.val (.int p0), .val (.int p1), .val (.int p2), .val (.int p3), .val (.int p4), .val (.int p5), .val (.int (4 : Int32)), .val (.int mm), .val (.int qq), .val (.ref a108), .unset] [(.int (3 : Int32)), (.int (4 : Int32))]))
          refine own_Goes.st ?_ (fun _ k => XS.icmpNo X145.here hx rfl (hb hby at_151) rfl (flt (by decide : ¬ ((4 : Int32) < (3 : Int32)))).1 k)
          show own_Goes p.tables e below P (T145.setTop (mkF m 154 #[.val (.int p0), .val (.int p1), .val (.int p2), .val (.int p3), .val (.int p4), .val (.int p5), .val (.int (4 : Int32)), .val (.int mm), .val (.int qq), .val (.ref a108), .unset] []))
          refine own_Goes.st ?_ (fun _ k => XS.iloadN X145.here hx rfl (hb hby at_154) rfl k)
          show own_Goes p.tables e below P (T145.setTop (mkF m 155 #[.val (.int p0), .val (.int p1), .val (.int p2), .val (.int p3), .val (.int p4), .val (.int p5), .val (.int (4 : Int32)), .val (.int mm), .val (.int qq), .val (.ref a108), .unset] [(.int p2)]))
          refine own_Goes.st ?_ (fun _ k => XS.iload X145.here hx rfl (hb hby at_155) rfl k)
          show own_Goes p.tables e below P (T145.setTop (mkF m 157 #[.val (.int p0), .val (.int p1), .val (.int p2), .val (.int p3), .val (.int p4), .val (.int p5), .val (.int (4 : Int32)), .val (.int mm), .val (.int qq), .val (.ref a108), .unset] [(.int qq), (.int p2)]))
          by_cases hx2 : p2 = qq
          · skip
            refine own_Goes.st ?_ (fun _ k => XS.icmpYes X145.here hx rfl (pc0 := 157) (pc' := 172) rfl (hb hby at_157) rfl (teq hx2).1 (by decide) (by decide) k)
            show own_Goes p.tables e below P (T145.setTop (mkF m 172 #[.val (.int p0), .val (.int p1), .val (.int p2), .val (.int p3), .val (.int p4), .val (.int p5), .val (.int (4 : Int32)), .val (.int mm), .val (.int qq), .val (.ref a108), .unset] []))
            refine own_Goes.st ?_ (fun _ k => XS.iconst X145.here hx rfl (hb hby at_172) k)
            show own_Goes p.tables e below P (T145.setTop (mkF m 173 #[.val (.int p0), .val (.int p1), .val (.int p2), .val (.int p3), .val (.int p4), .val (.int p5), .val (.int (4 : Int32)), .val (.int mm), .val (.int qq), .val (.ref a108), .unset] [(.int (1 : Int32))]))
            refine own_Goes.st ?_ (fun _ k => XS.goto X145.here hx rfl (pc0 := 173) (pc' := 177) rfl (hb hby at_173) (by decide) (by decide) k)
            show own_Goes p.tables e below P (T145.setTop (mkF m 177 #[.val (.int p0), .val (.int p1), .val (.int p2), .val (.int p3), .val (.int p4), .val (.int p5), .val (.int (4 : Int32)), .val (.int mm), .val (.int qq), .val (.ref a108), .unset] [(.int (1 : Int32))]))
            refine own_Goes.st ?_ (fun _ k => XS.istore X145.here hx rfl (hb hby at_177) rfl (l' := #[.val (.int p0), .val (.int p1), .val (.int p2), .val (.int p3), .val (.int p4), .val (.int p5), .val (.int (4 : Int32)), .val (.int mm), .val (.int qq), .val (.ref a108), .val (.int (1 : Int32))]) rfl k)
            show own_Goes p.tables e below P (T145.setTop (mkF m 179 #[.val (.int p0), .val (.int p1), .val (.int p2), .val (.int p3), .val (.int p4), .val (.int p5), .val (.int (4 : Int32)), .val (.int mm), .val (.int qq), .val (.ref a108), .val (.int (1 : Int32))] []))
            refine own_Goes.st ?_ (fun _ k => XS.aload X145.here hx rfl (hb hby at_179) rfl rfl k)
            show own_Goes p.tables e below P (T145.setTop (mkF m 181 #[.val (.int p0), .val (.int p1), .val (.int p2), .val (.int p3), .val (.int p4), .val (.int p5), .val (.int (4 : Int32)), .val (.int mm), .val (.int qq), .val (.ref a108), .val (.int (1 : Int32))] [(.ref a108)]))
            refine own_Goes.st ?_ (fun _ k => XS.iload X145.here hx rfl (hb hby at_181) rfl k)
            show own_Goes p.tables e below P (T145.setTop (mkF m 183 #[.val (.int p0), .val (.int p1), .val (.int p2), .val (.int p3), .val (.int p4), .val (.int p5), .val (.int (4 : Int32)), .val (.int mm), .val (.int qq), .val (.ref a108), .val (.int (1 : Int32))] [(.int qq), (.ref a108)]))
            obtain ⟨cq154, kq154, q154a, q154b, q154c⟩ := isOf hZ rfl f146
            obtain ⟨_, _, ⟨T154, L154, k154, n154⟩, -, X154, ⟨Lc154, hQ154, l154, y154, z154⟩, st154⟩ := X145.virtualBack hx (y := (⟨"com/example/taxodelta/taxodelta/taxonomy/IntList", "contains", "(I)Z"⟩ : MethodName)) (z := (⟨"com/example/taxodelta/taxodelta/taxonomy/IntList", "contains", "(I)Z"⟩ : MethodName)) hown (mvT hZ (hw _ (List.mem_of_getElem? (i := 31) rfl))) (mvT hZ (hw _ (List.mem_of_getElem? (i := 32) rfl))) (notFace_of_selects (args := #[]) (mvT hZ (hw _ (List.mem_of_getElem? (i := 34) rfl)))) (mvT hZ (hw _ (List.mem_of_getElem? (i := 34) rfl))) (mvT hZ (hw _ (List.mem_of_getElem? (i := 33) rfl))) (by decide) (backOf (W := 0) (rm_has_4 l Z a0 hw [] a108 qq b2135 k2135 p0 p1 p2 p3 T145.heap n0 Z151 f147 f148 f149) hZ (hw _ (List.mem_of_getElem? (i := 35) rfl)) (hw _ (List.mem_of_getElem? (i := 2) rfl)) (by decide) (by decide)) q154a q154c (g := (mkF m 183 #[.val (.int p0), .val (.int p1), .val (.int p2), .val (.int p3), .val (.int p4), .val (.int p5), .val (.int (4 : Int32)), .val (.int mm), .val (.int qq), .val (.ref a108), .val (.int (1 : Int32))] [(.int qq), (.ref a108)])) rfl (by rw [hml]; rfl) (Steps.refl _) (argsL := [(.int qq)]) (rest := []) (lenOf own_pd__28_I_29_Z rfl) rfl (by show 2 * 0 + _ ≤ _; exact Nat.le_of_eq rfl) (hb hby at_183) (fun _ _ => ⟨rfl, rfl, (by decide : 3 + 0 ≤ _), (by decide : 8 + 0 ≤ _)⟩)
            dsimp only [Pt.U, Pt.locs, Pt.cells, Pt.slots] at X154 l154 y154 z154 st154 hQ154
            subst l154 y154 z154
            obtain ⟨rfl, Nq154, e154⟩ := hQ154
            have N154 := Fr.app N145 Nq154
            refine own_Goes.tr st154 ?_
            show own_Goes p.tables e below P (T154.setTop (mkF m 186 #[.val (.int p0), .val (.int p1), .val (.int p2), .val (.int p3), .val (.int p4), .val (.int p5), .val (.int (4 : Int32)), .val (.int mm), .val (.int qq), .val (.ref a108), .val (.int (1 : Int32))] [(.int (if p0 = qq then 1 else (if p1 = qq then 1 else (if p2 = qq then 1 else (if p3 = qq then 1 else 0)))))]))
            rw [(show (if p0 = qq then 1 else (if p1 = qq then 1 else (if p2 = qq then 1 else (if p3 = qq then 1 else 0)))) = (1 : Int32) by rw [if_neg hx0, if_neg hx1, if_pos hx2])]
            show own_Goes p.tables e below P (T154.setTop (mkF m 186 #[.val (.int p0), .val (.int p1), .val (.int p2), .val (.int p3), .val (.int p4), .val (.int p5), .val (.int (4 : Int32)), .val (.int mm), .val (.int qq), .val (.ref a108), .val (.int (1 : Int32))] [(.int (1 : Int32))]))
            refine own_Goes.st ?_ (fun _ k => XS.iload X154.here hx rfl (hb hby at_186) rfl k)
            show own_Goes p.tables e below P (T154.setTop (mkF m 188 #[.val (.int p0), .val (.int p1), .val (.int p2), .val (.int p3), .val (.int p4), .val (.int p5), .val (.int (4 : Int32)), .val (.int mm), .val (.int qq), .val (.ref a108), .val (.int (1 : Int32))] [(.int (1 : Int32)), (.int (1 : Int32))]))
            refine own_Goes.st ?_ (fun _ k => XS.icmpNo X154.here hx rfl (hb hby at_188) rfl (teq (by decide : (1 : Int32) = (1 : Int32))).2 k)
            show own_Goes p.tables e below P (T154.setTop (mkF m 191 #[.val (.int p0), .val (.int p1), .val (.int p2), .val (.int p3), .val (.int p4), .val (.int p5), .val (.int (4 : Int32)), .val (.int mm), .val (.int qq), .val (.ref a108), .val (.int (1 : Int32))] []))
            refine own_Goes.st ?_ (fun _ k => XS.iconst X154.here hx rfl (hb hby at_191) k)
            show own_Goes p.tables e below P (T154.setTop (mkF m 192 #[.val (.int p0), .val (.int p1), .val (.int p2), .val (.int p3), .val (.int p4), .val (.int p5), .val (.int (4 : Int32)), .val (.int mm), .val (.int qq), .val (.ref a108), .val (.int (1 : Int32))] [(.int (1 : Int32))]))
            refine own_Goes.st ?_ (fun _ k => XS.goto X154.here hx rfl (pc0 := 192) (pc' := 196) rfl (hb hby at_192) (by decide) (by decide) k)
            show own_Goes p.tables e below P (T154.setTop (mkF m 196 #[.val (.int p0), .val (.int p1), .val (.int p2), .val (.int p3), .val (.int p4), .val (.int p5), .val (.int (4 : Int32)), .val (.int mm), .val (.int qq), .val (.ref a108), .val (.int (1 : Int32))] [(.int (1 : Int32))]))
            obtain ⟨fs, hr, hrun, hended, hW, hsame⟩ := X154.leave (v := some (.int (1 : Int32))) (fun h => by rw [Bd.returns] at h; cases h)
            exact own_Goes.fin _ _ (retOut X154 hx (t := .boolean) Bd.returns rfl (Or.inl ⟨rfl, Or.inr (Or.inl rfl), _, rfl⟩) (hb hby at_196) hr) (hPP _ _ ⟨hrun, hended, _, _, rfl, (by show Q_law n0 _ _; exact ⟨rfl, N154⟩), ⟨_, rfl⟩, hW, hsame.mono (by decide) (by decide)⟩)
          · skip
            refine own_Goes.st ?_ (fun _ k => XS.icmpNo X145.here hx rfl (hb hby at_157) rfl (feq hx2).1 k)
            show own_Goes p.tables e below P (T145.setTop (mkF m 160 #[.val (.int p0), .val (.int p1), .val (.int p2), .val (.int p3), .val (.int p4), .val (.int p5), .val (.int (4 : Int32)), .val (.int mm), .val (.int qq), .val (.ref a108), .unset] []))
            refine own_Goes.st ?_ (fun _ k => XS.iload X145.here hx rfl (hb hby at_160) rfl k)
            show own_Goes p.tables e below P (T145.setTop (mkF m 162 #[.val (.int p0), .val (.int p1), .val (.int p2), .val (.int p3), .val (.int p4), .val (.int p5), .val (.int (4 : Int32)), .val (.int mm), .val (.int qq), .val (.ref a108), .unset] [(.int (4 : Int32))]))
            refine own_Goes.st ?_ (fun _ k => XS.iconst X145.here hx rfl (hb hby at_162) k)
            show own_Goes p.tables e below P (T145.setTop (mkF m 163 #[.val (.int p0), .val (.int p1), .val (.int p2), .val (.int p3), .val (.int p4), .val (.int p5), .val (.int (4 : Int32)), .val (.int mm), .val (.int qq), .val (.ref a108), .unset] [(.int (4 : Int32)), (.int (4 : Int32))]))
            refine own_Goes.st ?_ (fun _ k => XS.icmpNo X145.here hx rfl (hb hby at_163) rfl (flt (by decide : ¬ ((4 : Int32) < (4 : Int32)))).1 k)
            show own_Goes p.tables e below P (T145.setTop (mkF m 166 #[.val (.int p0), .val (.int p1), .val (.int p2), .val (.int p3), .val (.int p4), .val (.int p5), .val (.int (4 : Int32)), .val (.int mm), .val (.int qq), .val (.ref a108), .unset] []))
            refine own_Goes.st ?_ (fun _ k => XS.iloadN X145.here hx rfl (hb hby at_166) rfl k)
            show own_Goes p.tables e below P (T145.setTop (mkF m 167 #[.val (.int p0), .val (.int p1), .val (.int p2), .val (.int p3), .val (.int p4), .val (.int p5), .val (.int (4 : Int32)), .val (.int mm), .val (.int qq), .val (.ref a108), .unset] [(.int p3)]))
            refine own_Goes.st ?_ (fun _ k => XS.iload X145.here hx rfl (hb hby at_167) rfl k)
            show own_Goes p.tables e below P (T145.setTop (mkF m 169 #[.val (.int p0), .val (.int p1), .val (.int p2), .val (.int p3), .val (.int p4), .val (.int p5), .val (.int (4 : Int32)), .val (.int mm), .val (.int qq), .val (.ref a108), .unset] [(.int qq), (.int p3)]))
            by_cases hx3 : p3 = qq
            · skip
              refine own_Goes.st ?_ (fun _ k => XS.icmpNo X145.here hx rfl (hb hby at_169) rfl (teq hx3).2 k)
              show own_Goes p.tables e below P (T145.setTop (mkF m 172 #[.val (.int p0), .val (.int p1), .val (.int p2), .val (.int p3), .val (.int p4), .val (.int p5), .val (.int (4 : Int32)), .val (.int mm), .val (.int qq), .val (.ref a108), .unset] []))
              refine own_Goes.st ?_ (fun _ k => XS.iconst X145.here hx rfl (hb hby at_172) k)
              show own_Goes p.tables e below P (T145.setTop (mkF m 173 #[.val (.int p0), .val (.int p1), .val (.int p2), .val (.int p3), .val (.int p4), .val (.int p5), .val (.int (4 : Int32)), .val (.int mm), .val (.int qq), .val (.ref a108), .unset] [(.int (1 : Int32))]))
              refine own_Goes.st ?_ (fun _ k => XS.goto X145.here hx rfl (pc0 := 173) (pc' := 177) rfl (hb hby at_173) (by decide) (by decide) k)
              show own_Goes p.tables e below P (T145.setTop (mkF m 177 #[.val (.int p0), .val (.int p1), .val (.int p2), .val (.int p3), .val (.int p4), .val (.int p5), .val (.int (4 : Int32)), .val (.int mm), .val (.int qq), .val (.ref a108), .unset] [(.int (1 : Int32))]))
              refine own_Goes.st ?_ (fun _ k => XS.istore X145.here hx rfl (hb hby at_177) rfl (l' := #[.val (.int p0), .val (.int p1), .val (.int p2), .val (.int p3), .val (.int p4), .val (.int p5), .val (.int (4 : Int32)), .val (.int mm), .val (.int qq), .val (.ref a108), .val (.int (1 : Int32))]) rfl k)
              show own_Goes p.tables e below P (T145.setTop (mkF m 179 #[.val (.int p0), .val (.int p1), .val (.int p2), .val (.int p3), .val (.int p4), .val (.int p5), .val (.int (4 : Int32)), .val (.int mm), .val (.int qq), .val (.ref a108), .val (.int (1 : Int32))] []))
              refine own_Goes.st ?_ (fun _ k => XS.aload X145.here hx rfl (hb hby at_179) rfl rfl k)
              show own_Goes p.tables e below P (T145.setTop (mkF m 181 #[.val (.int p0), .val (.int p1), .val (.int p2), .val (.int p3), .val (.int p4), .val (.int p5), .val (.int (4 : Int32)), .val (.int mm), .val (.int qq), .val (.ref a108), .val (.int (1 : Int32))] [(.ref a108)]))
              refine own_Goes.st ?_ (fun _ k => XS.iload X145.here hx rfl (hb hby at_181) rfl k)
              show own_Goes p.tables e below P (T145.setTop (mkF m 183 #[.val (.int p0), .val (.int p1), .val (.int p2), .val (.int p3), .val (.int p4), .val (.int p5), .val (.int (4 : Int32)), .val (.int mm), .val (.int qq), .val (.ref a108), .val (.int (1 : Int32))] [(.int qq), (.ref a108)]))
              obtain ⟨cq155, kq155, q155a, q155b, q155c⟩ := isOf hZ rfl f146
              obtain ⟨_, _, ⟨T155, L155, k155, n155⟩, -, X155, ⟨Lc155, hQ155, l155, y155, z155⟩, st155⟩ := X145.virtualBack hx (y := (⟨"com/example/taxodelta/taxodelta/taxonomy/IntList", "contains", "(I)Z"⟩ : MethodName)) (z := (⟨"com/example/taxodelta/taxodelta/taxonomy/IntList", "contains", "(I)Z"⟩ : MethodName)) hown (mvT hZ (hw _ (List.mem_of_getElem? (i := 31) rfl))) (mvT hZ (hw _ (List.mem_of_getElem? (i := 32) rfl))) (notFace_of_selects (args := #[]) (mvT hZ (hw _ (List.mem_of_getElem? (i := 34) rfl)))) (mvT hZ (hw _ (List.mem_of_getElem? (i := 34) rfl))) (mvT hZ (hw _ (List.mem_of_getElem? (i := 33) rfl))) (by decide) (backOf (W := 0) (rm_has_4 l Z a0 hw [] a108 qq b2135 k2135 p0 p1 p2 p3 T145.heap n0 Z151 f147 f148 f149) hZ (hw _ (List.mem_of_getElem? (i := 35) rfl)) (hw _ (List.mem_of_getElem? (i := 2) rfl)) (by decide) (by decide)) q155a q155c (g := (mkF m 183 #[.val (.int p0), .val (.int p1), .val (.int p2), .val (.int p3), .val (.int p4), .val (.int p5), .val (.int (4 : Int32)), .val (.int mm), .val (.int qq), .val (.ref a108), .val (.int (1 : Int32))] [(.int qq), (.ref a108)])) rfl (by rw [hml]; rfl) (Steps.refl _) (argsL := [(.int qq)]) (rest := []) (lenOf own_pd__28_I_29_Z rfl) rfl (by show 2 * 0 + _ ≤ _; exact Nat.le_of_eq rfl) (hb hby at_183) (fun _ _ => ⟨rfl, rfl, (by decide : 3 + 0 ≤ _), (by decide : 8 + 0 ≤ _)⟩)
              dsimp only [Pt.U, Pt.locs, Pt.cells, Pt.slots] at X155 l155 y155 z155 st155 hQ155
              subst l155 y155 z155
              obtain ⟨rfl, Nq155, e155⟩ := hQ155
              have N155 := Fr.app N145 Nq155
              refine own_Goes.tr st155 ?_
              show own_Goes p.tables e below P (T155.setTop (mkF m 186 #[.val (.int p0), .val (.int p1), .val (.int p2), .val (.int p3), .val (.int p4), .val (.int p5), .val (.int (4 : Int32)), .val (.int mm), .val (.int qq), .val (.ref a108), .val (.int (1 : Int32))] [(.int (if p0 = qq then 1 else (if p1 = qq then 1 else (if p2 = qq then 1 else (if p3 = qq then 1 else 0)))))]))
              rw [(show (if p0 = qq then 1 else (if p1 = qq then 1 else (if p2 = qq then 1 else (if p3 = qq then 1 else 0)))) = (1 : Int32) by rw [if_neg hx0, if_neg hx1, if_neg hx2, if_pos hx3])]
              show own_Goes p.tables e below P (T155.setTop (mkF m 186 #[.val (.int p0), .val (.int p1), .val (.int p2), .val (.int p3), .val (.int p4), .val (.int p5), .val (.int (4 : Int32)), .val (.int mm), .val (.int qq), .val (.ref a108), .val (.int (1 : Int32))] [(.int (1 : Int32))]))
              refine own_Goes.st ?_ (fun _ k => XS.iload X155.here hx rfl (hb hby at_186) rfl k)
              show own_Goes p.tables e below P (T155.setTop (mkF m 188 #[.val (.int p0), .val (.int p1), .val (.int p2), .val (.int p3), .val (.int p4), .val (.int p5), .val (.int (4 : Int32)), .val (.int mm), .val (.int qq), .val (.ref a108), .val (.int (1 : Int32))] [(.int (1 : Int32)), (.int (1 : Int32))]))
              refine own_Goes.st ?_ (fun _ k => XS.icmpNo X155.here hx rfl (hb hby at_188) rfl (teq (by decide : (1 : Int32) = (1 : Int32))).2 k)
              show own_Goes p.tables e below P (T155.setTop (mkF m 191 #[.val (.int p0), .val (.int p1), .val (.int p2), .val (.int p3), .val (.int p4), .val (.int p5), .val (.int (4 : Int32)), .val (.int mm), .val (.int qq), .val (.ref a108), .val (.int (1 : Int32))] []))
              refine own_Goes.st ?_ (fun _ k => XS.iconst X155.here hx rfl (hb hby at_191) k)
              show own_Goes p.tables e below P (T155.setTop (mkF m 192 #[.val (.int p0), .val (.int p1), .val (.int p2), .val (.int p3), .val (.int p4), .val (.int p5), .val (.int (4 : Int32)), .val (.int mm), .val (.int qq), .val (.ref a108), .val (.int (1 : Int32))] [(.int (1 : Int32))]))
              refine own_Goes.st ?_ (fun _ k => XS.goto X155.here hx rfl (pc0 := 192) (pc' := 196) rfl (hb hby at_192) (by decide) (by decide) k)
              show own_Goes p.tables e below P (T155.setTop (mkF m 196 #[.val (.int p0), .val (.int p1), .val (.int p2), .val (.int p3), .val (.int p4), .val (.int p5), .val (.int (4 : Int32)), .val (.int mm), .val (.int qq), .val (.ref a108), .val (.int (1 : Int32))] [(.int (1 : Int32))]))
              obtain ⟨fs, hr, hrun, hended, hW, hsame⟩ := X155.leave (v := some (.int (1 : Int32))) (fun h => by rw [Bd.returns] at h; cases h)
              exact own_Goes.fin _ _ (retOut X155 hx (t := .boolean) Bd.returns rfl (Or.inl ⟨rfl, Or.inr (Or.inl rfl), _, rfl⟩) (hb hby at_196) hr) (hPP _ _ ⟨hrun, hended, _, _, rfl, (by show Q_law n0 _ _; exact ⟨rfl, N155⟩), ⟨_, rfl⟩, hW, hsame.mono (by decide) (by decide)⟩)
            · skip
              refine own_Goes.st ?_ (fun _ k => XS.icmpYes X145.here hx rfl (pc0 := 169) (pc' := 176) rfl (hb hby at_169) rfl (feq hx3).2 (by decide) (by decide) k)
              show own_Goes p.tables e below P (T145.setTop (mkF m 176 #[.val (.int p0), .val (.int p1), .val (.int p2), .val (.int p3), .val (.int p4), .val (.int p5), .val (.int (4 : Int32)), .val (.int mm), .val (.int qq), .val (.ref a108), .unset] []))
              refine own_Goes.st ?_ (fun _ k => XS.iconst X145.here hx rfl (hb hby at_176) k)
              show own_Goes p.tables e below P (T145.setTop (mkF m 177 #[.val (.int p0), .val (.int p1), .val (.int p2), .val (.int p3), .val (.int p4), .val (.int p5), .val (.int (4 : Int32)), .val (.int mm), .val (.int qq), .val (.ref a108), .unset] [(.int (0 : Int32))]))
              refine own_Goes.st ?_ (fun _ k => XS.istore X145.here hx rfl (hb hby at_177) rfl (l' := #[.val (.int p0), .val (.int p1), .val (.int p2), .val (.int p3), .val (.int p4), .val (.int p5), .val (.int (4 : Int32)), .val (.int mm), .val (.int qq), .val (.ref a108), .val (.int (0 : Int32))]) rfl k)
              show own_Goes p.tables e below P (T145.setTop (mkF m 179 #[.val (.int p0), .val (.int p1), .val (.int p2), .val (.int p3), .val (.int p4), .val (.int p5), .val (.int (4 : Int32)), .val (.int mm), .val (.int qq), .val (.ref a108), .val (.int (0 : Int32))] []))
              refine own_Goes.st ?_ (fun _ k => XS.aload X145.here hx rfl (hb hby at_179) rfl rfl k)
              show own_Goes p.tables e below P (T145.setTop (mkF m 181 #[.val (.int p0), .val (.int p1), .val (.int p2), .val (.int p3), .val (.int p4), .val (.int p5), .val (.int (4 : Int32)), .val (.int mm), .val (.int qq), .val (.ref a108), .val (.int (0 : Int32))] [(.ref a108)]))
              refine own_Goes.st ?_ (fun _ k => XS.iload X145.here hx rfl (hb hby at_181) rfl k)
              show own_Goes p.tables e below P (T145.setTop (mkF m 183 #[.val (.int p0), .val (.int p1), .val (.int p2), .val (.int p3), .val (.int p4), .val (.int p5), .val (.int (4 : Int32)), .val (.int mm), .val (.int qq), .val (.ref a108), .val (.int (0 : Int32))] [(.int qq), (.ref a108)]))
              obtain ⟨cq156, kq156, q156a, q156b, q156c⟩ := isOf hZ rfl f146
              obtain ⟨_, _, ⟨T156, L156, k156, n156⟩, -, X156, ⟨Lc156, hQ156, l156, y156, z156⟩, st156⟩ := X145.virtualBack hx (y := (⟨"com/example/taxodelta/taxodelta/taxonomy/IntList", "contains", "(I)Z"⟩ : MethodName)) (z := (⟨"com/example/taxodelta/taxodelta/taxonomy/IntList", "contains", "(I)Z"⟩ : MethodName)) hown (mvT hZ (hw _ (List.mem_of_getElem? (i := 31) rfl))) (mvT hZ (hw _ (List.mem_of_getElem? (i := 32) rfl))) (notFace_of_selects (args := #[]) (mvT hZ (hw _ (List.mem_of_getElem? (i := 34) rfl)))) (mvT hZ (hw _ (List.mem_of_getElem? (i := 34) rfl))) (mvT hZ (hw _ (List.mem_of_getElem? (i := 33) rfl))) (by decide) (backOf (W := 0) (rm_has_4 l Z a0 hw [] a108 qq b2135 k2135 p0 p1 p2 p3 T145.heap n0 Z151 f147 f148 f149) hZ (hw _ (List.mem_of_getElem? (i := 35) rfl)) (hw _ (List.mem_of_getElem? (i := 2) rfl)) (by decide) (by decide)) q156a q156c (g := (mkF m 183 #[.val (.int p0), .val (.int p1), .val (.int p2), .val (.int p3), .val (.int p4), .val (.int p5), .val (.int (4 : Int32)), .val (.int mm), .val (.int qq), .val (.ref a108), .val (.int (0 : Int32))] [(.int qq), (.ref a108)])) rfl (by rw [hml]; rfl) (Steps.refl _) (argsL := [(.int qq)]) (rest := []) (lenOf own_pd__28_I_29_Z rfl) rfl (by show 2 * 0 + _ ≤ _; exact Nat.le_of_eq rfl) (hb hby at_183) (fun _ _ => ⟨rfl, rfl, (by decide : 3 + 0 ≤ _), (by decide : 8 + 0 ≤ _)⟩)
              dsimp only [Pt.U, Pt.locs, Pt.cells, Pt.slots] at X156 l156 y156 z156 st156 hQ156
              subst l156 y156 z156
              obtain ⟨rfl, Nq156, e156⟩ := hQ156
              have N156 := Fr.app N145 Nq156
              refine own_Goes.tr st156 ?_
              show own_Goes p.tables e below P (T156.setTop (mkF m 186 #[.val (.int p0), .val (.int p1), .val (.int p2), .val (.int p3), .val (.int p4), .val (.int p5), .val (.int (4 : Int32)), .val (.int mm), .val (.int qq), .val (.ref a108), .val (.int (0 : Int32))] [(.int (if p0 = qq then 1 else (if p1 = qq then 1 else (if p2 = qq then 1 else (if p3 = qq then 1 else 0)))))]))
              rw [(show (if p0 = qq then 1 else (if p1 = qq then 1 else (if p2 = qq then 1 else (if p3 = qq then 1 else 0)))) = (0 : Int32) by rw [if_neg hx0, if_neg hx1, if_neg hx2, if_neg hx3])]
              show own_Goes p.tables e below P (T156.setTop (mkF m 186 #[.val (.int p0), .val (.int p1), .val (.int p2), .val (.int p3), .val (.int p4), .val (.int p5), .val (.int (4 : Int32)), .val (.int mm), .val (.int qq), .val (.ref a108), .val (.int (0 : Int32))] [(.int (0 : Int32))]))
              refine own_Goes.st ?_ (fun _ k => XS.iload X156.here hx rfl (hb hby at_186) rfl k)
              show own_Goes p.tables e below P (T156.setTop (mkF m 188 #[.val (.int p0), .val (.int p1), .val (.int p2), .val (.int p3), .val (.int p4), .val (.int p5), .val (.int (4 : Int32)), .val (.int mm), .val (.int qq), .val (.ref a108), .val (.int (0 : Int32))] [(.int (0 : Int32)), (.int (0 : Int32))]))
              refine own_Goes.st ?_ (fun _ k => XS.icmpNo X156.here hx rfl (hb hby at_188) rfl (teq (by decide : (0 : Int32) = (0 : Int32))).2 k)
              show own_Goes p.tables e below P (T156.setTop (mkF m 191 #[.val (.int p0), .val (.int p1), .val (.int p2), .val (.int p3), .val (.int p4), .val (.int p5), .val (.int (4 : Int32)), .val (.int mm), .val (.int qq), .val (.ref a108), .val (.int (0 : Int32))] []))
              refine own_Goes.st ?_ (fun _ k => XS.iconst X156.here hx rfl (hb hby at_191) k)
              show own_Goes p.tables e below P (T156.setTop (mkF m 192 #[.val (.int p0), .val (.int p1), .val (.int p2), .val (.int p3), .val (.int p4), .val (.int p5), .val (.int (4 : Int32)), .val (.int mm), .val (.int qq), .val (.ref a108), .val (.int (0 : Int32))] [(.int (1 : Int32))]))
              refine own_Goes.st ?_ (fun _ k => XS.goto X156.here hx rfl (pc0 := 192) (pc' := 196) rfl (hb hby at_192) (by decide) (by decide) k)
              show own_Goes p.tables e below P (T156.setTop (mkF m 196 #[.val (.int p0), .val (.int p1), .val (.int p2), .val (.int p3), .val (.int p4), .val (.int p5), .val (.int (4 : Int32)), .val (.int mm), .val (.int qq), .val (.ref a108), .val (.int (0 : Int32))] [(.int (1 : Int32))]))
              obtain ⟨fs, hr, hrun, hended, hW, hsame⟩ := X156.leave (v := some (.int (1 : Int32))) (fun h => by rw [Bd.returns] at h; cases h)
              exact own_Goes.fin _ _ (retOut X156 hx (t := .boolean) Bd.returns rfl (Or.inl ⟨rfl, Or.inr (Or.inl rfl), _, rfl⟩) (hb hby at_196) hr) (hPP _ _ ⟨hrun, hended, _, _, rfl, (by show Q_law n0 _ _; exact ⟨rfl, N156⟩), ⟨_, rfl⟩, hW, hsame.mono (by decide) (by decide)⟩)
  refine own_Goes.st ?_ (fun _ k => XS.iload X0.here hx rfl (hb hby at_22) rfl k)
  show own_Goes p.tables e below P (s₁.setTop (mkF m 24 #[.val (.int p0), .val (.int p1), .val (.int p2), .val (.int p3), .val (.int p4), .val (.int p5), .val (.int kk), .val (.int mm), .val (.int p4), .unset, .unset] [(.int mm)]))
  refine own_Goes.st ?_ (fun _ k => XS.iconst X0.here hx rfl (hb hby at_24) k)
  show own_Goes p.tables e below P (s₁.setTop (mkF m 25 #[.val (.int p0), .val (.int p1), .val (.int p2), .val (.int p3), .val (.int p4), .val (.int p5), .val (.int kk), .val (.int mm), .val (.int p4), .unset, .unset] [(.int (1 : Int32)), (.int mm)]))
  by_cases hm25 : mm = (1 : Int32)
  · skip
    refine own_Goes.st ?_ (fun _ k => XS.icmpNo X0.here hx rfl (hb hby at_25) rfl (teq hm25).2 k)
    show own_Goes p.tables e below P (s₁.setTop (mkF m 28 #[.val (.int p0), .val (.int p1), .val (.int p2), .val (.int p3), .val (.int p4), .val (.int p5), .val (.int kk), .val (.int mm), .val (.int p4), .unset, .unset] []))
    refine own_Goes.st ?_ (fun _ k => XS.iloadN X0.here hx rfl (hb hby at_28) rfl k)
    show own_Goes p.tables e below P (s₁.setTop (mkF m 29 #[.val (.int p0), .val (.int p1), .val (.int p2), .val (.int p3), .val (.int p4), .val (.int p5), .val (.int kk), .val (.int mm), .val (.int p4), .unset, .unset] [(.int p0)]))
    refine own_Goes.st ?_ (fun _ k => XS.istore X0.here hx rfl (hb hby at_29) rfl (l' := #[.val (.int p0), .val (.int p1), .val (.int p2), .val (.int p3), .val (.int p4), .val (.int p5), .val (.int kk), .val (.int mm), .val (.int p0), .unset, .unset]) rfl k)
    show own_Goes p.tables e below P (s₁.setTop (mkF m 31 #[.val (.int p0), .val (.int p1), .val (.int p2), .val (.int p3), .val (.int p4), .val (.int p5), .val (.int kk), .val (.int mm), .val (.int p0), .unset, .unset] []))
    refine own_Goes.st ?_ (fun _ k => XS.goto X0.here hx rfl (pc0 := 31) (pc' := 67) rfl (hb hby at_31) (by decide) (by decide) k)
    show own_Goes p.tables e below P (s₁.setTop (mkF m 67 #[.val (.int p0), .val (.int p1), .val (.int p2), .val (.int p3), .val (.int p4), .val (.int p5), .val (.int kk), .val (.int mm), .val (.int p0), .unset, .unset] []))
    exact (J67 _)
  · skip
    refine own_Goes.st ?_ (fun _ k => XS.icmpYes X0.here hx rfl (pc0 := 25) (pc' := 34) rfl (hb hby at_25) rfl (feq hm25).2 (by decide) (by decide) k)
    show own_Goes p.tables e below P (s₁.setTop (mkF m 34 #[.val (.int p0), .val (.int p1), .val (.int p2), .val (.int p3), .val (.int p4), .val (.int p5), .val (.int kk), .val (.int mm), .val (.int p4), .unset, .unset] []))
    refine own_Goes.st ?_ (fun _ k => XS.iload X0.here hx rfl (hb hby at_34) rfl k)
    show own_Goes p.tables e below P (s₁.setTop (mkF m 36 #[.val (.int p0), .val (.int p1), .val (.int p2), .val (.int p3), .val (.int p4), .val (.int p5), .val (.int kk), .val (.int mm), .val (.int p4), .unset, .unset] [(.int mm)]))
    refine own_Goes.st ?_ (fun _ k => XS.iconst X0.here hx rfl (hb hby at_36) k)
    show own_Goes p.tables e below P (s₁.setTop (mkF m 37 #[.val (.int p0), .val (.int p1), .val (.int p2), .val (.int p3), .val (.int p4), .val (.int p5), .val (.int kk), .val (.int mm), .val (.int p4), .unset, .unset] [(.int (2 : Int32)), (.int mm)]))
    by_cases hm37 : mm = (2 : Int32)
    · skip
      refine own_Goes.st ?_ (fun _ k => XS.icmpNo X0.here hx rfl (hb hby at_37) rfl (teq hm37).2 k)
      show own_Goes p.tables e below P (s₁.setTop (mkF m 40 #[.val (.int p0), .val (.int p1), .val (.int p2), .val (.int p3), .val (.int p4), .val (.int p5), .val (.int kk), .val (.int mm), .val (.int p4), .unset, .unset] []))
      refine own_Goes.st ?_ (fun _ k => XS.iloadN X0.here hx rfl (hb hby at_40) rfl k)
      show own_Goes p.tables e below P (s₁.setTop (mkF m 41 #[.val (.int p0), .val (.int p1), .val (.int p2), .val (.int p3), .val (.int p4), .val (.int p5), .val (.int kk), .val (.int mm), .val (.int p4), .unset, .unset] [(.int p1)]))
      refine own_Goes.st ?_ (fun _ k => XS.istore X0.here hx rfl (hb hby at_41) rfl (l' := #[.val (.int p0), .val (.int p1), .val (.int p2), .val (.int p3), .val (.int p4), .val (.int p5), .val (.int kk), .val (.int mm), .val (.int p1), .unset, .unset]) rfl k)
      show own_Goes p.tables e below P (s₁.setTop (mkF m 43 #[.val (.int p0), .val (.int p1), .val (.int p2), .val (.int p3), .val (.int p4), .val (.int p5), .val (.int kk), .val (.int mm), .val (.int p1), .unset, .unset] []))
      refine own_Goes.st ?_ (fun _ k => XS.goto X0.here hx rfl (pc0 := 43) (pc' := 67) rfl (hb hby at_43) (by decide) (by decide) k)
      show own_Goes p.tables e below P (s₁.setTop (mkF m 67 #[.val (.int p0), .val (.int p1), .val (.int p2), .val (.int p3), .val (.int p4), .val (.int p5), .val (.int kk), .val (.int mm), .val (.int p1), .unset, .unset] []))
      exact (J67 _)
    · skip
      refine own_Goes.st ?_ (fun _ k => XS.icmpYes X0.here hx rfl (pc0 := 37) (pc' := 46) rfl (hb hby at_37) rfl (feq hm37).2 (by decide) (by decide) k)
      show own_Goes p.tables e below P (s₁.setTop (mkF m 46 #[.val (.int p0), .val (.int p1), .val (.int p2), .val (.int p3), .val (.int p4), .val (.int p5), .val (.int kk), .val (.int mm), .val (.int p4), .unset, .unset] []))
      refine own_Goes.st ?_ (fun _ k => XS.iload X0.here hx rfl (hb hby at_46) rfl k)
      show own_Goes p.tables e below P (s₁.setTop (mkF m 48 #[.val (.int p0), .val (.int p1), .val (.int p2), .val (.int p3), .val (.int p4), .val (.int p5), .val (.int kk), .val (.int mm), .val (.int p4), .unset, .unset] [(.int mm)]))
      refine own_Goes.st ?_ (fun _ k => XS.iconst X0.here hx rfl (hb hby at_48) k)
      show own_Goes p.tables e below P (s₁.setTop (mkF m 49 #[.val (.int p0), .val (.int p1), .val (.int p2), .val (.int p3), .val (.int p4), .val (.int p5), .val (.int kk), .val (.int mm), .val (.int p4), .unset, .unset] [(.int (3 : Int32)), (.int mm)]))
      by_cases hm49 : mm = (3 : Int32)
      · skip
        refine own_Goes.st ?_ (fun _ k => XS.icmpNo X0.here hx rfl (hb hby at_49) rfl (teq hm49).2 k)
        show own_Goes p.tables e below P (s₁.setTop (mkF m 52 #[.val (.int p0), .val (.int p1), .val (.int p2), .val (.int p3), .val (.int p4), .val (.int p5), .val (.int kk), .val (.int mm), .val (.int p4), .unset, .unset] []))
        refine own_Goes.st ?_ (fun _ k => XS.iloadN X0.here hx rfl (hb hby at_52) rfl k)
        show own_Goes p.tables e below P (s₁.setTop (mkF m 53 #[.val (.int p0), .val (.int p1), .val (.int p2), .val (.int p3), .val (.int p4), .val (.int p5), .val (.int kk), .val (.int mm), .val (.int p4), .unset, .unset] [(.int p2)]))
        refine own_Goes.st ?_ (fun _ k => XS.istore X0.here hx rfl (hb hby at_53) rfl (l' := #[.val (.int p0), .val (.int p1), .val (.int p2), .val (.int p3), .val (.int p4), .val (.int p5), .val (.int kk), .val (.int mm), .val (.int p2), .unset, .unset]) rfl k)
        show own_Goes p.tables e below P (s₁.setTop (mkF m 55 #[.val (.int p0), .val (.int p1), .val (.int p2), .val (.int p3), .val (.int p4), .val (.int p5), .val (.int kk), .val (.int mm), .val (.int p2), .unset, .unset] []))
        refine own_Goes.st ?_ (fun _ k => XS.goto X0.here hx rfl (pc0 := 55) (pc' := 67) rfl (hb hby at_55) (by decide) (by decide) k)
        show own_Goes p.tables e below P (s₁.setTop (mkF m 67 #[.val (.int p0), .val (.int p1), .val (.int p2), .val (.int p3), .val (.int p4), .val (.int p5), .val (.int kk), .val (.int mm), .val (.int p2), .unset, .unset] []))
        exact (J67 _)
      · skip
        refine own_Goes.st ?_ (fun _ k => XS.icmpYes X0.here hx rfl (pc0 := 49) (pc' := 58) rfl (hb hby at_49) rfl (feq hm49).2 (by decide) (by decide) k)
        show own_Goes p.tables e below P (s₁.setTop (mkF m 58 #[.val (.int p0), .val (.int p1), .val (.int p2), .val (.int p3), .val (.int p4), .val (.int p5), .val (.int kk), .val (.int mm), .val (.int p4), .unset, .unset] []))
        refine own_Goes.st ?_ (fun _ k => XS.iload X0.here hx rfl (hb hby at_58) rfl k)
        show own_Goes p.tables e below P (s₁.setTop (mkF m 60 #[.val (.int p0), .val (.int p1), .val (.int p2), .val (.int p3), .val (.int p4), .val (.int p5), .val (.int kk), .val (.int mm), .val (.int p4), .unset, .unset] [(.int mm)]))
        refine own_Goes.st ?_ (fun _ k => XS.iconst X0.here hx rfl (hb hby at_60) k)
        show own_Goes p.tables e below P (s₁.setTop (mkF m 61 #[.val (.int p0), .val (.int p1), .val (.int p2), .val (.int p3), .val (.int p4), .val (.int p5), .val (.int kk), .val (.int mm), .val (.int p4), .unset, .unset] [(.int (4 : Int32)), (.int mm)]))
        by_cases hm61 : mm = (4 : Int32)
        · skip
          refine own_Goes.st ?_ (fun _ k => XS.icmpNo X0.here hx rfl (hb hby at_61) rfl (teq hm61).2 k)
          show own_Goes p.tables e below P (s₁.setTop (mkF m 64 #[.val (.int p0), .val (.int p1), .val (.int p2), .val (.int p3), .val (.int p4), .val (.int p5), .val (.int kk), .val (.int mm), .val (.int p4), .unset, .unset] []))
          refine own_Goes.st ?_ (fun _ k => XS.iloadN X0.here hx rfl (hb hby at_64) rfl k)
          show own_Goes p.tables e below P (s₁.setTop (mkF m 65 #[.val (.int p0), .val (.int p1), .val (.int p2), .val (.int p3), .val (.int p4), .val (.int p5), .val (.int kk), .val (.int mm), .val (.int p4), .unset, .unset] [(.int p3)]))
          refine own_Goes.st ?_ (fun _ k => XS.istore X0.here hx rfl (hb hby at_65) rfl (l' := #[.val (.int p0), .val (.int p1), .val (.int p2), .val (.int p3), .val (.int p4), .val (.int p5), .val (.int kk), .val (.int mm), .val (.int p3), .unset, .unset]) rfl k)
          show own_Goes p.tables e below P (s₁.setTop (mkF m 67 #[.val (.int p0), .val (.int p1), .val (.int p2), .val (.int p3), .val (.int p4), .val (.int p5), .val (.int kk), .val (.int mm), .val (.int p3), .unset, .unset] []))
          exact (J67 _)
        · skip
          refine own_Goes.st ?_ (fun _ k => XS.icmpYes X0.here hx rfl (pc0 := 61) (pc' := 67) rfl (hb hby at_61) rfl (feq hm61).2 (by decide) (by decide) k)
          show own_Goes p.tables e below P (s₁.setTop (mkF m 67 #[.val (.int p0), .val (.int p1), .val (.int p2), .val (.int p3), .val (.int p4), .val (.int p5), .val (.int kk), .val (.int mm), .val (.int p4), .unset, .unset] []))
          exact (J67 _)
set_option maxRecDepth 65536 in
set_option maxHeartbeats 40000000 in
theorem comes_1 {Post : Tables → Env → Array Value → State → Outcome → State → Prop} (hpost : ∀ tb e args s v u, (limb_1_1.after args s (.returned v) u = true ∧ limb_1_2.after args s (.returned v) u = true ∧ True) → FrameEnd s (.returned v) u (Jvm.fieldLocs frame_1_writes args s ++ Jvm.arrayLocs frame_1_arrays args s ++ Jvm.staticLocs frame_1_statics s) 16 128 → Post tb e args s (.returned v) u) :
    ArmFor flags0 classFile x code maxLocals ret World_1 tables_1 room_1 Calls_1 rest_1 Pre_1 Post := by
  intro l hfl _ _ p e ha hc hk s m args below hf hA hF happ hP
  obtain ⟨hcalls, hrest, hpre⟩ := hP
  obtain ⟨-, -, -, hnamed, -, -, -, hat⟩ := (Spec.applies_iff hf).mp happ
  obtain ⟨hg, hn⟩ := and_e (Cond.before_iff.mp (show (Jvm.Cond.and given_1 narrow_1).before args s = true from hpre))
  obtain ⟨hg0, hg1⟩ := and_e hg
  obtain ⟨hv0, hr0⟩ := and_e hg1
  obtain ⟨hv1, hr1⟩ := and_e hr0
  obtain ⟨hv2, hr2⟩ := and_e hr1
  obtain ⟨hv3, hr3⟩ := and_e hr2
  obtain ⟨hv4, hr4⟩ := and_e hr3
  obtain ⟨w0, w1, w2, w3, w4, w5, rfl⟩ : ∃ w0 w1 w2 w3 w4 w5 : Value, args = #[w0, w1, w2, w3, w4, w5] := by
    have hs : args.size = 6 := by simpa [Cond.value, given_1] using hg0
    obtain ⟨L⟩ := args
    match L, hs with
    | [w0, w1, w2, w3, w4, w5], _ => exact ⟨w0, w1, w2, w3, w4, w5, rfl⟩
  have hw := fun d (hd : d ∈ tables_1) => atoms_spec (ws := Jvm.Cond.code x code maxLocals ret :: tables_1) hat d (List.mem_cons_of_mem _ hd)
  have hfit : Fit s := fun {y c} hc i hi => by
    obtain ⟨ha, rfl⟩ := Array.getElem?_eq_some_iff.mp hc
    have q := List.all_eq_true.mp ((Array.all_eq_true_iff_forall_mem.mp hF) _ (Array.getElem_mem ha)) i (List.mem_range.mpr hi)
    simpa [Array.getElem?_eq_getElem hi] using q
  obtain ⟨i0, ei0⟩ := is_v hv0
  obtain rfl : w0 = (.int i0) := Option.some.inj ei0
  obtain ⟨i1, ei1⟩ := is_v hv1
  obtain rfl : w1 = (.int i1) := Option.some.inj ei1
  obtain ⟨i2, ei2⟩ := is_v hv2
  obtain rfl : w2 = (.int i2) := Option.some.inj ei2
  obtain ⟨i3, ei3⟩ := is_v hv3
  obtain rfl : w3 = (.int i3) := Option.some.inj ei3
  obtain ⟨i4, ei4⟩ := is_v hv4
  obtain rfl : w4 = (.int i4) := Option.some.inj ei4
  obtain ⟨i5, ei5⟩ := is_v hr4
  obtain rfl : w5 = (.int i5) := Option.some.inj ei5
  obtain ⟨n, o, h1, h2, h3, _, L, rfl, ⟨rfl, N⟩, hq⟩ := rm_law l s _ hw tables_1 i0 i1 i2 i3 i4 i5  s.heap s.heap.size (Nat.le_refl _)  p e ha hc hk s m _ below hf ((Spec.applies_iff_loose hf).mp happ).1 ⟨rfl, State.Warmed39.refl s, rfl⟩ trivial
  refine ⟨n, _, h1, h2, h3, hpost _ _ _ _ _ _ ⟨Cond.after_iff.mpr rfl, Cond.after_iff.mpr (eq_i res_at (Term.int_eval (1)) rfl), trivial⟩ ⟨hq.1, hq.2.1, (hq.2.2.sift fun y hy => Or.inr (N y hy)).mono (by decide) (by decide)⟩⟩
theorem main_1_1 : Claimed_1_1 := comes_1 fun _ _ _ _ _ _ h hF => ⟨h.1, hF⟩
theorem main_1_2 : Claimed_1_2 := comes_1 fun _ _ _ _ _ _ h hF => ⟨h.2.1, hF⟩
end Jvm.Pilot.@@N@@
namespace Jvm.Pilot.@@N@@
open Jvm Jvm.ClassFile Sem Op Lib Jvm.Free Jvm.Stand Jvm.Pilot.@@N@@.Jvm.D
/-! MADE BY PROGRAM (witnessworld.py) out of the Statement's table words and the real class files: 12 classes; the members and pool entries that the words name. The judged class is class 1, her method 1. -/
namespace start1
open Jvm.ClassFile
def u (s : String) : CpInfo := .utf8 (stringToUtf16 s)
/-- a pool by its gaps: so many unusable entries, then the entry; so many at the end -/
def gap : Nat → List CpInfo → List CpInfo
  | 0, r => r
  | n + 1, r => .unusable :: gap n r
def poolList (es : List (Nat × CpInfo)) (last : Nat) : List CpInfo := es.foldr (fun e r => gap e.1 (e.2 :: r)) (gap last [])
def pool (es : List (Nat × CpInfo)) (last : Nat) : Array CpInfo := ⟨poolList es last⟩
def fileOf (pool : Array CpInfo) (this : Nat) (attrs : Array Attribute := #[]) (ms : Array MethodInfo := #[]) (fl : Nat := 33) (sup : Nat := 0) (ifs : Array Nat := #[]) (fds : Array FieldInfo := #[]) : ClassFile where
  minorVersion := 0
  majorVersion := 65
  constantPool := pool
  accessFlags := fl
  thisClass := this
  superClass := sup
  interfaces := ifs
  fields := fds
  methods := ms
  attributes := attrs
def plain (name : String) (sup : Option ClassId) : Class where
  name := name
  kind := .ordinary
  loader := none
  accessFlags := 33
  super := sup
  interfaces := #[]
  cf := none
  fields := #[]
  methods := #[]
  instanceTypes := #[]
  staticTypes := #[]
  resolved := #[]
  callSites := []
  init := .initialized
  statics := none
  mirror := none

def pool0 : Array CpInfo := pool [(5, u "<init>"), (0, u "()V"), (1, .class_ 10), (1, u "java/lang/Object")] 113

def k0c0 : Code := { maxStack := 0, maxLocals := 1, code := object_method_1_code, exceptionTable := #[], attributes := #[] }
def k0m0 : Method := { name := "<init>", desc := "()V", sig := { parameters := [], returnType := none }, accessFlags := 1, code := some k0c0 }
/-- java/lang/Object -/
def k0 : Class := { plain "java/lang/Object" none with
  accessFlags := 33
  interfaces := #[]
  cf := some (fileOf pool0 8 #[] #[{ accessFlags := 1, nameIndex := 5, descriptorIndex := 6, attributes := #[] }] 33 0 #[] #[])
  fields := #[]
  methods := #[k0m0]
  instanceTypes := #[]
  staticTypes := #[]
  resolved := Array.replicate 124 none
  statics := none }

def pool1 : Array CpInfo := pool [(2, .class_ 4), (0, .nameAndType 5 6), (0, u "java/lang/Object"), (0, u "<init>"), (0, u "()V"), (0, .class_ 8), (0, u "com/example/taxodelta/taxodelta/taxonomy/IntList"), (0, .methodref 7 3), (0, .methodref 7 11), (0, .nameAndType 12 13), (0, u "add"), (0, u "(I)V"), (0, .methodref 7 15), (0, .nameAndType 16 17), (0, u "contains"), (0, u "(I)Z"), (0, .class_ 19), (0, u "com/example/taxodelta/taxodelta/taxonomy/IntListContainsPinLaw"), (2, u "law"), (0, u "(IIIIII)Z")] 3

def k1m0 : Method := { name := "<init>", desc := "()V", sig := { parameters := [], returnType := none }, accessFlags := 2, code := none }
def k1c1 : Code := { maxStack := 2, maxLocals := 11, code := code, exceptionTable := #[], attributes := #[] }
def k1m1 : Method := { name := "law", desc := "(IIIIII)Z", sig := { parameters := [.int, .int, .int, .int, .int, .int], returnType := some .boolean }, accessFlags := 9, code := some k1c1 }
/-- com/example/taxodelta/taxodelta/taxonomy/IntListContainsPinLaw -/
def k1 : Class := { plain "com/example/taxodelta/taxodelta/taxonomy/IntListContainsPinLaw" (some 0) with
  accessFlags := 49
  interfaces := #[]
  cf := some (fileOf pool1 18 #[] #[{ accessFlags := 2, nameIndex := 5, descriptorIndex := 6, attributes := #[] }, { accessFlags := 9, nameIndex := 22, descriptorIndex := 23, attributes := #[] }] 49 2 #[] #[])
  fields := #[]
  methods := #[k1m0, k1m1]
  instanceTypes := #[]
  staticTypes := #[]
  resolved := Array.replicate 27 none
  statics := none }

def pool2 : Array CpInfo := pool [(1, .methodref 2 3), (0, .class_ 4), (0, .nameAndType 5 6), (0, u "java/lang/Object"), (0, u "<init>"), (0, u "()V"), (0, .fieldref 8 9), (0, .class_ 10), (0, .nameAndType 11 12), (0, u "com/example/taxodelta/taxodelta/taxonomy/IntList"), (0, u "values"), (0, u "[I"), (0, .fieldref 8 14), (0, .nameAndType 15 16), (0, u "size"), (0, u "I"), (0, .methodref 18 19), (0, .class_ 20), (0, .nameAndType 21 22), (0, u "java/util/Arrays"), (0, u "copyOf"), (0, u "([II)[I"), (2, u "add"), (0, u "(I)V"), (13, u "contains"), (0, u "(I)Z")] 8

def k2c0 : Code := { maxStack := 2, maxLocals := 1, code := prog_40_method_1_code, exceptionTable := #[], attributes := #[] }
def k2m0 : Method := { name := "<init>", desc := "()V", sig := { parameters := [], returnType := none }, accessFlags := 0, code := some k2c0 }
def k2c1 : Code := { maxStack := 5, maxLocals := 2, code := prog_40_method_2_code, exceptionTable := #[], attributes := #[] }
def k2m1 : Method := { name := "add", desc := "(I)V", sig := { parameters := [.int], returnType := none }, accessFlags := 0, code := some k2c1 }
def k2c2 : Code := { maxStack := 2, maxLocals := 3, code := prog_40_method_6_code, exceptionTable := #[], attributes := #[] }
def k2m2 : Method := { name := "contains", desc := "(I)Z", sig := { parameters := [.int], returnType := some .boolean }, accessFlags := 0, code := some k2c2 }
/-- com/example/taxodelta/taxodelta/taxonomy/IntList -/
def k2 : Class := { plain "com/example/taxodelta/taxodelta/taxonomy/IntList" (some 0) with
  accessFlags := 48
  interfaces := #[]
  cf := some (fileOf pool2 8 #[] #[{ accessFlags := 0, nameIndex := 5, descriptorIndex := 6, attributes := #[] }, { accessFlags := 0, nameIndex := 25, descriptorIndex := 26, attributes := #[] }, { accessFlags := 0, nameIndex := 40, descriptorIndex := 41, attributes := #[] }] 48 2 #[] #[{ accessFlags := 2, nameIndex := 11, descriptorIndex := 12, attributes := #[] }, { accessFlags := 2, nameIndex := 15, descriptorIndex := 16, attributes := #[] }])
  fields := #[{ name := "values", type := (.array .int), accessFlags := 2, slot := 0, constantValue := 0 }, { name := "size", type := .int, accessFlags := 2, slot := 1, constantValue := 0 }]
  methods := #[k2m0, k2m1, k2m2]
  instanceTypes := #[(.array .int), .int]
  staticTypes := #[]
  resolved := Array.replicate 50 none
  statics := none }

def pool3 : Array CpInfo := pool [(2, .class_ 4), (1, u "java/lang/Object"), (0, u "<init>"), (0, u "()V"), (7, .class_ 16), (1, u "java/util/Arrays"), (57, .class_ 76), (1, u "java/util/Arrays$NaturalOrder"), (36, .class_ 115), (1, u "java/util/Arrays$LegacyMergeSort"), (1, u "Z"), (32, .methodref 151 152), (0, .class_ 153), (0, .nameAndType 154 155), (0, u "java/lang/System"), (0, u "arraycopy"), (0, u "(Ljava/lang/Object;ILjava/lang/Object;II)V"), (146, u "copyOf"), (1, .methodref 305 306), (0, .class_ 307), (0, .nameAndType 308 309), (0, u "java/lang/Math"), (0, u "min"), (0, u "(II)I"), (65, .class_ 376), (0, u "java/util/Arrays$ArrayList"), (68, u "$assertionsDisabled"), (269, u "MIN_ARRAY_SORT_GRAN"), (0, u "I"), (2, u "INSERTIONSORT_THRESHOLD"), (151, u "([II)[I"), (103, .class_ 976), (0, u "java/util/Arrays$ArrayItr")] 52

def k3m0 : Method := { name := "<init>", desc := "()V", sig := { parameters := [], returnType := none }, accessFlags := 2, code := none }
def k3c1 : Code := { maxStack := 6, maxLocals := 3, code := jdk_65_method_123_code, exceptionTable := #[], attributes := #[] }
def k3m1 : Method := { name := "copyOf", desc := "([II)[I", sig := { parameters := [(.array .int), .int], returnType := some (.array .int) }, accessFlags := 9, code := some k3c1 }
/-- java/util/Arrays -/
def k3 : Class := { plain "java/util/Arrays" (some 0) with
  accessFlags := 49
  interfaces := #[]
  cf := some (fileOf pool3 14 #[.nestMembers #[975, 375, 113, 74]] #[{ accessFlags := 2, nameIndex := 5, descriptorIndex := 6, attributes := #[] }, { accessFlags := 9, nameIndex := 302, descriptorIndex := 871, attributes := #[] }] 49 2 #[] #[{ accessFlags := 26, nameIndex := 715, descriptorIndex := 716, attributes := #[] }, { accessFlags := 26, nameIndex := 719, descriptorIndex := 716, attributes := #[] }, { accessFlags := 4120, nameIndex := 445, descriptorIndex := 117, attributes := #[] }])
  fields := #[{ name := "MIN_ARRAY_SORT_GRAN", type := .int, accessFlags := 26, slot := 0, constantValue := 0 }, { name := "INSERTIONSORT_THRESHOLD", type := .int, accessFlags := 26, slot := 1, constantValue := 0 }, { name := "$assertionsDisabled", type := .boolean, accessFlags := 4120, slot := 2, constantValue := 0 }]
  methods := #[k3m0, k3m1]
  instanceTypes := #[]
  staticTypes := #[.int, .int, .boolean]
  resolved := Array.replicate 1029 none
  statics := none }

def pool4 : Array CpInfo := pool [(1, .class_ 2), (0, u "java/lang/Math"), (1, .class_ 6), (1, u "java/lang/Object"), (0, u "<init>"), (0, u "()V"), (89, .class_ 100), (1, u "java/lang/Math$RandomNumberGeneratorHolder"), (71, u "negativeZeroFloatBits"), (0, u "J"), (2, u "negativeZeroDoubleBits"), (24, u "min"), (43, u "$assertionsDisabled"), (0, u "Z"), (88, u "(II)I"), (2, u "twoToTheDoubleScaleDown"), (0, u "D"), (4, u "twoToTheDoubleScaleUp"), (9, u "E"), (3, u "PI"), (2, u "TAU"), (2, u "DEGREES_TO_RADIANS"), (0, u "RADIANS_TO_DEGREES")] 94

def k4m0 : Method := { name := "<init>", desc := "()V", sig := { parameters := [], returnType := none }, accessFlags := 2, code := none }
def k4c1 : Code := { maxStack := 2, maxLocals := 2, code := jdk_29_method_69_code, exceptionTable := #[], attributes := #[] }
def k4m1 : Method := { name := "min", desc := "(II)I", sig := { parameters := [.int, .int], returnType := some .int }, accessFlags := 9, code := some k4c1 }
/-- java/lang/Math -/
def k4 : Class := { plain "java/lang/Math" (some 0) with
  accessFlags := 49
  interfaces := #[]
  cf := some (fileOf pool4 1 #[.nestMembers #[98]] #[{ accessFlags := 2, nameIndex := 7, descriptorIndex := 8, attributes := #[] }, { accessFlags := 9, nameIndex := 201, descriptorIndex := 335, attributes := #[] }] 49 4 #[] #[{ accessFlags := 25, nameIndex := 354, descriptorIndex := 339, attributes := #[] }, { accessFlags := 25, nameIndex := 358, descriptorIndex := 339, attributes := #[] }, { accessFlags := 25, nameIndex := 361, descriptorIndex := 339, attributes := #[] }, { accessFlags := 26, nameIndex := 364, descriptorIndex := 339, attributes := #[] }, { accessFlags := 26, nameIndex := 365, descriptorIndex := 339, attributes := #[] }, { accessFlags := 26, nameIndex := 172, descriptorIndex := 173, attributes := #[] }, { accessFlags := 26, nameIndex := 176, descriptorIndex := 173, attributes := #[] }, { accessFlags := 8, nameIndex := 344, descriptorIndex := 339, attributes := #[] }, { accessFlags := 8, nameIndex := 338, descriptorIndex := 339, attributes := #[] }, { accessFlags := 4120, nameIndex := 245, descriptorIndex := 246, attributes := #[] }])
  fields := #[{ name := "E", type := .double, accessFlags := 25, slot := 0, constantValue := 0 }, { name := "PI", type := .double, accessFlags := 25, slot := 1, constantValue := 0 }, { name := "TAU", type := .double, accessFlags := 25, slot := 2, constantValue := 0 }, { name := "DEGREES_TO_RADIANS", type := .double, accessFlags := 26, slot := 3, constantValue := 0 }, { name := "RADIANS_TO_DEGREES", type := .double, accessFlags := 26, slot := 4, constantValue := 0 }, { name := "negativeZeroFloatBits", type := .long, accessFlags := 26, slot := 5, constantValue := 0 }, { name := "negativeZeroDoubleBits", type := .long, accessFlags := 26, slot := 6, constantValue := 0 }, { name := "twoToTheDoubleScaleUp", type := .double, accessFlags := 8, slot := 7, constantValue := 0 }, { name := "twoToTheDoubleScaleDown", type := .double, accessFlags := 8, slot := 8, constantValue := 0 }, { name := "$assertionsDisabled", type := .boolean, accessFlags := 4120, slot := 9, constantValue := 0 }]
  methods := #[k4m0, k4m1]
  instanceTypes := #[]
  staticTypes := #[.double, .double, .double, .double, .double, .long, .long, .double, .double, .boolean]
  resolved := Array.replicate 460 none
  statics := none }

def pool5 : Array CpInfo := pool [(2, .class_ 4), (1, u "java/lang/Object"), (0, u "<init>"), (0, u "()V"), (1, .class_ 10), (1, u "java/lang/System"), (0, u "allowSecurityManager"), (0, u "I"), (16, u "cons"), (0, u "Ljava/io/Console;"), (77, .class_ 110), (1, u "java/lang/System$CallersHolder"), (43, u "initialErrStream"), (0, u "Ljava/io/PrintStream;"), (19, u "security"), (0, u "Ljava/lang/SecurityManager;"), (31, .class_ 209), (0, u "java/lang/System$1"), (7, u "props"), (0, u "Ljava/util/Properties;"), (2, u "lineSeparator"), (0, u "Ljava/lang/String;"), (96, .class_ 321), (1, u "java/lang/System$LoggerFinder"), (5, .class_ 328), (0, u "java/lang/System$Logger"), (67, u "err"), (2, u "out"), (91, u "notSupportedJnuEncoding"), (15, u "in"), (17, u "initialIn"), (0, u "Ljava/io/InputStream;"), (35, u "bootLayer"), (0, u "Ljava/lang/ModuleLayer;"), (99, .class_ 664), (0, u "java/lang/System$2"), (9, u "NEVER"), (2, u "MAYBE"), (49, u "arraycopy"), (0, u "(Ljava/lang/Object;ILjava/lang/Object;II)V"), (72, .class_ 802), (0, u "java/lang/System$Logger$Level")] 31

def k5m0 : Method := { name := "<init>", desc := "()V", sig := { parameters := [], returnType := none }, accessFlags := 2, code := none }
def k5m1 : Method := { name := "arraycopy", desc := "(Ljava/lang/Object;ILjava/lang/Object;II)V", sig := { parameters := [(.object "java/lang/Object"), .int, (.object "java/lang/Object"), .int, .int], returnType := none }, accessFlags := 265, code := none }
/-- java/lang/System -/
def k5 : Class := { plain "java/lang/System" (some 0) with
  accessFlags := 49
  interfaces := #[]
  cf := some (fileOf pool5 8 #[.nestMembers #[319, 327, 801, 108, 663, 208]] #[{ accessFlags := 2, nameIndex := 5, descriptorIndex := 6, attributes := #[] }, { accessFlags := 265, nameIndex := 727, descriptorIndex := 728, attributes := #[] }] 49 2 #[] #[{ accessFlags := 25, nameIndex := 507, descriptorIndex := 526, attributes := #[] }, { accessFlags := 25, nameIndex := 399, descriptorIndex := 155, attributes := #[] }, { accessFlags := 25, nameIndex := 396, descriptorIndex := 155, attributes := #[] }, { accessFlags := 10, nameIndex := 525, descriptorIndex := 526, attributes := #[] }, { accessFlags := 26, nameIndex := 674, descriptorIndex := 12, attributes := #[] }, { accessFlags := 26, nameIndex := 677, descriptorIndex := 12, attributes := #[] }, { accessFlags := 10, nameIndex := 11, descriptorIndex := 12, attributes := #[] }, { accessFlags := 74, nameIndex := 175, descriptorIndex := 176, attributes := #[] }, { accessFlags := 10, nameIndex := 491, descriptorIndex := 222, attributes := #[] }, { accessFlags := 74, nameIndex := 29, descriptorIndex := 30, attributes := #[] }, { accessFlags := 74, nameIndex := 154, descriptorIndex := 155, attributes := #[] }, { accessFlags := 10, nameIndex := 217, descriptorIndex := 218, attributes := #[] }, { accessFlags := 10, nameIndex := 221, descriptorIndex := 222, attributes := #[] }, { accessFlags := 8, nameIndex := 562, descriptorIndex := 563, attributes := #[] }])
  fields := #[{ name := "in", type := (.object "java/io/InputStream"), accessFlags := 25, slot := 0, constantValue := 0 }, { name := "out", type := (.object "java/io/PrintStream"), accessFlags := 25, slot := 1, constantValue := 0 }, { name := "err", type := (.object "java/io/PrintStream"), accessFlags := 25, slot := 2, constantValue := 0 }, { name := "initialIn", type := (.object "java/io/InputStream"), accessFlags := 10, slot := 3, constantValue := 0 }, { name := "NEVER", type := .int, accessFlags := 26, slot := 4, constantValue := 0 }, { name := "MAYBE", type := .int, accessFlags := 26, slot := 5, constantValue := 0 }, { name := "allowSecurityManager", type := .int, accessFlags := 10, slot := 6, constantValue := 0 }, { name := "security", type := (.object "java/lang/SecurityManager"), accessFlags := 74, slot := 7, constantValue := 0 }, { name := "notSupportedJnuEncoding", type := (.object "java/lang/String"), accessFlags := 10, slot := 8, constantValue := 0 }, { name := "cons", type := (.object "java/io/Console"), accessFlags := 74, slot := 9, constantValue := 0 }, { name := "initialErrStream", type := (.object "java/io/PrintStream"), accessFlags := 74, slot := 10, constantValue := 0 }, { name := "props", type := (.object "java/util/Properties"), accessFlags := 10, slot := 11, constantValue := 0 }, { name := "lineSeparator", type := (.object "java/lang/String"), accessFlags := 10, slot := 12, constantValue := 0 }, { name := "bootLayer", type := (.object "java/lang/ModuleLayer"), accessFlags := 8, slot := 13, constantValue := 0 }]
  methods := #[k5m0, k5m1]
  instanceTypes := #[]
  staticTypes := #[(.object "java/io/InputStream"), (.object "java/io/PrintStream"), (.object "java/io/PrintStream"), (.object "java/io/InputStream"), .int, .int, .int, (.object "java/lang/SecurityManager"), (.object "java/lang/String"), (.object "java/io/Console"), (.object "java/io/PrintStream"), (.object "java/util/Properties"), (.object "java/lang/String"), (.object "java/lang/ModuleLayer")]
  resolved := Array.replicate 834 none
  statics := none }

def pool6 : Array CpInfo := pool [(1, u "java/lang/Cloneable"), (0, .class_ 1), (0, u "java/lang/Object"), (0, .class_ 3)] 3

/-- java/lang/Cloneable -/
def k6 : Class := { plain "java/lang/Cloneable" (some 0) with
  accessFlags := 1537
  interfaces := #[]
  cf := some (fileOf pool6 2 #[] #[] 1537 4 #[] #[])
  fields := #[]
  methods := #[]
  instanceTypes := #[]
  staticTypes := #[]
  resolved := Array.replicate 8 none
  statics := none }

def pool7 : Array CpInfo := pool [(1, u "java/io/Serializable"), (0, .class_ 1), (0, u "java/lang/Object"), (0, .class_ 3)] 3

/-- java/io/Serializable -/
def k7 : Class := { plain "java/io/Serializable" (some 0) with
  accessFlags := 1537
  interfaces := #[]
  cf := some (fileOf pool7 2 #[] #[] 1537 4 #[] #[])
  fields := #[]
  methods := #[]
  instanceTypes := #[]
  staticTypes := #[]
  resolved := Array.replicate 8 none
  statics := none }

/-- the primitive byte -/
def k8 : Class := { plain "byte" none with kind := .primitive 'B', accessFlags := 0x411 }
/-- [B -/
def k9 : Class := { plain "[B" (some 0) with kind := .array 8 .byte, interfaces := #[6, 7], accessFlags := 1041 }

/-- the primitive int -/
def k10 : Class := { plain "int" none with kind := .primitive 'I', accessFlags := 0x411 }
/-- [I -/
def k11 : Class := { plain "[I" (some 0) with kind := .array 10 .int, interfaces := #[6, 7], accessFlags := 1041 }

def heap : Heap := #[]
def classes : Array Class := #[k0, k1, k2, k3, k4, k5, k6, k7, k8, k9, k10, k11]
def interned : List (Array UInt16 × Addr) := []
def slotsUsed : Nat := 0
def theMethod : MethodId := ⟨1, 1⟩
def args0 : Array Value := #[.int 3, .int 1, .int 2, .int 3, .int 4, .int 12]
def aboutOver (below : List Frame) : State where
  vm := { classes := classes, interned := interned.toArray }
  heap := heap
  slotsUsed := slotsUsed
  threads := #[{ frames := .invoking theMethod args0 :: below }]
def below0 : List Frame := [.native { method := ⟨0, 0⟩, args := #[] }]
def about1 : State := aboutOver below0
def p0 : Program := .bare "" "" ""
def e0 : Env := launch0.env 0 0 0
theorem w_frames : about1.frames = Frame.invoking theMethod args0 :: below0 := rfl
set_option maxRecDepth 65536 in
theorem w_args : argsFit about1.vm theMethod args0 = true := by decide +kernel
set_option maxRecDepth 65536 in
theorem w_heap : heapFits about1 = true := by decide +kernel
set_option maxRecDepth 65536 in
theorem w_runnable : about1.curStatus? = some .runnable := by decide +kernel
set_option maxRecDepth 65536 in
theorem w_alone : about1.alone = true := by decide +kernel
set_option maxRecDepth 65536 in
theorem w_named : about1.methodNamed? x = some theMethod := by decide +kernel
set_option maxRecDepth 65536 in
theorem w_hears : about1.hears theMethod below0 = true := by decide +kernel
set_option maxRecDepth 65536 in
theorem w_ripe : about1.ripe theMethod args0 below0 = true := by decide +kernel
theorem w_running : about1.status = .running := rfl
set_option maxRecDepth 65536 in
theorem w_room : about1.hasRoom e0.platform room_1 = true :=
  launch0.hasRoom_least _ room_1 (by decide +kernel) (by decide +kernel) (by decide +kernel) (by decide +kernel) (by decide +kernel) (by decide +kernel)
theorem allAtoms_all (ts : List Jvm.Cond) (a : Array Jvm.Value) (st : Jvm.State) : (allAtoms ts).before a st = ts.all (fun c => c.before a st) := by
  induction ts with
  | nil => rfl
  | cons c t ih =>
    show (Jvm.Cond.and c (allAtoms t)).before a st = _
    rw [Jvm.Cond.before_and, ih, List.all_cons]
def words1 : List Jvm.Cond := Jvm.Cond.code x code maxLocals ret :: tables_1
/-- a 'code' word, met by the world's own term for the bytes: nothing is compared byte by byte -/
theorem code_word {y : MethodName} {bytes : ByteArray} {mx : Nat} {rt : Option FieldType} {a : Array Value} {s : State} {m : MethodId} {meth : Method} {c : Code} (h1 : s.methodNamed? y = some m) (h2 : s.vm.method? m = some meth) (h3 : meth.code = some c) (h4 : c.code = bytes)
    (h5 : (c.maxLocals == mx && c.exceptionTable.isEmpty && decide (c.maxStack ≤ mostOperands) && decide (meth.sig.returnType = rt) && !meth.locks && decide (parseMethodDescriptor y.desc = some meth.sig)) = true) : (Jvm.Cond.code y bytes mx rt).before a s = true := by
  simp only [Bool.and_eq_true, beq_iff_eq, Bool.not_eq_true', decide_eq_true_eq] at h5
  obtain ⟨⟨⟨⟨⟨g1, g2⟩, g3⟩, g4⟩, g5⟩, g6⟩ := h5
  simp [Cond.before, Cond.holds, Cond.value, h1, h2, h3, h4, g1, g2, g3, g4, g5, g6]
def isCode : Jvm.Cond → Bool
  | .code _ _ _ _ => true
  | _ => false
theorem all_split {L : List Jvm.Cond} {P : Jvm.Cond → Bool} (h1 : L.all (fun c => isCode c || P c) = true) (h2 : ∀ c ∈ L.filter isCode, P c = true) : L.all P = true := by
  refine List.all_eq_true.mpr fun c hc => ?_
  have h := List.all_eq_true.mp h1 c hc
  rcases Bool.eq_false_or_eq_true (isCode c) with hi | hi
  · exact h2 c (List.mem_filter.mpr ⟨hc, hi⟩)
  · simpa [hi] using h
set_option maxRecDepth 65536 in
theorem w_c0 : (Jvm.Cond.code x code maxLocals ret).before args0 about1 = true := code_word (m := ⟨1, 1⟩) (meth := k1m1) (c := k1c1) (by decide +kernel) rfl rfl rfl (by decide +kernel)
set_option maxRecDepth 65536 in
theorem w_c1 : (Jvm.Cond.code ({ cls := "com/example/taxodelta/taxodelta/taxonomy/IntList", name := "<init>", desc := "()V" } : Jvm.MethodName) prog_40_method_1_code (1 : Nat) (Option.none : Option Jvm.ClassFile.FieldType)).before args0 about1 = true := code_word (m := ⟨2, 0⟩) (meth := k2m0) (c := k2c0) (by decide +kernel) rfl rfl rfl (by decide +kernel)
set_option maxRecDepth 65536 in
theorem w_c2 : (Jvm.Cond.code ({ cls := "java/lang/Object", name := "<init>", desc := "()V" } : Jvm.MethodName) object_method_1_code (1 : Nat) (Option.none : Option Jvm.ClassFile.FieldType)).before args0 about1 = true := code_word (m := ⟨0, 0⟩) (meth := k0m0) (c := k0c0) (by decide +kernel) rfl rfl rfl (by decide +kernel)
set_option maxRecDepth 65536 in
theorem w_c3 : (Jvm.Cond.code ({ cls := "com/example/taxodelta/taxodelta/taxonomy/IntList", name := "add", desc := "(I)V" } : Jvm.MethodName) prog_40_method_2_code (2 : Nat) (Option.none : Option Jvm.ClassFile.FieldType)).before args0 about1 = true := code_word (m := ⟨2, 1⟩) (meth := k2m1) (c := k2c1) (by decide +kernel) rfl rfl rfl (by decide +kernel)
set_option maxRecDepth 65536 in
theorem w_c4 : (Jvm.Cond.code ({ cls := "java/util/Arrays", name := "copyOf", desc := "([II)[I" } : Jvm.MethodName) jdk_65_method_123_code (3 : Nat) (Option.some (Jvm.ClassFile.FieldType.array Jvm.ClassFile.FieldType.int))).before args0 about1 = true := code_word (m := ⟨3, 1⟩) (meth := k3m1) (c := k3c1) (by decide +kernel) rfl rfl rfl (by decide +kernel)
set_option maxRecDepth 65536 in
theorem w_c5 : (Jvm.Cond.code ({ cls := "java/lang/Math", name := "min", desc := "(II)I" } : Jvm.MethodName) jdk_29_method_69_code (2 : Nat) (Option.some Jvm.ClassFile.FieldType.int)).before args0 about1 = true := code_word (m := ⟨4, 1⟩) (meth := k4m1) (c := k4c1) (by decide +kernel) rfl rfl rfl (by decide +kernel)
set_option maxRecDepth 65536 in
theorem w_c6 : (Jvm.Cond.code ({ cls := "com/example/taxodelta/taxodelta/taxonomy/IntList", name := "contains", desc := "(I)Z" } : Jvm.MethodName) prog_40_method_6_code (3 : Nat) (Option.some Jvm.ClassFile.FieldType.boolean)).before args0 about1 = true := code_word (m := ⟨2, 2⟩) (meth := k2m2) (c := k2c2) (by decide +kernel) rfl rfl rfl (by decide +kernel)
def codes1 : List Jvm.Cond := [Jvm.Cond.code x code maxLocals ret, Jvm.Cond.code ({ cls := "com/example/taxodelta/taxodelta/taxonomy/IntList", name := "<init>", desc := "()V" } : Jvm.MethodName) prog_40_method_1_code (1 : Nat) (Option.none : Option Jvm.ClassFile.FieldType), Jvm.Cond.code ({ cls := "java/lang/Object", name := "<init>", desc := "()V" } : Jvm.MethodName) object_method_1_code (1 : Nat) (Option.none : Option Jvm.ClassFile.FieldType), Jvm.Cond.code ({ cls := "com/example/taxodelta/taxodelta/taxonomy/IntList", name := "add", desc := "(I)V" } : Jvm.MethodName) prog_40_method_2_code (2 : Nat) (Option.none : Option Jvm.ClassFile.FieldType), Jvm.Cond.code ({ cls := "java/util/Arrays", name := "copyOf", desc := "([II)[I" } : Jvm.MethodName) jdk_65_method_123_code (3 : Nat) (Option.some (Jvm.ClassFile.FieldType.array Jvm.ClassFile.FieldType.int)), Jvm.Cond.code ({ cls := "java/lang/Math", name := "min", desc := "(II)I" } : Jvm.MethodName) jdk_29_method_69_code (2 : Nat) (Option.some Jvm.ClassFile.FieldType.int), Jvm.Cond.code ({ cls := "com/example/taxodelta/taxodelta/taxonomy/IntList", name := "contains", desc := "(I)Z" } : Jvm.MethodName) prog_40_method_6_code (3 : Nat) (Option.some Jvm.ClassFile.FieldType.boolean)]
set_option maxRecDepth 65536 in
theorem codes_eq : words1.filter isCode = codes1 := rfl
theorem w_codes : ∀ c ∈ words1.filter isCode, c.before args0 about1 = true := by
  rw [codes_eq]
  intro c hc
  simp only [codes1, List.mem_cons, List.not_mem_nil, or_false] at hc
  rcases hc with rfl | rfl | rfl | rfl | rfl | rfl | rfl
  · exact w_c0
  · exact w_c1
  · exact w_c2
  · exact w_c3
  · exact w_c4
  · exact w_c5
  · exact w_c6
set_option maxRecDepth 65536 in
theorem w_t1 : (words1.take 24).all (fun c => isCode c || c.before args0 about1) = true := by decide +kernel
set_option maxRecDepth 65536 in
theorem w_t2 : (words1.drop 24).all (fun c => isCode c || c.before args0 about1) = true := by decide +kernel
theorem w_tables : (allAtoms (Jvm.Cond.code x code maxLocals ret :: tables_1)).before args0 about1 = true := by
  rw [allAtoms_all]
  show words1.all (fun c => c.before args0 about1) = true
  refine all_split ?_ w_codes
  rw [← List.take_append_drop 24 words1, List.all_append, w_t1, w_t2]
  rfl
set_option maxRecDepth 65536 in
theorem w_case : (Jvm.Cond.and given_1 narrow_1).before args0 about1 = true := by decide +kernel
theorem w_applies : (headSpec (Jvm.Cond.code x code maxLocals ret :: tables_1) room_1).applies x e0.platform about1 = true :=
  (Spec.applies_iff w_frames).mpr ⟨w_running, w_runnable, w_alone, w_named, w_hears, w_ripe, w_room, w_tables⟩
theorem atStart : AtStart classFile x code maxLocals ret World_1 tables_1 room_1 Calls_1 rest_1 Pre_1 launch0 p0 e0 about1 theMethod args0 below0 :=
  ⟨lists_1, trivial, launch0.admits_env _ _ _, launch0.least_env, fairChoices_fair.cas, fairChoices_fair.clock, w_frames, w_args, w_heap, w_applies, trivial, trivial, w_case⟩
end start1
theorem witness_1 : WitnessClaimed_1 := ⟨start1.p0, start1.e0, start1.about1, start1.theMethod, start1.args0, start1.below0, start1.atStart⟩
end Jvm.Pilot.@@N@@
