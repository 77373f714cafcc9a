import JvmDerived
import JvmDerived.Pilot.@@N@@Statement
import JvmDerived.Pilot.@@N@@Code
set_option linter.unusedVariables false
set_option linter.unusedSimpArgs false
namespace Jvm.RoadKit
open Sem ClassFile Op Lib Jvm.Stand Jvm.Free Jvm.LawKit
/-- the walk that stands at S comes to an end of which P holds -/
def own_Goes (tb : Tables) (e : Env) (below : List Frame) (P : State → Outcome → Prop) (S : State) : Prop := ∃ t o, Steps tb e below S t ∧ P t o
theorem own_Goes.of {tb : Tables} {e : Env} {below : List Frame} {P : State → Outcome → Prop} {S : State} (k : own_Goes tb e below P S) : ∃ t o, Steps tb e below S t ∧ P t o := k
theorem own_Goes.nm {tb : Tables} {e : Env} {below : List Frame} {P : State → Outcome → Prop} {S : State} (k : ∀ P' : State → Outcome → Prop, (∀ t o, P t o → P' t o) → own_Goes tb e below P' S) : own_Goes tb e below P S := k P fun _ _ q => q
theorem own_Goes.st {tb : Tables} {e : Env} {below : List Frame} {P : State → Outcome → Prop} {S S' : State} (k : own_Goes tb e below P S') (h : ∀ t, Steps tb e below S' t → Steps tb e below S t) : own_Goes tb e below P S := by
  obtain ⟨t, o, h1, h2⟩ := k; exact ⟨t, o, h t h1, h2⟩
theorem own_Goes.tr {tb : Tables} {e : Env} {below : List Frame} {P : State → Outcome → Prop} {S S' : State} (h : Steps tb e below S S') (k : own_Goes tb e below P S') : own_Goes tb e below P S := by
  obtain ⟨t, o, h1, h2⟩ := k; exact ⟨t, o, h.trans h1, h2⟩
theorem own_Goes.fin {tb : Tables} {e : Env} {below : List Frame} {P : State → Outcome → Prop} {S : State} (t : State) (o : Outcome) (h : Steps tb e below S t) (k : P t o) : own_Goes tb e below P S := ⟨t, o, h, k⟩
end Jvm.RoadKit
namespace Jvm.Pilot.@@N@@
open Jvm Jvm.ClassFile Sem Op Lib Jvm.Free Jvm.Stand Jvm.LawKit Jvm.RoadKit Bundle Jvm.Pilot.@@N@@.Jvm.D
theorem own_k (y kk : Int32) (h : (y &&& (2147483647 : Int32)) % (5 : Int32) = kk) : kk = 0 ∨ kk = 1 ∨ kk = 2 ∨ kk = 3 ∨ kk = 4 := by
  have m := c_mask y 2147483647 31 (by decide) (by decide)
  have q := (c_irem (y &&& 2147483647) 5 5 (by decide)).1 (by rw [m]; omega)
  rw [h] at q
  have c0 : (0 : Int32).toInt = 0 := by decide
  have c1 : (1 : Int32).toInt = 1 := by decide
  have c2 : (2 : Int32).toInt = 2 := by decide
  have c3 : (3 : Int32).toInt = 3 := by decide
  have c4 : (4 : Int32).toInt = 4 := by decide
  have g : kk.toInt = 0 ∨ kk.toInt = 1 ∨ kk.toInt = 2 ∨ kk.toInt = 3 ∨ kk.toInt = 4 := by omega
  simpa only [← Int32.toInt_inj, c0, c1, c2, c3, c4] using g
theorem own_h2 (a b : Int32) : (31 : Int32) * ((31 : Int32) + a) + b = ((961 : Int32) + (31 : Int32) * a) + b := by
  rw [Int32.mul_add]; rfl
theorem own_h3 (a b c : Int32) : (31 : Int32) * ((31 : Int32) * ((31 : Int32) + a) + b) + c = (((29791 : Int32) + (961 : Int32) * a) + (31 : Int32) * b) + c := by
  rw [Int32.mul_add, Int32.mul_add, Int32.mul_add, ← Int32.mul_assoc 31 31 a]; rfl
theorem own_h4 (a b c d : Int32) : (31 : Int32) * ((31 : Int32) * ((31 : Int32) * ((31 : Int32) + a) + b) + c) + d = ((((923521 : Int32) + (29791 : Int32) * a) + (961 : Int32) * b) + (31 : Int32) * c) + d := by
  rw [Int32.mul_add, Int32.mul_add, Int32.mul_add, Int32.mul_add, Int32.mul_add, Int32.mul_add, ← Int32.mul_assoc 31 31 b, ← Int32.mul_assoc 31 31 (31 * a), ← Int32.mul_assoc _ 31 a]; rfl
def own_imin (i j : Int32) : Int32 := if j < i then j else i
theorem own_ef_imin (m : MethodId) (x0 : Int32) (x1 : Int32) : entryFrame m #[(.int x0), (.int x1)] 2 = mkF m 0 #[.val (.int x0), .val (.int x1)] [] := by first | (simp [entryFrame, mkF, argsToLocals, Value.category]; done) | rfl
theorem own_d_jdk_29_method_69_0 : decode jdk_29_method_69_code 0 = .ok (.iload_n 0, 1) := by decide +kernel
theorem own_d_jdk_29_method_69_1 : decode jdk_29_method_69_code 1 = .ok (.iload_n 1, 1) := by decide +kernel
theorem own_d_jdk_29_method_69_2 : decode jdk_29_method_69_code 2 = .ok (.if_icmp .gt 7, 3) := by decide +kernel
theorem own_d_jdk_29_method_69_9 : decode jdk_29_method_69_code 9 = .ok (.iload_n 1, 1) := by decide +kernel
theorem own_d_jdk_29_method_69_10 : decode jdk_29_method_69_code 10 = .ok (.ireturn, 1) := by decide +kernel
theorem own_d_jdk_29_method_69_5 : decode jdk_29_method_69_code 5 = .ok (.iload_n 0, 1) := by decide +kernel
theorem own_d_jdk_29_method_69_6 : decode jdk_29_method_69_code 6 = .ok (.goto 4, 3) := by decide +kernel
def Q_imin (Z : State) (i : Int32) (j : Int32) (h0 : Heap) (n0 : Nat) (rv_ : Option Value) (h_ : Heap) (L_ : List Loc) : Prop := rv_ = some (.int (own_imin i j)) ∧ Fr n0 L_ ∧ h_ = h0
set_option maxRecDepth 65536 in
set_option maxHeartbeats 40000000 in
theorem rm_imin (l : Launch) (Z : State) (a0 : Array Value) (hw : ∀ d ∈ tables_1, d.before a0 Z = true) (ws : List Jvm.Cond) (i : Int32) (j : Int32) (h0 : Heap) (n0 : Nat) (Z0 : n0 ≤ h0.size) :
    MetFree l (⟨"java/lang/Math", "min", "(II)I"⟩ : MethodName) (head1 (Jvm.Cond.code (⟨"java/lang/Math", "min", "(II)I"⟩ : MethodName) jdk_29_method_69_code 2 (some .int) :: ws) ({ frames := 0, cells := 0, slots := 0, locals := 0 } : Room)) (fun as_ U => as_ = #[(.int i), (.int j)] ∧ Z.Warmed39 U.vm ∧ U.heap = h0) (fun _ _ _ _ _ => True) (fun _ U o U' => ∃ rv_ L_, o = .returned rv_ ∧ Q_imin Z i j h0 n0 rv_ U'.heap L_ ∧ FrameEnd U o U' L_ ({ frames := 0, cells := 0, slots := 0, locals := 0 } : Room).cells ({ frames := 0, cells := 0, slots := 0, locals := 0 } : Room).slots) := by
  refine MetFree.of_bodySF (by decide +kernel) hisR ?_
  intro p e s m args below meth c s₁ Bd hml0 hP hK
  obtain ⟨rfl, hZ, hh⟩ := hP
  have hx := Bd.exec
  have hby := Bd.bytes
  have hml : c.maxLocals = 2 := hml0
  have hown : s.vm.findClass "java/lang/Math" = some m.cls := findClass_of_methodNamed Bd.named
  have hnm := (name_of_methodNamed Bd.named Bd.method).1
  have X0 : Stand p l e ({ frames := 0, cells := 0, slots := 0, locals := 0 } : Room) s m #[(.int i), (.int j)] below meth c s₁ [] 0 0 := Stand.of_body Bd
  have e0 : s₁.heap = h0 := by rw [← hh, Bd.state]; rfl
  have N0 := Fr.nil n0
  refine own_Goes.of ?_
  refine own_Goes.nm (fun P hPP => ?_)
  refine own_Goes.st ?_ (fun _ k => castTop (own_ef_imin m i j) k)
  show own_Goes p.tables e below P (s₁.setTop (mkF m 0 #[.val (.int i), .val (.int j)] []))
  refine own_Goes.st ?_ (fun _ k => XS.iloadN X0.here hx rfl (hb hby own_d_jdk_29_method_69_0) rfl k)
  show own_Goes p.tables e below P (s₁.setTop (mkF m 1 #[.val (.int i), .val (.int j)] [(.int i)]))
  refine own_Goes.st ?_ (fun _ k => XS.iloadN X0.here hx rfl (hb hby own_d_jdk_29_method_69_1) rfl k)
  show own_Goes p.tables e below P (s₁.setTop (mkF m 2 #[.val (.int i), .val (.int j)] [(.int j), (.int i)]))
  by_cases h1 : j < i
  · skip
    refine own_Goes.st ?_ (fun _ k => XS.icmpYes X0.here hx rfl (pc0 := 2) (pc' := 9) rfl (hb hby own_d_jdk_29_method_69_2) rfl (tlt h1).2.2.1 (by decide) (by decide) k)
    show own_Goes p.tables e below P (s₁.setTop (mkF m 9 #[.val (.int i), .val (.int j)] []))
    refine own_Goes.st ?_ (fun _ k => XS.iloadN X0.here hx rfl (hb hby own_d_jdk_29_method_69_9) rfl k)
    show own_Goes p.tables e below P (s₁.setTop (mkF m 10 #[.val (.int i), .val (.int j)] [(.int j)]))
    obtain ⟨fs, hr, hrun, hended, hW, hsame⟩ := X0.leave (v := some (.int j)) (fun h => by rw [Bd.returns] at h; cases h)
    exact own_Goes.fin _ _ (retOut X0 hx (t := .int) Bd.returns rfl (Or.inl ⟨rfl, Or.inl rfl, _, rfl⟩) (hb hby own_d_jdk_29_method_69_10) hr) (hPP _ _ ⟨hrun, hended, _, _, rfl, (by show Q_imin Z i j h0 n0 _ s₁.heap _; rw [e0]; exact ⟨(by rw [own_imin, if_pos h1]), N0, rfl⟩), ⟨_, rfl⟩, hW, hsame.mono (by decide) (by decide)⟩)
  · skip
    refine own_Goes.st ?_ (fun _ k => XS.icmpNo X0.here hx rfl (hb hby own_d_jdk_29_method_69_2) rfl (flt h1).2.2.1 k)
    show own_Goes p.tables e below P (s₁.setTop (mkF m 5 #[.val (.int i), .val (.int j)] []))
    refine own_Goes.st ?_ (fun _ k => XS.iloadN X0.here hx rfl (hb hby own_d_jdk_29_method_69_5) rfl k)
    show own_Goes p.tables e below P (s₁.setTop (mkF m 6 #[.val (.int i), .val (.int j)] [(.int i)]))
    refine own_Goes.st ?_ (fun _ k => XS.goto X0.here hx rfl (pc0 := 6) (pc' := 10) rfl (hb hby own_d_jdk_29_method_69_6) (by decide) (by decide) k)
    show own_Goes p.tables e below P (s₁.setTop (mkF m 10 #[.val (.int i), .val (.int j)] [(.int i)]))
    obtain ⟨fs, hr, hrun, hended, hW, hsame⟩ := X0.leave (v := some (.int i)) (fun h => by rw [Bd.returns] at h; cases h)
    exact own_Goes.fin _ _ (retOut X0 hx (t := .int) Bd.returns rfl (Or.inl ⟨rfl, Or.inl rfl, _, rfl⟩) (hb hby own_d_jdk_29_method_69_10) hr) (hPP _ _ ⟨hrun, hended, _, _, rfl, (by show Q_imin Z i j h0 n0 _ s₁.heap _; rw [e0]; exact ⟨(by rw [own_imin, if_neg h1]), N0, rfl⟩), ⟨_, rfl⟩, hW, hsame.mono (by decide) (by decide)⟩)
theorem own_ef_ctor (m : MethodId) (x0 : Addr) : entryFrame m #[(.ref x0)] 1 = mkF m 0 #[.val (.ref x0)] [] := by first | (simp [entryFrame, mkF, argsToLocals, Value.category]; done) | rfl
theorem own_pn_com_example_taxodelta_taxodelta_taxonomy_IntList : plainName "com/example/taxodelta/taxodelta/taxonomy/IntList" = true := by first | (simp [plainName, overriddenIn]; done) | decide +kernel
theorem own_d_prog_40_method_1_0 : decode prog_40_method_1_code 0 = .ok (.aload_n 0, 1) := by decide +kernel
theorem own_d_prog_40_method_1_1 : decode prog_40_method_1_code 1 = .ok (.invokespecial 1, 3) := by decide +kernel
theorem own_d_prog_40_method_1_4 : decode prog_40_method_1_code 4 = .ok (.aload_n 0, 1) := by decide +kernel
theorem own_d_prog_40_method_1_5 : decode prog_40_method_1_code 5 = .ok (.iconst 2, 1) := by decide +kernel
theorem own_d_prog_40_method_1_6 : decode prog_40_method_1_code 6 = .ok (.newarray .int, 2) := by decide +kernel
theorem own_d_prog_40_method_1_8 : decode prog_40_method_1_code 8 = .ok (.putfield 7, 3) := by decide +kernel
theorem own_d_prog_40_method_1_11 : decode prog_40_method_1_code 11 = .ok (.return_, 1) := by decide +kernel
def Q_ctor (Z : State) (a : Addr) (u1 : Value) (h0 : Heap) (n0 : Nat) (rv_ : Option Value) (h_ : Heap) (L_ : List Loc) : Prop := ∃ (b : Addr) (k : ClassId), rv_ = none ∧ Fr n0 L_ ∧ Keep h0 h_ [a] ∧ (Exa Z h_ a "com/example/taxodelta/taxodelta/taxonomy/IntList") ∧ (Fld Z h_ a "com/example/taxodelta/taxodelta/taxonomy/IntList" "values" "[I" (.ref b)) ∧ (Fld Z h_ a "com/example/taxodelta/taxodelta/taxonomy/IntList" "size" "I" (.int (0 : Int32))) ∧ (h0.size ≤ b) ∧ (Arv Z h_ b k .int (2 : Int32) [(.int (0 : Int32)), (.int (0 : Int32))] (.int 0)) ∧ (Exa Z h_ b "[I")
set_option maxRecDepth 65536 in
set_option maxHeartbeats 40000000 in
theorem rm_ctor (l : Launch) (Z : State) (a0 : Array Value) (hw : ∀ d ∈ tables_1, d.before a0 Z = true) (ws : List Jvm.Cond) (a : Addr) (u1 : Value) (h0 : Heap) (n0 : Nat) (Z0 : n0 ≤ h0.size) (pr0 : Exa Z h0 a "com/example/taxodelta/taxodelta/taxonomy/IntList") (pr1 : Fld Z h0 a "com/example/taxodelta/taxodelta/taxonomy/IntList" "values" "[I" u1) (pr2 : Fld Z h0 a "com/example/taxodelta/taxodelta/taxonomy/IntList" "size" "I" (.int (0 : Int32))) (pr3 : n0 ≤ a) :
    MetFree l (⟨"com/example/taxodelta/taxodelta/taxonomy/IntList", "<init>", "()V"⟩ : MethodName) (head1 (Jvm.Cond.code (⟨"com/example/taxodelta/taxodelta/taxonomy/IntList", "<init>", "()V"⟩ : MethodName) prog_40_method_1_code 1 none :: ws) ({ frames := 1, cells := 1, slots := 2, locals := 12 } : Room)) (fun as_ U => as_ = #[(.ref a)] ∧ Z.Warmed39 U.vm ∧ U.heap = h0) (fun _ _ _ _ _ => True) (fun _ U o U' => ∃ rv_ L_, o = .returned rv_ ∧ Q_ctor Z a u1 h0 n0 rv_ U'.heap L_ ∧ FrameEnd U o U' L_ ({ frames := 1, cells := 1, slots := 2, locals := 12 } : Room).cells ({ frames := 1, cells := 1, slots := 2, locals := 12 } : Room).slots) := by
  refine MetFree.of_bodySF (plainFor_of_name own_pn_com_example_taxodelta_taxodelta_taxonomy_IntList) hisR ?_
  intro p e s m args below meth c s₁ Bd hml0 hP hK
  obtain ⟨rfl, hZ, hh⟩ := hP
  have hx := Bd.exec
  have hby := Bd.bytes
  have hml : c.maxLocals = 1 := hml0
  have hown : s.vm.findClass "com/example/taxodelta/taxodelta/taxonomy/IntList" = some m.cls := findClass_of_methodNamed Bd.named
  have hnm := (name_of_methodNamed Bd.named Bd.method).1
  have X0 : Stand p l e ({ frames := 1, cells := 1, slots := 2, locals := 12 } : Room) s m #[(.ref a)] below meth c s₁ [] 0 0 := Stand.of_body Bd
  have e0 : s₁.heap = h0 := by rw [← hh, Bd.state]; rfl
  have N0 := Fr.nil n0
  refine own_Goes.of ?_
  refine own_Goes.nm (fun P hPP => ?_)
  refine own_Goes.st ?_ (fun _ k => castTop (own_ef_ctor m a) k)
  have K0 : Keep h0 h0 [a] := Keep.refl _ _
  show own_Goes p.tables e below P (s₁.setTop (mkF m 0 #[.val (.ref a)] []))
  refine own_Goes.st ?_ (fun _ k => XS.aloadN X0.here hx rfl (hb hby own_d_prog_40_method_1_0) rfl rfl k)
  show own_Goes p.tables e below P (s₁.setTop (mkF m 1 #[.val (.ref a)] [(.ref a)]))
  obtain ⟨T1, X1, e1, st1⟩ := initO X0 hx hZ hown (hw _ (List.mem_of_getElem? (i := 7) rfl)) (hw _ (List.mem_of_getElem? (i := 8) rfl)) (hw _ (List.mem_of_getElem? (i := 9) rfl)) e0 (g := (mkF m 1 #[.val (.ref a)] [(.ref a)])) rfl (by rw [hml]; rfl) rfl (hb hby own_d_prog_40_method_1_1) (by decide) (W := 0) (by show 2 * 0 + _ ≤ _; exact Nat.le_of_eq rfl) (by decide)
  refine own_Goes.st ?_ st1
  show own_Goes p.tables e below P (T1.setTop (mkF m 4 #[.val (.ref a)] []))
  refine own_Goes.st ?_ (fun _ k => XS.aloadN X1.here hx rfl (hb hby own_d_prog_40_method_1_4) rfl rfl k)
  show own_Goes p.tables e below P (T1.setTop (mkF m 5 #[.val (.ref a)] [(.ref a)]))
  refine own_Goes.st ?_ (fun _ k => XS.iconst X1.here hx rfl (hb hby own_d_prog_40_method_1_5) k)
  show own_Goes p.tables e below P (T1.setTop (mkF m 6 #[.val (.ref a)] [(.int (2 : Int32)), (.ref a)]))
  obtain ⟨T2, h2, k2, X2, e2, E2, A2, J2, st2⟩ := newPE X1 hx hZ (hw _ (List.mem_of_getElem? (i := 10) rfl)) e1 (g := (mkF m 6 #[.val (.ref a)] [(.int (2 : Int32)), (.ref a)])) rfl (hb hby own_d_prog_40_method_1_6) rfl (by decide) (cap := 2) (by decide) (by decide) (by decide) (by decide) (ad := "[I") rfl
  obtain ⟨b2, g2⟩ : ∃ z, z = h0.size := ⟨_, rfl⟩
  rw [← g2] at A2 J2 st2
  have ne3 : a ≠ b2 := Nat.ne_of_lt (Nat.lt_of_lt_of_eq pr0.lt g2.symm)
  have ge_b2 : n0 ≤ b2 := Nat.le_trans Z0 (Nat.le_of_eq g2.symm)
  have sz_b2 : h0.size ≤ b2 := Nat.le_trans K0.1 (Nat.le_of_eq g2.symm)
  refine own_Goes.st ?_ st2
  have Z4 : n0 ≤ h2.size := Nat.le_trans Z0 E2.1
  have K5 := K0.ext E2
  have V6 : Arv Z h2 b2 k2 .int (2 : Int32) [(.int (0 : Int32)), (.int (0 : Int32))] (.int 0) := (Arv.new A2 (by decide)).pad (pad_rep [] _ 2)
  show own_Goes p.tables e below P (T2.setTop (mkF m 8 #[.val (.ref a)] [(.ref b2), (.ref a)]))
  have F7 : Fld Z h2 a "com/example/taxodelta/taxodelta/taxonomy/IntList" "values" "[I" u1 := (pr1.ext E2)
  have F8 : Exa Z h2 a "com/example/taxodelta/taxodelta/taxonomy/IntList" := (pr0.ext E2)
  obtain ⟨T9, h9, X9, e9, W9, st9⟩ := putF X2 hx hZ hown (host := "") (Or.inl (hw _ (List.mem_of_getElem? (i := 11) rfl))) Via.refl e2 F7 F8 (Or.inl (hw _ (List.mem_of_getElem? (i := 12) rfl))) (hw _ (List.mem_of_getElem? (i := 2) rfl)) (ty := (.array .int)) (by decide) rfl rfl (g := (mkF m 8 #[.val (.ref a)] [(.ref b2), (.ref a)])) rfl rfl (hb hby own_d_prog_40_method_1_8)
  refine own_Goes.st ?_ st9
  have F10 : Fld Z h9 a "com/example/taxodelta/taxodelta/taxonomy/IntList" "values" "[I" (.ref b2) := F7.same W9
  have Z11 : n0 ≤ h9.size := by rw [W9.size]; exact Z4
  have K12 := K5.wr W9 (Or.inl (List.mem_of_getElem? (i := 0) rfl))
  have N13 := Fr.snoc X9 N0 pr3
  show own_Goes p.tables e below P (T9.setTop (mkF m 11 #[.val (.ref a)] []))
  obtain ⟨fs, hr, hrun, hended, hW, hsame⟩ := X9.leave (v := none) (fun _ => rfl)
  have F14 : Exa Z h9 a "com/example/taxodelta/taxodelta/taxonomy/IntList" := (F8.wr W9)
  have F15 : Fld Z h9 a "com/example/taxodelta/taxodelta/taxonomy/IntList" "size" "I" (.int (0 : Int32)) := ((pr2.ext E2).other W9 (Or.inr (slot_ne (Or.inl (hw _ (List.mem_of_getElem? (i := 19) rfl))) (Or.inl (hw _ (List.mem_of_getElem? (i := 12) rfl))) (by decide) (t := .int) (t' := (.array .int)) (by decide) (by decide))))
  have F16 : Arv Z h9 b2 k2 .int (2 : Int32) [(.int (0 : Int32)), (.int (0 : Int32))] (.int 0) := (V6.other W9 (Ne.symm ne3))
  have F17 : Exa Z h9 b2 "[I" := (J2.wr W9)
  exact own_Goes.fin _ _ (X9.returnOut hx Bd.returns (hb hby own_d_prog_40_method_1_11) hr) (hPP _ _ ⟨hrun, hended, _, _, rfl, (by show Q_ctor Z a u1 h0 n0 _ T9.heap _; rw [e9]; exact ⟨b2, k2, rfl, N13, K12, F14, F10, F15, sz_b2, F16, F17⟩), ⟨_, rfl⟩, hW, hsame.mono (by decide) (by decide)⟩)
theorem own_ef_add_0 (m : MethodId) (x0 : Addr) (x1 : Int32) : entryFrame m #[(.ref x0), (.int x1)] 2 = mkF m 0 #[.val (.ref x0), .val (.int x1)] [] := by first | (simp [entryFrame, mkF, argsToLocals, Value.category]; done) | rfl
theorem own_d_prog_40_method_2_0 : decode prog_40_method_2_code 0 = .ok (.aload_n 0, 1) := by decide +kernel
theorem own_d_prog_40_method_2_1 : decode prog_40_method_2_code 1 = .ok (.getfield 13, 3) := by decide +kernel
theorem own_d_prog_40_method_2_4 : decode prog_40_method_2_code 4 = .ok (.aload_n 0, 1) := by decide +kernel
theorem own_d_prog_40_method_2_5 : decode prog_40_method_2_code 5 = .ok (.getfield 7, 3) := by decide +kernel
theorem own_d_prog_40_method_2_8 : decode prog_40_method_2_code 8 = .ok (.arraylength, 1) := by decide +kernel
theorem own_d_prog_40_method_2_9 : decode prog_40_method_2_code 9 = .ok (.if_icmp .ne 20, 3) := by decide +kernel
theorem own_d_prog_40_method_2_29 : decode prog_40_method_2_code 29 = .ok (.aload_n 0, 1) := by decide +kernel
theorem own_d_prog_40_method_2_30 : decode prog_40_method_2_code 30 = .ok (.getfield 7, 3) := by decide +kernel
theorem own_d_prog_40_method_2_33 : decode prog_40_method_2_code 33 = .ok (.aload_n 0, 1) := by decide +kernel
theorem own_d_prog_40_method_2_34 : decode prog_40_method_2_code 34 = .ok (.dup, 1) := by decide +kernel
theorem own_d_prog_40_method_2_35 : decode prog_40_method_2_code 35 = .ok (.getfield 13, 3) := by decide +kernel
theorem own_d_prog_40_method_2_38 : decode prog_40_method_2_code 38 = .ok (.dup_x1, 1) := by decide +kernel
theorem own_d_prog_40_method_2_39 : decode prog_40_method_2_code 39 = .ok (.iconst 1, 1) := by decide +kernel
theorem own_d_prog_40_method_2_40 : decode prog_40_method_2_code 40 = .ok (.iadd, 1) := by decide +kernel
theorem own_d_prog_40_method_2_41 : decode prog_40_method_2_code 41 = .ok (.putfield 13, 3) := by decide +kernel
theorem own_d_prog_40_method_2_44 : decode prog_40_method_2_code 44 = .ok (.iload_n 1, 1) := by decide +kernel
theorem own_d_prog_40_method_2_45 : decode prog_40_method_2_code 45 = .ok (.iastore, 1) := by decide +kernel
theorem own_d_prog_40_method_2_46 : decode prog_40_method_2_code 46 = .ok (.return_, 1) := by decide +kernel
def Q_add_0 (Z : State) (a : Addr) (v : Int32) (b : Addr) (k : ClassId) (h0 : Heap) (n0 : Nat) (rv_ : Option Value) (h_ : Heap) (L_ : List Loc) : Prop := rv_ = none ∧ Fr n0 L_ ∧ Keep h0 h_ [a, b] ∧ (Exa Z h_ a "com/example/taxodelta/taxodelta/taxonomy/IntList") ∧ (Fld Z h_ a "com/example/taxodelta/taxodelta/taxonomy/IntList" "values" "[I" (.ref b)) ∧ (Fld Z h_ a "com/example/taxodelta/taxodelta/taxonomy/IntList" "size" "I" (.int (1 : Int32))) ∧ (Arv Z h_ b k .int (2 : Int32) [(.int v), (.int (0 : Int32))] (.int 0)) ∧ (Exa Z h_ b "[I")
set_option maxRecDepth 65536 in
set_option maxHeartbeats 40000000 in
theorem rm_add_0 (l : Launch) (Z : State) (a0 : Array Value) (hw : ∀ d ∈ tables_1, d.before a0 Z = true) (ws : List Jvm.Cond) (a : Addr) (v : Int32) (b : Addr) (k : ClassId) (h0 : Heap) (n0 : Nat) (Z0 : n0 ≤ h0.size) (pr0 : Exa Z h0 a "com/example/taxodelta/taxodelta/taxonomy/IntList") (pr1 : Fld Z h0 a "com/example/taxodelta/taxodelta/taxonomy/IntList" "values" "[I" (.ref b)) (pr2 : Fld Z h0 a "com/example/taxodelta/taxodelta/taxonomy/IntList" "size" "I" (.int (0 : Int32))) (pr3 : Arv Z h0 b k .int (2 : Int32) [(.int (0 : Int32)), (.int (0 : Int32))] (.int 0)) (pr4 : Exa Z h0 b "[I") (pr5 : n0 ≤ a) (pr6 : n0 ≤ b) (pr7 : a ≠ b) :
    MetFree l (⟨"com/example/taxodelta/taxodelta/taxonomy/IntList", "add", "(I)V"⟩ : MethodName) (head1 (Jvm.Cond.code (⟨"com/example/taxodelta/taxodelta/taxonomy/IntList", "add", "(I)V"⟩ : MethodName) prog_40_method_2_code 2 none :: ws) ({ frames := 0, cells := 0, slots := 0, locals := 0 } : Room)) (fun as_ U => as_ = #[(.ref a), (.int v)] ∧ Z.Warmed39 U.vm ∧ U.heap = h0) (fun _ _ _ _ _ => True) (fun _ U o U' => ∃ rv_ L_, o = .returned rv_ ∧ Q_add_0 Z a v b k h0 n0 rv_ U'.heap L_ ∧ FrameEnd U o U' L_ ({ frames := 0, cells := 0, slots := 0, locals := 0 } : Room).cells ({ frames := 0, cells := 0, slots := 0, locals := 0 } : Room).slots) := by
  refine MetFree.of_bodySF (plainFor_of_name own_pn_com_example_taxodelta_taxodelta_taxonomy_IntList) hisR ?_
  intro p e s m args below meth c s₁ Bd hml0 hP hK
  obtain ⟨rfl, hZ, hh⟩ := hP
  have hx := Bd.exec
  have hby := Bd.bytes
  have hml : c.maxLocals = 2 := hml0
  have hown : s.vm.findClass "com/example/taxodelta/taxodelta/taxonomy/IntList" = some m.cls := findClass_of_methodNamed Bd.named
  have hnm := (name_of_methodNamed Bd.named Bd.method).1
  have X0 : Stand p l e ({ frames := 0, cells := 0, slots := 0, locals := 0 } : Room) s m #[(.ref a), (.int v)] below meth c s₁ [] 0 0 := Stand.of_body Bd
  have e0 : s₁.heap = h0 := by rw [← hh, Bd.state]; rfl
  have N0 := Fr.nil n0
  refine own_Goes.of ?_
  refine own_Goes.nm (fun P hPP => ?_)
  refine own_Goes.st ?_ (fun _ k => castTop (own_ef_add_0 m a v) k)
  have K0 : Keep h0 h0 [a, b] := Keep.refl _ _
  show own_Goes p.tables e below P (s₁.setTop (mkF m 0 #[.val (.ref a), .val (.int v)] []))
  refine own_Goes.st ?_ (fun _ k => XS.aloadN X0.here hx rfl (hb hby own_d_prog_40_method_2_0) rfl rfl k)
  show own_Goes p.tables e below P (s₁.setTop (mkF m 1 #[.val (.ref a), .val (.int v)] [(.ref a)]))
  obtain ⟨T1, X1, e1, st1⟩ := getF X0 hx hZ hown (host := "") (Or.inl (hw _ (List.mem_of_getElem? (i := 18) rfl))) Via.refl e0 pr2 (g := (mkF m 1 #[.val (.ref a), .val (.int v)] [(.ref a)])) rfl rfl (hb hby own_d_prog_40_method_2_1)
  refine own_Goes.st ?_ st1
  show own_Goes p.tables e below P (T1.setTop (mkF m 4 #[.val (.ref a), .val (.int v)] [(.int (0 : Int32))]))
  refine own_Goes.st ?_ (fun _ k => XS.aloadN X1.here hx rfl (hb hby own_d_prog_40_method_2_4) rfl rfl k)
  show own_Goes p.tables e below P (T1.setTop (mkF m 5 #[.val (.ref a), .val (.int v)] [(.ref a), (.int (0 : Int32))]))
  obtain ⟨T2, X2, e2, st2⟩ := getF X1 hx hZ hown (host := "") (Or.inl (hw _ (List.mem_of_getElem? (i := 11) rfl))) Via.refl e1 pr1 (g := (mkF m 5 #[.val (.ref a), .val (.int v)] [(.ref a), (.int (0 : Int32))])) rfl rfl (hb hby own_d_prog_40_method_2_5)
  refine own_Goes.st ?_ st2
  show own_Goes p.tables e below P (T2.setTop (mkF m 8 #[.val (.ref a), .val (.int v)] [(.ref b), (.int (0 : Int32))]))
  have Vc3 := pr3
  obtain ⟨cl3, Ar3, q3, S3, Nn3, Hs3, Gs3⟩ := Vc3
  refine own_Goes.st ?_ (X2.arraylength hx (by rw [e2]; exact Ar3.1) (State.isArrayOf_alike hZ.alike Ar3.2.1) (g := (mkF m 8 #[.val (.ref a), .val (.int v)] [(.ref b), (.int (0 : Int32))])) rfl rfl (hb hby own_d_prog_40_method_2_8))
  rw [len_of S3 Nn3]
  show own_Goes p.tables e below P (T2.setTop (mkF m 9 #[.val (.ref a), .val (.int v)] [(.int (2 : Int32)), (.int (0 : Int32))]))
  refine own_Goes.st ?_ (fun _ k => XS.icmpYes X2.here hx rfl (pc0 := 9) (pc' := 29) rfl (hb hby own_d_prog_40_method_2_9) rfl (feq (by decide : ¬ ((0 : Int32) = (2 : Int32)))).2 (by decide) (by decide) k)
  show own_Goes p.tables e below P (T2.setTop (mkF m 29 #[.val (.ref a), .val (.int v)] []))
  refine own_Goes.st ?_ (fun _ k => XS.aloadN X2.here hx rfl (hb hby own_d_prog_40_method_2_29) rfl rfl k)
  show own_Goes p.tables e below P (T2.setTop (mkF m 30 #[.val (.ref a), .val (.int v)] [(.ref a)]))
  obtain ⟨T4, X4, e4, st4⟩ := getF X2 hx hZ hown (host := "") (Or.inl (hw _ (List.mem_of_getElem? (i := 11) rfl))) Via.refl e2 pr1 (g := (mkF m 30 #[.val (.ref a), .val (.int v)] [(.ref a)])) rfl rfl (hb hby own_d_prog_40_method_2_30)
  refine own_Goes.st ?_ st4
  show own_Goes p.tables e below P (T4.setTop (mkF m 33 #[.val (.ref a), .val (.int v)] [(.ref b)]))
  refine own_Goes.st ?_ (fun _ k => XS.aloadN X4.here hx rfl (hb hby own_d_prog_40_method_2_33) rfl rfl k)
  show own_Goes p.tables e below P (T4.setTop (mkF m 34 #[.val (.ref a), .val (.int v)] [(.ref a), (.ref b)]))
  refine own_Goes.st ?_ (fun _ k => XS.dup X4.here hx rfl (hb hby own_d_prog_40_method_2_34) rfl rfl k)
  show own_Goes p.tables e below P (T4.setTop (mkF m 35 #[.val (.ref a), .val (.int v)] [(.ref a), (.ref a), (.ref b)]))
  obtain ⟨T5, X5, e5, st5⟩ := getF X4 hx hZ hown (host := "") (Or.inl (hw _ (List.mem_of_getElem? (i := 18) rfl))) Via.refl e4 pr2 (g := (mkF m 35 #[.val (.ref a), .val (.int v)] [(.ref a), (.ref a), (.ref b)])) rfl rfl (hb hby own_d_prog_40_method_2_35)
  refine own_Goes.st ?_ st5
  show own_Goes p.tables e below P (T5.setTop (mkF m 38 #[.val (.ref a), .val (.int v)] [(.int (0 : Int32)), (.ref a), (.ref b)]))
  refine own_Goes.st ?_ (fun _ k => XS.dupX1 X5.here hx rfl (hb hby own_d_prog_40_method_2_38) rfl rfl rfl k)
  show own_Goes p.tables e below P (T5.setTop (mkF m 39 #[.val (.ref a), .val (.int v)] [(.int (0 : Int32)), (.ref a), (.int (0 : Int32)), (.ref b)]))
  refine own_Goes.st ?_ (fun _ k => XS.iconst X5.here hx rfl (hb hby own_d_prog_40_method_2_39) k)
  show own_Goes p.tables e below P (T5.setTop (mkF m 40 #[.val (.ref a), .val (.int v)] [(.int (1 : Int32)), (.int (0 : Int32)), (.ref a), (.int (0 : Int32)), (.ref b)]))
  refine own_Goes.st ?_ (fun _ k => XS.iadd X5.here hx rfl (hb hby own_d_prog_40_method_2_40) rfl k)
  show own_Goes p.tables e below P (T5.setTop (mkF m 41 #[.val (.ref a), .val (.int v)] [(.int (1 : Int32)), (.ref a), (.int (0 : Int32)), (.ref b)]))
  obtain ⟨T6, h6, X6, e6, W6, st6⟩ := putF X5 hx hZ hown (host := "") (Or.inl (hw _ (List.mem_of_getElem? (i := 18) rfl))) Via.refl e5 pr2 pr0 (Or.inl (hw _ (List.mem_of_getElem? (i := 19) rfl))) (hw _ (List.mem_of_getElem? (i := 2) rfl)) (ty := .int) (by decide) rfl rfl (g := (mkF m 41 #[.val (.ref a), .val (.int v)] [(.int (1 : Int32)), (.ref a), (.int (0 : Int32)), (.ref b)])) rfl rfl (hb hby own_d_prog_40_method_2_41)
  refine own_Goes.st ?_ st6
  have F7 : Fld Z h6 a "com/example/taxodelta/taxodelta/taxonomy/IntList" "size" "I" (.int (1 : Int32)) := pr2.same W6
  have Z8 : n0 ≤ h6.size := by rw [W6.size]; exact Z0
  have K9 := K0.wr W6 (Or.inl (List.mem_of_getElem? (i := 0) rfl))
  have N10 := Fr.snoc X6 N0 pr5
  show own_Goes p.tables e below P (T6.setTop (mkF m 44 #[.val (.ref a), .val (.int v)] [(.int (0 : Int32)), (.ref b)]))
  refine own_Goes.st ?_ (fun _ k => XS.iloadN X6.here hx rfl (hb hby own_d_prog_40_method_2_44) rfl k)
  show own_Goes p.tables e below P (T6.setTop (mkF m 45 #[.val (.ref a), .val (.int v)] [(.int v), (.int (0 : Int32)), (.ref b)]))
  have F11 : Arv Z h6 b k .int (2 : Int32) [(.int (0 : Int32)), (.int (0 : Int32))] (.int 0) := (pr3.other W6 (Ne.symm pr7))
  have Vc12 := F11
  obtain ⟨cl12, Ar12, q12, S12, Nn12, Hs12, Gs12⟩ := Vc12
  have hin13 : ¬ ((0 : Int32) < 0 ∨ cl12.slots.size ≤ ((0 : Int32)).toNatClampNeg) := inb_of S12 ⟨by decide, by decide⟩
  obtain ⟨T13, h13, X13, e13, W13, st13⟩ := stI X6 hx hZ e6 Ar12 (j := (0 : Int32)) hin13 (g := (mkF m 45 #[.val (.ref a), .val (.int v)] [(.int v), (.int (0 : Int32)), (.ref b)])) rfl rfl (hb hby own_d_prog_40_method_2_45)
  refine own_Goes.st ?_ st13
  have V14 : Arv Z h13 b k .int (2 : Int32) [(.int v), (.int (0 : Int32))] (.int 0) := Arv.set Ar12 q12 S12 Nn12 Hs12 Gs12 rfl W13 0 rfl (Nat.le_of_ble_eq_true rfl)
  have Z15 : n0 ≤ h13.size := by rw [W13.size]; exact Z8
  have K16 := K9.wr W13 (Or.inl (List.mem_of_getElem? (i := 1) rfl))
  have N17 := Fr.snoc X13 N10 pr6
  show own_Goes p.tables e below P (T13.setTop (mkF m 46 #[.val (.ref a), .val (.int v)] []))
  have F18 : Fld Z h13 a "com/example/taxodelta/taxodelta/taxonomy/IntList" "values" "[I" (.ref b) := ((pr1.other W6 (Or.inr (slot_ne (Or.inl (hw _ (List.mem_of_getElem? (i := 12) rfl))) (Or.inl (hw _ (List.mem_of_getElem? (i := 19) rfl))) (by decide) (t := (.array .int)) (t' := .int) (by decide) (by decide)))).other W13 (Or.inl pr7))
  obtain ⟨fs, hr, hrun, hended, hW, hsame⟩ := X13.leave (v := none) (fun _ => rfl)
  have F19 : Exa Z h13 a "com/example/taxodelta/taxodelta/taxonomy/IntList" := ((pr0.wr W6).wr W13)
  have F20 : Fld Z h13 a "com/example/taxodelta/taxodelta/taxonomy/IntList" "size" "I" (.int (1 : Int32)) := (F7.other W13 (Or.inl pr7))
  have F21 : Exa Z h13 b "[I" := ((pr4.wr W6).wr W13)
  exact own_Goes.fin _ _ (X13.returnOut hx Bd.returns (hb hby own_d_prog_40_method_2_46) hr) (hPP _ _ ⟨hrun, hended, _, _, rfl, (by show Q_add_0 Z a v b k h0 n0 _ T13.heap _; rw [e13]; exact ⟨rfl, N17, K16, F19, F18, F20, V14, F21⟩), ⟨_, rfl⟩, hW, hsame.mono (by decide) (by decide)⟩)
theorem own_ef_add_1 (m : MethodId) (x0 : Addr) (x1 : Int32) : entryFrame m #[(.ref x0), (.int x1)] 2 = mkF m 0 #[.val (.ref x0), .val (.int x1)] [] := by first | (simp [entryFrame, mkF, argsToLocals, Value.category]; done) | rfl
def Q_add_1 (Z : State) (a : Addr) (v : Int32) (b : Addr) (k : ClassId) (x0 : Int32) (h0 : Heap) (n0 : Nat) (rv_ : Option Value) (h_ : Heap) (L_ : List Loc) : Prop := rv_ = none ∧ Fr n0 L_ ∧ Keep h0 h_ [a, b] ∧ (Exa Z h_ a "com/example/taxodelta/taxodelta/taxonomy/IntList") ∧ (Fld Z h_ a "com/example/taxodelta/taxodelta/taxonomy/IntList" "values" "[I" (.ref b)) ∧ (Fld Z h_ a "com/example/taxodelta/taxodelta/taxonomy/IntList" "size" "I" (.int (2 : Int32))) ∧ (Arv Z h_ b k .int (2 : Int32) [(.int x0), (.int v)] (.int 0)) ∧ (Exa Z h_ b "[I")
set_option maxRecDepth 65536 in
set_option maxHeartbeats 40000000 in
theorem rm_add_1 (l : Launch) (Z : State) (a0 : Array Value) (hw : ∀ d ∈ tables_1, d.before a0 Z = true) (ws : List Jvm.Cond) (a : Addr) (v : Int32) (b : Addr) (k : ClassId) (x0 : Int32) (h0 : Heap) (n0 : Nat) (Z0 : n0 ≤ h0.size) (pr0 : Exa Z h0 a "com/example/taxodelta/taxodelta/taxonomy/IntList") (pr1 : Fld Z h0 a "com/example/taxodelta/taxodelta/taxonomy/IntList" "values" "[I" (.ref b)) (pr2 : Fld Z h0 a "com/example/taxodelta/taxodelta/taxonomy/IntList" "size" "I" (.int (1 : Int32))) (pr3 : Arv Z h0 b k .int (2 : Int32) [(.int x0), (.int (0 : Int32))] (.int 0)) (pr4 : Exa Z h0 b "[I") (pr5 : n0 ≤ a) (pr6 : n0 ≤ b) (pr7 : a ≠ b) :
    MetFree l (⟨"com/example/taxodelta/taxodelta/taxonomy/IntList", "add", "(I)V"⟩ : MethodName) (head1 (Jvm.Cond.code (⟨"com/example/taxodelta/taxodelta/taxonomy/IntList", "add", "(I)V"⟩ : MethodName) prog_40_method_2_code 2 none :: ws) ({ frames := 0, cells := 0, slots := 0, locals := 0 } : Room)) (fun as_ U => as_ = #[(.ref a), (.int v)] ∧ Z.Warmed39 U.vm ∧ U.heap = h0) (fun _ _ _ _ _ => True) (fun _ U o U' => ∃ rv_ L_, o = .returned rv_ ∧ Q_add_1 Z a v b k x0 h0 n0 rv_ U'.heap L_ ∧ FrameEnd U o U' L_ ({ frames := 0, cells := 0, slots := 0, locals := 0 } : Room).cells ({ frames := 0, cells := 0, slots := 0, locals := 0 } : Room).slots) := by
  refine MetFree.of_bodySF (plainFor_of_name own_pn_com_example_taxodelta_taxodelta_taxonomy_IntList) hisR ?_
  intro p e s m args below meth c s₁ Bd hml0 hP hK
  obtain ⟨rfl, hZ, hh⟩ := hP
  have hx := Bd.exec
  have hby := Bd.bytes
  have hml : c.maxLocals = 2 := hml0
  have hown : s.vm.findClass "com/example/taxodelta/taxodelta/taxonomy/IntList" = some m.cls := findClass_of_methodNamed Bd.named
  have hnm := (name_of_methodNamed Bd.named Bd.method).1
  have X0 : Stand p l e ({ frames := 0, cells := 0, slots := 0, locals := 0 } : Room) s m #[(.ref a), (.int v)] below meth c s₁ [] 0 0 := Stand.of_body Bd
  have e0 : s₁.heap = h0 := by rw [← hh, Bd.state]; rfl
  have N0 := Fr.nil n0
  refine own_Goes.of ?_
  refine own_Goes.nm (fun P hPP => ?_)
  refine own_Goes.st ?_ (fun _ k => castTop (own_ef_add_1 m a v) k)
  have K0 : Keep h0 h0 [a, b] := Keep.refl _ _
  show own_Goes p.tables e below P (s₁.setTop (mkF m 0 #[.val (.ref a), .val (.int v)] []))
  refine own_Goes.st ?_ (fun _ k => XS.aloadN X0.here hx rfl (hb hby own_d_prog_40_method_2_0) rfl rfl k)
  show own_Goes p.tables e below P (s₁.setTop (mkF m 1 #[.val (.ref a), .val (.int v)] [(.ref a)]))
  obtain ⟨T1, X1, e1, st1⟩ := getF X0 hx hZ hown (host := "") (Or.inl (hw _ (List.mem_of_getElem? (i := 18) rfl))) Via.refl e0 pr2 (g := (mkF m 1 #[.val (.ref a), .val (.int v)] [(.ref a)])) rfl rfl (hb hby own_d_prog_40_method_2_1)
  refine own_Goes.st ?_ st1
  show own_Goes p.tables e below P (T1.setTop (mkF m 4 #[.val (.ref a), .val (.int v)] [(.int (1 : Int32))]))
  refine own_Goes.st ?_ (fun _ k => XS.aloadN X1.here hx rfl (hb hby own_d_prog_40_method_2_4) rfl rfl k)
  show own_Goes p.tables e below P (T1.setTop (mkF m 5 #[.val (.ref a), .val (.int v)] [(.ref a), (.int (1 : Int32))]))
  obtain ⟨T2, X2, e2, st2⟩ := getF X1 hx hZ hown (host := "") (Or.inl (hw _ (List.mem_of_getElem? (i := 11) rfl))) Via.refl e1 pr1 (g := (mkF m 5 #[.val (.ref a), .val (.int v)] [(.ref a), (.int (1 : Int32))])) rfl rfl (hb hby own_d_prog_40_method_2_5)
  refine own_Goes.st ?_ st2
  show own_Goes p.tables e below P (T2.setTop (mkF m 8 #[.val (.ref a), .val (.int v)] [(.ref b), (.int (1 : Int32))]))
  have Vc3 := pr3
  obtain ⟨cl3, Ar3, q3, S3, Nn3, Hs3, Gs3⟩ := Vc3
  refine own_Goes.st ?_ (X2.arraylength hx (by rw [e2]; exact Ar3.1) (State.isArrayOf_alike hZ.alike Ar3.2.1) (g := (mkF m 8 #[.val (.ref a), .val (.int v)] [(.ref b), (.int (1 : Int32))])) rfl rfl (hb hby own_d_prog_40_method_2_8))
  rw [len_of S3 Nn3]
  show own_Goes p.tables e below P (T2.setTop (mkF m 9 #[.val (.ref a), .val (.int v)] [(.int (2 : Int32)), (.int (1 : Int32))]))
  refine own_Goes.st ?_ (fun _ k => XS.icmpYes X2.here hx rfl (pc0 := 9) (pc' := 29) rfl (hb hby own_d_prog_40_method_2_9) rfl (feq (by decide : ¬ ((1 : Int32) = (2 : Int32)))).2 (by decide) (by decide) k)
  show own_Goes p.tables e below P (T2.setTop (mkF m 29 #[.val (.ref a), .val (.int v)] []))
  refine own_Goes.st ?_ (fun _ k => XS.aloadN X2.here hx rfl (hb hby own_d_prog_40_method_2_29) rfl rfl k)
  show own_Goes p.tables e below P (T2.setTop (mkF m 30 #[.val (.ref a), .val (.int v)] [(.ref a)]))
  obtain ⟨T4, X4, e4, st4⟩ := getF X2 hx hZ hown (host := "") (Or.inl (hw _ (List.mem_of_getElem? (i := 11) rfl))) Via.refl e2 pr1 (g := (mkF m 30 #[.val (.ref a), .val (.int v)] [(.ref a)])) rfl rfl (hb hby own_d_prog_40_method_2_30)
  refine own_Goes.st ?_ st4
  show own_Goes p.tables e below P (T4.setTop (mkF m 33 #[.val (.ref a), .val (.int v)] [(.ref b)]))
  refine own_Goes.st ?_ (fun _ k => XS.aloadN X4.here hx rfl (hb hby own_d_prog_40_method_2_33) rfl rfl k)
  show own_Goes p.tables e below P (T4.setTop (mkF m 34 #[.val (.ref a), .val (.int v)] [(.ref a), (.ref b)]))
  refine own_Goes.st ?_ (fun _ k => XS.dup X4.here hx rfl (hb hby own_d_prog_40_method_2_34) rfl rfl k)
  show own_Goes p.tables e below P (T4.setTop (mkF m 35 #[.val (.ref a), .val (.int v)] [(.ref a), (.ref a), (.ref b)]))
  obtain ⟨T5, X5, e5, st5⟩ := getF X4 hx hZ hown (host := "") (Or.inl (hw _ (List.mem_of_getElem? (i := 18) rfl))) Via.refl e4 pr2 (g := (mkF m 35 #[.val (.ref a), .val (.int v)] [(.ref a), (.ref a), (.ref b)])) rfl rfl (hb hby own_d_prog_40_method_2_35)
  refine own_Goes.st ?_ st5
  show own_Goes p.tables e below P (T5.setTop (mkF m 38 #[.val (.ref a), .val (.int v)] [(.int (1 : Int32)), (.ref a), (.ref b)]))
  refine own_Goes.st ?_ (fun _ k => XS.dupX1 X5.here hx rfl (hb hby own_d_prog_40_method_2_38) rfl rfl rfl k)
  show own_Goes p.tables e below P (T5.setTop (mkF m 39 #[.val (.ref a), .val (.int v)] [(.int (1 : Int32)), (.ref a), (.int (1 : Int32)), (.ref b)]))
  refine own_Goes.st ?_ (fun _ k => XS.iconst X5.here hx rfl (hb hby own_d_prog_40_method_2_39) k)
  show own_Goes p.tables e below P (T5.setTop (mkF m 40 #[.val (.ref a), .val (.int v)] [(.int (1 : Int32)), (.int (1 : Int32)), (.ref a), (.int (1 : Int32)), (.ref b)]))
  refine own_Goes.st ?_ (fun _ k => XS.iadd X5.here hx rfl (hb hby own_d_prog_40_method_2_40) rfl k)
  show own_Goes p.tables e below P (T5.setTop (mkF m 41 #[.val (.ref a), .val (.int v)] [(.int (2 : Int32)), (.ref a), (.int (1 : Int32)), (.ref b)]))
  obtain ⟨T6, h6, X6, e6, W6, st6⟩ := putF X5 hx hZ hown (host := "") (Or.inl (hw _ (List.mem_of_getElem? (i := 18) rfl))) Via.refl e5 pr2 pr0 (Or.inl (hw _ (List.mem_of_getElem? (i := 19) rfl))) (hw _ (List.mem_of_getElem? (i := 2) rfl)) (ty := .int) (by decide) rfl rfl (g := (mkF m 41 #[.val (.ref a), .val (.int v)] [(.int (2 : Int32)), (.ref a), (.int (1 : Int32)), (.ref b)])) rfl rfl (hb hby own_d_prog_40_method_2_41)
  refine own_Goes.st ?_ st6
  have F7 : Fld Z h6 a "com/example/taxodelta/taxodelta/taxonomy/IntList" "size" "I" (.int (2 : Int32)) := pr2.same W6
  have Z8 : n0 ≤ h6.size := by rw [W6.size]; exact Z0
  have K9 := K0.wr W6 (Or.inl (List.mem_of_getElem? (i := 0) rfl))
  have N10 := Fr.snoc X6 N0 pr5
  show own_Goes p.tables e below P (T6.setTop (mkF m 44 #[.val (.ref a), .val (.int v)] [(.int (1 : Int32)), (.ref b)]))
  refine own_Goes.st ?_ (fun _ k => XS.iloadN X6.here hx rfl (hb hby own_d_prog_40_method_2_44) rfl k)
  show own_Goes p.tables e below P (T6.setTop (mkF m 45 #[.val (.ref a), .val (.int v)] [(.int v), (.int (1 : Int32)), (.ref b)]))
  have F11 : Arv Z h6 b k .int (2 : Int32) [(.int x0), (.int (0 : Int32))] (.int 0) := (pr3.other W6 (Ne.symm pr7))
  have Vc12 := F11
  obtain ⟨cl12, Ar12, q12, S12, Nn12, Hs12, Gs12⟩ := Vc12
  have hin13 : ¬ ((1 : Int32) < 0 ∨ cl12.slots.size ≤ ((1 : Int32)).toNatClampNeg) := inb_of S12 ⟨by decide, by decide⟩
  obtain ⟨T13, h13, X13, e13, W13, st13⟩ := stI X6 hx hZ e6 Ar12 (j := (1 : Int32)) hin13 (g := (mkF m 45 #[.val (.ref a), .val (.int v)] [(.int v), (.int (1 : Int32)), (.ref b)])) rfl rfl (hb hby own_d_prog_40_method_2_45)
  refine own_Goes.st ?_ st13
  have V14 : Arv Z h13 b k .int (2 : Int32) [(.int x0), (.int v)] (.int 0) := Arv.set Ar12 q12 S12 Nn12 Hs12 Gs12 rfl W13 1 rfl (Nat.le_of_ble_eq_true rfl)
  have Z15 : n0 ≤ h13.size := by rw [W13.size]; exact Z8
  have K16 := K9.wr W13 (Or.inl (List.mem_of_getElem? (i := 1) rfl))
  have N17 := Fr.snoc X13 N10 pr6
  show own_Goes p.tables e below P (T13.setTop (mkF m 46 #[.val (.ref a), .val (.int v)] []))
  have F18 : Fld Z h13 a "com/example/taxodelta/taxodelta/taxonomy/IntList" "values" "[I" (.ref b) := ((pr1.other W6 (Or.inr (slot_ne (Or.inl (hw _ (List.mem_of_getElem? (i := 12) rfl))) (Or.inl (hw _ (List.mem_of_getElem? (i := 19) rfl))) (by decide) (t := (.array .int)) (t' := .int) (by decide) (by decide)))).other W13 (Or.inl pr7))
  obtain ⟨fs, hr, hrun, hended, hW, hsame⟩ := X13.leave (v := none) (fun _ => rfl)
  have F19 : Exa Z h13 a "com/example/taxodelta/taxodelta/taxonomy/IntList" := ((pr0.wr W6).wr W13)
  have F20 : Fld Z h13 a "com/example/taxodelta/taxodelta/taxonomy/IntList" "size" "I" (.int (2 : Int32)) := (F7.other W13 (Or.inl pr7))
  have F21 : Exa Z h13 b "[I" := ((pr4.wr W6).wr W13)
  exact own_Goes.fin _ _ (X13.returnOut hx Bd.returns (hb hby own_d_prog_40_method_2_46) hr) (hPP _ _ ⟨hrun, hended, _, _, rfl, (by show Q_add_1 Z a v b k x0 h0 n0 _ T13.heap _; rw [e13]; exact ⟨rfl, N17, K16, F19, F18, F20, V14, F21⟩), ⟨_, rfl⟩, hW, hsame.mono (by decide) (by decide)⟩)
theorem own_ef_copy_2_2_4 (m : MethodId) (x0 : Addr) : entryFrame m #[(.ref x0), (.int (4 : Int32))] 3 = mkF m 0 #[.val (.ref x0), .val (.int (4 : Int32)), .unset] [] := by first | (simp [entryFrame, mkF, argsToLocals, Value.category]; done) | rfl
theorem own_pn_java_util_Arrays : plainName "java/util/Arrays" = true := by first | (simp [plainName, overriddenIn]; done) | decide +kernel
theorem own_d_jdk_65_method_123_0 : decode jdk_65_method_123_code 0 = .ok (.iload_n 1, 1) := by decide +kernel
theorem own_d_jdk_65_method_123_1 : decode jdk_65_method_123_code 1 = .ok (.aload_n 0, 1) := by decide +kernel
theorem own_d_jdk_65_method_123_2 : decode jdk_65_method_123_code 2 = .ok (.arraylength, 1) := by decide +kernel
theorem own_d_jdk_65_method_123_3 : decode jdk_65_method_123_code 3 = .ok (.if_icmp .ne 11, 3) := by decide +kernel
theorem own_d_jdk_65_method_123_14 : decode jdk_65_method_123_code 14 = .ok (.iload_n 1, 1) := by decide +kernel
theorem own_d_jdk_65_method_123_15 : decode jdk_65_method_123_code 15 = .ok (.newarray .int, 2) := by decide +kernel
theorem own_d_jdk_65_method_123_17 : decode jdk_65_method_123_code 17 = .ok (.astore_n 2, 1) := by decide +kernel
theorem own_d_jdk_65_method_123_18 : decode jdk_65_method_123_code 18 = .ok (.aload_n 0, 1) := by decide +kernel
theorem own_d_jdk_65_method_123_19 : decode jdk_65_method_123_code 19 = .ok (.iconst 0, 1) := by decide +kernel
theorem own_d_jdk_65_method_123_20 : decode jdk_65_method_123_code 20 = .ok (.aload_n 2, 1) := by decide +kernel
theorem own_d_jdk_65_method_123_21 : decode jdk_65_method_123_code 21 = .ok (.iconst 0, 1) := by decide +kernel
theorem own_d_jdk_65_method_123_22 : decode jdk_65_method_123_code 22 = .ok (.aload_n 0, 1) := by decide +kernel
theorem own_d_jdk_65_method_123_23 : decode jdk_65_method_123_code 23 = .ok (.arraylength, 1) := by decide +kernel
theorem own_d_jdk_65_method_123_24 : decode jdk_65_method_123_code 24 = .ok (.iload_n 1, 1) := by decide +kernel
theorem own_pd__28_II_29_I : parseMethodDescriptor "(II)I" = some ⟨[.int, .int], some .int⟩ := by decide +kernel
theorem own_d_jdk_65_method_123_25 : decode jdk_65_method_123_code 25 = .ok (.invokestatic 304, 3) := by decide +kernel
theorem own_d_jdk_65_method_123_28 : decode jdk_65_method_123_code 28 = .ok (.invokestatic 150, 3) := by decide +kernel
theorem own_d_jdk_65_method_123_31 : decode jdk_65_method_123_code 31 = .ok (.aload_n 2, 1) := by decide +kernel
theorem own_d_jdk_65_method_123_32 : decode jdk_65_method_123_code 32 = .ok (.areturn, 1) := by decide +kernel
def Q_copy_2_2_4 (Z : State) (b : Addr) (k : ClassId) (x0 : Int32) (x1 : Int32) (h0 : Heap) (n0 : Nat) (rv_ : Option Value) (h_ : Heap) (L_ : List Loc) : Prop := ∃ (r : Addr) (q : ClassId), rv_ = some (.ref r) ∧ Fr n0 L_ ∧ Keep h0 h_ [] ∧ (h0.size ≤ r) ∧ (Arv Z h_ r q .int (4 : Int32) [(.int x0), (.int x1), (.int (0 : Int32)), (.int (0 : Int32))] (.int 0)) ∧ (Exa Z h_ r "[I")
set_option maxRecDepth 65536 in
set_option maxHeartbeats 40000000 in
theorem rm_copy_2_2_4 (l : Launch) (Z : State) (a0 : Array Value) (hw : ∀ d ∈ tables_1, d.before a0 Z = true) (ws : List Jvm.Cond) (b : Addr) (k : ClassId) (x0 : Int32) (x1 : Int32) (h0 : Heap) (n0 : Nat) (Z0 : n0 ≤ h0.size) (pr0 : Arv Z h0 b k .int (2 : Int32) [(.int x0), (.int x1)] (.int 0)) (pr1 : Exa Z h0 b "[I") :
    MetFree l (⟨"java/util/Arrays", "copyOf", "([II)[I"⟩ : MethodName) (head1 (Jvm.Cond.code (⟨"java/util/Arrays", "copyOf", "([II)[I"⟩ : MethodName) jdk_65_method_123_code 3 (some (.array .int)) :: ws) ({ frames := 1, cells := 1, slots := 4, locals := 18 } : Room)) (fun as_ U => as_ = #[(.ref b), (.int (4 : Int32))] ∧ Z.Warmed39 U.vm ∧ U.heap = h0) (fun _ _ _ _ _ => True) (fun _ U o U' => ∃ rv_ L_, o = .returned rv_ ∧ Q_copy_2_2_4 Z b k x0 x1 h0 n0 rv_ U'.heap L_ ∧ FrameEnd U o U' L_ ({ frames := 1, cells := 1, slots := 4, locals := 18 } : Room).cells ({ frames := 1, cells := 1, slots := 4, locals := 18 } : Room).slots) := by
  refine MetFree.of_bodySF (plainFor_of_name own_pn_java_util_Arrays) hisR ?_
  intro p e s m args below meth c s₁ Bd hml0 hP hK
  obtain ⟨rfl, hZ, hh⟩ := hP
  have hx := Bd.exec
  have hby := Bd.bytes
  have hml : c.maxLocals = 3 := hml0
  have hown : s.vm.findClass "java/util/Arrays" = some m.cls := findClass_of_methodNamed Bd.named
  have hnm := (name_of_methodNamed Bd.named Bd.method).1
  have X0 : Stand p l e ({ frames := 1, cells := 1, slots := 4, locals := 18 } : Room) s m #[(.ref b), (.int (4 : Int32))] below meth c s₁ [] 0 0 := Stand.of_body Bd
  have e0 : s₁.heap = h0 := by rw [← hh, Bd.state]; rfl
  have N0 := Fr.nil n0
  refine own_Goes.of ?_
  refine own_Goes.nm (fun P hPP => ?_)
  refine own_Goes.st ?_ (fun _ k => castTop (own_ef_copy_2_2_4 m b) k)
  have K0 : Keep h0 h0 [] := Keep.refl _ _
  show own_Goes p.tables e below P (s₁.setTop (mkF m 0 #[.val (.ref b), .val (.int (4 : Int32)), .unset] []))
  refine own_Goes.st ?_ (fun _ k => XS.iloadN X0.here hx rfl (hb hby own_d_jdk_65_method_123_0) rfl k)
  show own_Goes p.tables e below P (s₁.setTop (mkF m 1 #[.val (.ref b), .val (.int (4 : Int32)), .unset] [(.int (4 : Int32))]))
  refine own_Goes.st ?_ (fun _ k => XS.aloadN X0.here hx rfl (hb hby own_d_jdk_65_method_123_1) rfl rfl k)
  show own_Goes p.tables e below P (s₁.setTop (mkF m 2 #[.val (.ref b), .val (.int (4 : Int32)), .unset] [(.ref b), (.int (4 : Int32))]))
  have Vc1 := pr0
  obtain ⟨cl1, Ar1, q1, S1, Nn1, Hs1, Gs1⟩ := Vc1
  refine own_Goes.st ?_ (X0.arraylength hx (by rw [e0]; exact Ar1.1) (State.isArrayOf_alike hZ.alike Ar1.2.1) (g := (mkF m 2 #[.val (.ref b), .val (.int (4 : Int32)), .unset] [(.ref b), (.int (4 : Int32))])) rfl rfl (hb hby own_d_jdk_65_method_123_2))
  rw [len_of S1 Nn1]
  show own_Goes p.tables e below P (s₁.setTop (mkF m 3 #[.val (.ref b), .val (.int (4 : Int32)), .unset] [(.int (2 : Int32)), (.int (4 : Int32))]))
  refine own_Goes.st ?_ (fun _ k => XS.icmpYes X0.here hx rfl (pc0 := 3) (pc' := 14) rfl (hb hby own_d_jdk_65_method_123_3) rfl (feq (by decide : ¬ ((4 : Int32) = (2 : Int32)))).2 (by decide) (by decide) k)
  show own_Goes p.tables e below P (s₁.setTop (mkF m 14 #[.val (.ref b), .val (.int (4 : Int32)), .unset] []))
  refine own_Goes.st ?_ (fun _ k => XS.iloadN X0.here hx rfl (hb hby own_d_jdk_65_method_123_14) rfl k)
  show own_Goes p.tables e below P (s₁.setTop (mkF m 15 #[.val (.ref b), .val (.int (4 : Int32)), .unset] [(.int (4 : Int32))]))
  obtain ⟨T2, h2, k2, X2, e2, E2, A2, J2, st2⟩ := newPE X0 hx hZ (hw _ (List.mem_of_getElem? (i := 10) rfl)) e0 (g := (mkF m 15 #[.val (.ref b), .val (.int (4 : Int32)), .unset] [(.int (4 : Int32))])) rfl (hb hby own_d_jdk_65_method_123_15) rfl (by decide) (cap := 4) (by decide) (by decide) (by decide) (by decide) (ad := "[I") rfl
  obtain ⟨b2, g2⟩ : ∃ z, z = h0.size := ⟨_, rfl⟩
  rw [← g2] at A2 J2 st2
  have ne3 : b ≠ b2 := Nat.ne_of_lt (Nat.lt_of_lt_of_eq pr0.lt g2.symm)
  have ge_b2 : n0 ≤ b2 := Nat.le_trans Z0 (Nat.le_of_eq g2.symm)
  have sz_b2 : h0.size ≤ b2 := Nat.le_trans K0.1 (Nat.le_of_eq g2.symm)
  refine own_Goes.st ?_ st2
  have Z4 : n0 ≤ h2.size := Nat.le_trans Z0 E2.1
  have K5 := K0.ext E2
  have V6 : Arv Z h2 b2 k2 .int (4 : Int32) [(.int (0 : Int32)), (.int (0 : Int32)), (.int (0 : Int32)), (.int (0 : Int32))] (.int 0) := (Arv.new A2 (by decide)).pad (pad_rep [] _ 4)
  show own_Goes p.tables e below P (T2.setTop (mkF m 17 #[.val (.ref b), .val (.int (4 : Int32)), .unset] [(.ref b2)]))
  refine own_Goes.st ?_ (fun _ k => XS.astoreN X2.here hx rfl (hb hby own_d_jdk_65_method_123_17) rfl rfl (l' := #[.val (.ref b), .val (.int (4 : Int32)), .val (.ref b2)]) rfl k)
  show own_Goes p.tables e below P (T2.setTop (mkF m 18 #[.val (.ref b), .val (.int (4 : Int32)), .val (.ref b2)] []))
  refine own_Goes.st ?_ (fun _ k => XS.aloadN X2.here hx rfl (hb hby own_d_jdk_65_method_123_18) rfl rfl k)
  show own_Goes p.tables e below P (T2.setTop (mkF m 19 #[.val (.ref b), .val (.int (4 : Int32)), .val (.ref b2)] [(.ref b)]))
  refine own_Goes.st ?_ (fun _ k => XS.iconst X2.here hx rfl (hb hby own_d_jdk_65_method_123_19) k)
  show own_Goes p.tables e below P (T2.setTop (mkF m 20 #[.val (.ref b), .val (.int (4 : Int32)), .val (.ref b2)] [(.int (0 : Int32)), (.ref b)]))
  refine own_Goes.st ?_ (fun _ k => XS.aloadN X2.here hx rfl (hb hby own_d_jdk_65_method_123_20) rfl rfl k)
  show own_Goes p.tables e below P (T2.setTop (mkF m 21 #[.val (.ref b), .val (.int (4 : Int32)), .val (.ref b2)] [(.ref b2), (.int (0 : Int32)), (.ref b)]))
  refine own_Goes.st ?_ (fun _ k => XS.iconst X2.here hx rfl (hb hby own_d_jdk_65_method_123_21) k)
  show own_Goes p.tables e below P (T2.setTop (mkF m 22 #[.val (.ref b), .val (.int (4 : Int32)), .val (.ref b2)] [(.int (0 : Int32)), (.ref b2), (.int (0 : Int32)), (.ref b)]))
  refine own_Goes.st ?_ (fun _ k => XS.aloadN X2.here hx rfl (hb hby own_d_jdk_65_method_123_22) rfl rfl k)
  show own_Goes p.tables e below P (T2.setTop (mkF m 23 #[.val (.ref b), .val (.int (4 : Int32)), .val (.ref b2)] [(.ref b), (.int (0 : Int32)), (.ref b2), (.int (0 : Int32)), (.ref b)]))
  have F7 : Arv Z h2 b k .int (2 : Int32) [(.int x0), (.int x1)] (.int 0) := (pr0.ext E2)
  have Vc8 := F7
  obtain ⟨cl8, Ar8, q8, S8, Nn8, Hs8, Gs8⟩ := Vc8
  refine own_Goes.st ?_ (X2.arraylength hx (by rw [e2]; exact Ar8.1) (State.isArrayOf_alike hZ.alike Ar8.2.1) (g := (mkF m 23 #[.val (.ref b), .val (.int (4 : Int32)), .val (.ref b2)] [(.ref b), (.int (0 : Int32)), (.ref b2), (.int (0 : Int32)), (.ref b)])) rfl rfl (hb hby own_d_jdk_65_method_123_23))
  rw [len_of S8 Nn8]
  show own_Goes p.tables e below P (T2.setTop (mkF m 24 #[.val (.ref b), .val (.int (4 : Int32)), .val (.ref b2)] [(.int (2 : Int32)), (.int (0 : Int32)), (.ref b2), (.int (0 : Int32)), (.ref b)]))
  refine own_Goes.st ?_ (fun _ k => XS.iloadN X2.here hx rfl (hb hby own_d_jdk_65_method_123_24) rfl k)
  show own_Goes p.tables e below P (T2.setTop (mkF m 25 #[.val (.ref b), .val (.int (4 : Int32)), .val (.ref b2)] [(.int (4 : Int32)), (.int (2 : Int32)), (.int (0 : Int32)), (.ref b2), (.int (0 : Int32)), (.ref b)]))
  obtain ⟨_, _, ⟨T9, L9, k9, n9⟩, -, X9, ⟨Lc9, hQ9, l9, y9, z9⟩, st9⟩ := Jvm.LawKit.callS X2 hx (y := (⟨"java/lang/Math", "min", "(II)I"⟩ : MethodName)) hown (mvT hZ (hw _ (List.mem_of_getElem? (i := 29) rfl))) (mvT hZ (hw _ (List.mem_of_getElem? (i := 30) rfl))) (mvT hZ (hw _ (List.mem_of_getElem? (i := 31) rfl))) (mvT hZ (hw _ (List.mem_of_getElem? (i := 32) rfl))) (by decide) (backOf (W := 4) (rm_imin l Z a0 hw [] (2 : Int32) (4 : Int32) h2 n0 Z4) hZ (hw _ (List.mem_of_getElem? (i := 32) rfl)) (hw _ (List.mem_of_getElem? (i := 31) rfl)) (by decide) (by decide)) (g := (mkF m 25 #[.val (.ref b), .val (.int (4 : Int32)), .val (.ref b2)] [(.int (4 : Int32)), (.int (2 : Int32)), (.int (0 : Int32)), (.ref b2), (.int (0 : Int32)), (.ref b)])) rfl (by rw [hml]; rfl) (argsL := [(.int (2 : Int32)), (.int (4 : Int32))]) (rest := [(.int (0 : Int32)), (.ref b2), (.int (0 : Int32)), (.ref b)]) (lenOf own_pd__28_II_29_I rfl) rfl (by show 2 * 0 + _ ≤ _; exact Nat.le_of_eq rfl) (hb hby own_d_jdk_65_method_123_25) (fun _ _ => ⟨rfl, e2, (by decide : 1 + 0 ≤ _), (by decide : 4 + 0 ≤ _)⟩)
  dsimp only [Pt.U, Pt.locs, Pt.cells, Pt.slots] at X9 l9 y9 z9 st9 hQ9
  subst l9 y9 z9
  obtain ⟨rfl, Nq9, e9⟩ := hQ9
  have N9 := Fr.app N0 Nq9
  refine own_Goes.st ?_ st9
  show own_Goes p.tables e below P (T9.setTop (mkF m 28 #[.val (.ref b), .val (.int (4 : Int32)), .val (.ref b2)] [(.int (own_imin (2 : Int32) (4 : Int32))), (.int (0 : Int32)), (.ref b2), (.int (0 : Int32)), (.ref b)]))
  rw [(rfl : own_imin (2 : Int32) (4 : Int32) = (2 : Int32))]
  show own_Goes p.tables e below P (T9.setTop (mkF m 28 #[.val (.ref b), .val (.int (4 : Int32)), .val (.ref b2)] [(.int (2 : Int32)), (.int (0 : Int32)), (.ref b2), (.int (0 : Int32)), (.ref b)]))
  obtain ⟨T10, h10, L10, X10, e10, N10, K10, V10, st10⟩ := cpA X9 hx hZ hown (hw _ (List.mem_of_getElem? (i := 33) rfl)) (hw _ (List.mem_of_getElem? (i := 36) rfl)) (hw _ (List.mem_of_getElem? (i := 34) rfl)) (hw _ (List.mem_of_getElem? (i := 35) rfl)) e9 (sp := (0 : Int32)) (dp := (0 : Int32)) (nn := (2 : Int32)) (us := [(.int x0), (.int x1)]) F7 V6 (Or.inl ⟨rfl, rfl⟩) (by decide) (by decide) (by decide) (by decide) (by decide) rfl (by decide) N9 ge_b2 (g := (mkF m 28 #[.val (.ref b), .val (.int (4 : Int32)), .val (.ref b2)] [(.int (2 : Int32)), (.int (0 : Int32)), (.ref b2), (.int (0 : Int32)), (.ref b)])) rfl (by rw [hml]; rfl) rfl (hb hby own_d_jdk_65_method_123_28) (by decide) (W := 0) (by show 2 * 0 + _ ≤ _; exact Nat.le_of_eq rfl) (by decide)
  refine own_Goes.st ?_ st10
  have V11 : Arv Z h10 b2 k2 .int (4 : Int32) [(.int x0), (.int x1), (.int (0 : Int32)), (.int (0 : Int32))] (.int 0) := V10
  have Z12 : n0 ≤ h10.size := Nat.le_trans Z4 K10.1
  have K13 := K5.trans K10 (allS (Or.inr sz_b2) all0)
  show own_Goes p.tables e below P (T10.setTop (mkF m 31 #[.val (.ref b), .val (.int (4 : Int32)), .val (.ref b2)] []))
  refine own_Goes.st ?_ (fun _ k => XS.aloadN X10.here hx rfl (hb hby own_d_jdk_65_method_123_31) rfl rfl k)
  show own_Goes p.tables e below P (T10.setTop (mkF m 32 #[.val (.ref b), .val (.int (4 : Int32)), .val (.ref b2)] [(.ref b2)]))
  obtain ⟨fs, hr, hrun, hended, hW, hsame⟩ := X10.leave (v := some (.ref b2)) (fun h => by rw [Bd.returns] at h; cases h)
  have F14 : Exa Z h10 b2 "[I" := (J2.keep K10)
  exact own_Goes.fin _ _ (retOut X10 hx (t := (.array .int)) Bd.returns rfl (Or.inr (Or.inr (Or.inr (Or.inr ⟨rfl, rfl, rfl⟩)))) (hb hby own_d_jdk_65_method_123_32) hr) (hPP _ _ ⟨hrun, hended, _, _, rfl, (by show Q_copy_2_2_4 Z b k x0 x1 h0 n0 _ T10.heap _; rw [e10]; exact ⟨b2, k2, rfl, N10, K13, sz_b2, V11, F14⟩), ⟨_, rfl⟩, hW, hsame.mono (by decide) (by decide)⟩)
theorem own_ef_add_2 (m : MethodId) (x0 : Addr) (x1 : Int32) : entryFrame m #[(.ref x0), (.int x1)] 2 = mkF m 0 #[.val (.ref x0), .val (.int x1)] [] := by first | (simp [entryFrame, mkF, argsToLocals, Value.category]; done) | rfl
theorem own_d_prog_40_method_2_12 : decode prog_40_method_2_code 12 = .ok (.aload_n 0, 1) := by decide +kernel
theorem own_d_prog_40_method_2_13 : decode prog_40_method_2_code 13 = .ok (.aload_n 0, 1) := by decide +kernel
theorem own_d_prog_40_method_2_14 : decode prog_40_method_2_code 14 = .ok (.getfield 7, 3) := by decide +kernel
theorem own_d_prog_40_method_2_17 : decode prog_40_method_2_code 17 = .ok (.aload_n 0, 1) := by decide +kernel
theorem own_d_prog_40_method_2_18 : decode prog_40_method_2_code 18 = .ok (.getfield 13, 3) := by decide +kernel
theorem own_d_prog_40_method_2_21 : decode prog_40_method_2_code 21 = .ok (.iconst 2, 1) := by decide +kernel
theorem own_d_prog_40_method_2_22 : decode prog_40_method_2_code 22 = .ok (.imul, 1) := by decide +kernel
theorem own_pd__28__5b_II_29__5b_I : parseMethodDescriptor "([II)[I" = some ⟨[(.array .int), .int], some (.array .int)⟩ := by decide +kernel
theorem own_d_prog_40_method_2_23 : decode prog_40_method_2_code 23 = .ok (.invokestatic 17, 3) := by decide +kernel
theorem own_d_prog_40_method_2_26 : decode prog_40_method_2_code 26 = .ok (.putfield 7, 3) := by decide +kernel
def Q_add_2 (Z : State) (a : Addr) (v : Int32) (b : Addr) (k : ClassId) (x0 : Int32) (x1 : Int32) (h0 : Heap) (n0 : Nat) (rv_ : Option Value) (h_ : Heap) (L_ : List Loc) : Prop := ∃ (b2 : Addr) (k2 : ClassId), rv_ = none ∧ Fr n0 L_ ∧ Keep h0 h_ [a, b] ∧ (Exa Z h_ a "com/example/taxodelta/taxodelta/taxonomy/IntList") ∧ (Fld Z h_ a "com/example/taxodelta/taxodelta/taxonomy/IntList" "values" "[I" (.ref b2)) ∧ (Fld Z h_ a "com/example/taxodelta/taxodelta/taxonomy/IntList" "size" "I" (.int (3 : Int32))) ∧ (h0.size ≤ b2) ∧ (Arv Z h_ b2 k2 .int (4 : Int32) [(.int x0), (.int x1), (.int v), (.int (0 : Int32))] (.int 0)) ∧ (Exa Z h_ b2 "[I")
set_option maxRecDepth 65536 in
set_option maxHeartbeats 40000000 in
theorem rm_add_2 (l : Launch) (Z : State) (a0 : Array Value) (hw : ∀ d ∈ tables_1, d.before a0 Z = true) (ws : List Jvm.Cond) (a : Addr) (v : Int32) (b : Addr) (k : ClassId) (x0 : Int32) (x1 : Int32) (h0 : Heap) (n0 : Nat) (Z0 : n0 ≤ h0.size) (pr0 : Exa Z h0 a "com/example/taxodelta/taxodelta/taxonomy/IntList") (pr1 : Fld Z h0 a "com/example/taxodelta/taxodelta/taxonomy/IntList" "values" "[I" (.ref b)) (pr2 : Fld Z h0 a "com/example/taxodelta/taxodelta/taxonomy/IntList" "size" "I" (.int (2 : Int32))) (pr3 : Arv Z h0 b k .int (2 : Int32) [(.int x0), (.int x1)] (.int 0)) (pr4 : Exa Z h0 b "[I") (pr5 : n0 ≤ a) (pr6 : n0 ≤ b) (pr7 : a ≠ b) :
    MetFree l (⟨"com/example/taxodelta/taxodelta/taxonomy/IntList", "add", "(I)V"⟩ : MethodName) (head1 (Jvm.Cond.code (⟨"com/example/taxodelta/taxodelta/taxonomy/IntList", "add", "(I)V"⟩ : MethodName) prog_40_method_2_code 2 none :: ws) ({ frames := 2, cells := 1, slots := 4, locals := 33 } : Room)) (fun as_ U => as_ = #[(.ref a), (.int v)] ∧ Z.Warmed39 U.vm ∧ U.heap = h0) (fun _ _ _ _ _ => True) (fun _ U o U' => ∃ rv_ L_, o = .returned rv_ ∧ Q_add_2 Z a v b k x0 x1 h0 n0 rv_ U'.heap L_ ∧ FrameEnd U o U' L_ ({ frames := 2, cells := 1, slots := 4, locals := 33 } : Room).cells ({ frames := 2, cells := 1, slots := 4, locals := 33 } : Room).slots) := by
  refine MetFree.of_bodySF (plainFor_of_name own_pn_com_example_taxodelta_taxodelta_taxonomy_IntList) hisR ?_
  intro p e s m args below meth c s₁ Bd hml0 hP hK
  obtain ⟨rfl, hZ, hh⟩ := hP
  have hx := Bd.exec
  have hby := Bd.bytes
  have hml : c.maxLocals = 2 := hml0
  have hown : s.vm.findClass "com/example/taxodelta/taxodelta/taxonomy/IntList" = some m.cls := findClass_of_methodNamed Bd.named
  have hnm := (name_of_methodNamed Bd.named Bd.method).1
  have X0 : Stand p l e ({ frames := 2, cells := 1, slots := 4, locals := 33 } : Room) s m #[(.ref a), (.int v)] below meth c s₁ [] 0 0 := Stand.of_body Bd
  have e0 : s₁.heap = h0 := by rw [← hh, Bd.state]; rfl
  have N0 := Fr.nil n0
  refine own_Goes.of ?_
  refine own_Goes.nm (fun P hPP => ?_)
  refine own_Goes.st ?_ (fun _ k => castTop (own_ef_add_2 m a v) k)
  have K0 : Keep h0 h0 [a, b] := Keep.refl _ _
  show own_Goes p.tables e below P (s₁.setTop (mkF m 0 #[.val (.ref a), .val (.int v)] []))
  refine own_Goes.st ?_ (fun _ k => XS.aloadN X0.here hx rfl (hb hby own_d_prog_40_method_2_0) rfl rfl k)
  show own_Goes p.tables e below P (s₁.setTop (mkF m 1 #[.val (.ref a), .val (.int v)] [(.ref a)]))
  obtain ⟨T1, X1, e1, st1⟩ := getF X0 hx hZ hown (host := "") (Or.inl (hw _ (List.mem_of_getElem? (i := 18) rfl))) Via.refl e0 pr2 (g := (mkF m 1 #[.val (.ref a), .val (.int v)] [(.ref a)])) rfl rfl (hb hby own_d_prog_40_method_2_1)
  refine own_Goes.st ?_ st1
  show own_Goes p.tables e below P (T1.setTop (mkF m 4 #[.val (.ref a), .val (.int v)] [(.int (2 : Int32))]))
  refine own_Goes.st ?_ (fun _ k => XS.aloadN X1.here hx rfl (hb hby own_d_prog_40_method_2_4) rfl rfl k)
  show own_Goes p.tables e below P (T1.setTop (mkF m 5 #[.val (.ref a), .val (.int v)] [(.ref a), (.int (2 : Int32))]))
  obtain ⟨T2, X2, e2, st2⟩ := getF X1 hx hZ hown (host := "") (Or.inl (hw _ (List.mem_of_getElem? (i := 11) rfl))) Via.refl e1 pr1 (g := (mkF m 5 #[.val (.ref a), .val (.int v)] [(.ref a), (.int (2 : Int32))])) rfl rfl (hb hby own_d_prog_40_method_2_5)
  refine own_Goes.st ?_ st2
  show own_Goes p.tables e below P (T2.setTop (mkF m 8 #[.val (.ref a), .val (.int v)] [(.ref b), (.int (2 : Int32))]))
  have Vc3 := pr3
  obtain ⟨cl3, Ar3, q3, S3, Nn3, Hs3, Gs3⟩ := Vc3
  refine own_Goes.st ?_ (X2.arraylength hx (by rw [e2]; exact Ar3.1) (State.isArrayOf_alike hZ.alike Ar3.2.1) (g := (mkF m 8 #[.val (.ref a), .val (.int v)] [(.ref b), (.int (2 : Int32))])) rfl rfl (hb hby own_d_prog_40_method_2_8))
  rw [len_of S3 Nn3]
  show own_Goes p.tables e below P (T2.setTop (mkF m 9 #[.val (.ref a), .val (.int v)] [(.int (2 : Int32)), (.int (2 : Int32))]))
  refine own_Goes.st ?_ (fun _ k => XS.icmpNo X2.here hx rfl (hb hby own_d_prog_40_method_2_9) rfl (teq (by decide : (2 : Int32) = (2 : Int32))).2 k)
  show own_Goes p.tables e below P (T2.setTop (mkF m 12 #[.val (.ref a), .val (.int v)] []))
  refine own_Goes.st ?_ (fun _ k => XS.aloadN X2.here hx rfl (hb hby own_d_prog_40_method_2_12) rfl rfl k)
  show own_Goes p.tables e below P (T2.setTop (mkF m 13 #[.val (.ref a), .val (.int v)] [(.ref a)]))
  refine own_Goes.st ?_ (fun _ k => XS.aloadN X2.here hx rfl (hb hby own_d_prog_40_method_2_13) rfl rfl k)
  show own_Goes p.tables e below P (T2.setTop (mkF m 14 #[.val (.ref a), .val (.int v)] [(.ref a), (.ref a)]))
  obtain ⟨T4, X4, e4, st4⟩ := getF X2 hx hZ hown (host := "") (Or.inl (hw _ (List.mem_of_getElem? (i := 11) rfl))) Via.refl e2 pr1 (g := (mkF m 14 #[.val (.ref a), .val (.int v)] [(.ref a), (.ref a)])) rfl rfl (hb hby own_d_prog_40_method_2_14)
  refine own_Goes.st ?_ st4
  show own_Goes p.tables e below P (T4.setTop (mkF m 17 #[.val (.ref a), .val (.int v)] [(.ref b), (.ref a)]))
  refine own_Goes.st ?_ (fun _ k => XS.aloadN X4.here hx rfl (hb hby own_d_prog_40_method_2_17) rfl rfl k)
  show own_Goes p.tables e below P (T4.setTop (mkF m 18 #[.val (.ref a), .val (.int v)] [(.ref a), (.ref b), (.ref a)]))
  obtain ⟨T5, X5, e5, st5⟩ := getF X4 hx hZ hown (host := "") (Or.inl (hw _ (List.mem_of_getElem? (i := 18) rfl))) Via.refl e4 pr2 (g := (mkF m 18 #[.val (.ref a), .val (.int v)] [(.ref a), (.ref b), (.ref a)])) rfl rfl (hb hby own_d_prog_40_method_2_18)
  refine own_Goes.st ?_ st5
  show own_Goes p.tables e below P (T5.setTop (mkF m 21 #[.val (.ref a), .val (.int v)] [(.int (2 : Int32)), (.ref b), (.ref a)]))
  refine own_Goes.st ?_ (fun _ k => XS.iconst X5.here hx rfl (hb hby own_d_prog_40_method_2_21) k)
  show own_Goes p.tables e below P (T5.setTop (mkF m 22 #[.val (.ref a), .val (.int v)] [(.int (2 : Int32)), (.int (2 : Int32)), (.ref b), (.ref a)]))
  refine own_Goes.st ?_ (fun _ k => XS.imul X5.here hx rfl (hb hby own_d_prog_40_method_2_22) rfl k)
  show own_Goes p.tables e below P (T5.setTop (mkF m 23 #[.val (.ref a), .val (.int v)] [(.int (4 : Int32)), (.ref b), (.ref a)]))
  obtain ⟨_, _, ⟨T6, L6, k6, n6⟩, -, X6, ⟨Lc6, hQ6, l6, y6, z6⟩, st6⟩ := Jvm.LawKit.callS X5 hx (y := (⟨"java/util/Arrays", "copyOf", "([II)[I"⟩ : MethodName)) hown (mvT hZ (hw _ (List.mem_of_getElem? (i := 25) rfl))) (mvT hZ (hw _ (List.mem_of_getElem? (i := 26) rfl))) (mvT hZ (hw _ (List.mem_of_getElem? (i := 27) rfl))) (mvT hZ (hw _ (List.mem_of_getElem? (i := 28) rfl))) (by decide) (backOf (W := 1) (rm_copy_2_2_4 l Z a0 hw [] b k x0 x1 h0 n0 Z0 pr3 pr4) hZ (hw _ (List.mem_of_getElem? (i := 28) rfl)) (hw _ (List.mem_of_getElem? (i := 27) rfl)) (by decide) (by decide)) (g := (mkF m 23 #[.val (.ref a), .val (.int v)] [(.int (4 : Int32)), (.ref b), (.ref a)])) rfl (by rw [hml]; rfl) (argsL := [(.ref b), (.int (4 : Int32))]) (rest := [(.ref a)]) (lenOf own_pd__28__5b_II_29__5b_I rfl) rfl (by show 2 * 0 + _ ≤ _; exact Nat.le_of_eq rfl) (hb hby own_d_prog_40_method_2_23) (fun _ _ => ⟨rfl, e5, (by decide : 0 + 1 ≤ _), (by decide : 0 + 4 ≤ _)⟩)
  dsimp only [Pt.U, Pt.locs, Pt.cells, Pt.slots] at X6 l6 y6 z6 st6 hQ6
  subst l6 y6 z6
  obtain ⟨r6, q6, rfl, Nq6, K6, f7, f8, f9⟩ := hQ6
  have N6 := Fr.app N0 Nq6
  refine own_Goes.st ?_ st6
  have ne10 : a ≠ r6 := Nat.ne_of_lt (Nat.lt_of_lt_of_le pr0.lt f7)
  have ne11 : b ≠ r6 := Nat.ne_of_lt (Nat.lt_of_lt_of_le pr3.lt f7)
  have ge_r6 : n0 ≤ r6 := Nat.le_trans Z0 f7
  have sz_r6 : h0.size ≤ r6 := Nat.le_trans K0.1 f7
  have Z12 : n0 ≤ T6.heap.size := Nat.le_trans Z0 K6.1
  have K13 := K0.trans K6 all0
  show own_Goes p.tables e below P (T6.setTop (mkF m 26 #[.val (.ref a), .val (.int v)] [(.ref r6), (.ref a)]))
  have F14 : Fld Z T6.heap a "com/example/taxodelta/taxodelta/taxonomy/IntList" "values" "[I" (.ref b) := (pr1.keep K6 nin0)
  have F15 : Exa Z T6.heap a "com/example/taxodelta/taxodelta/taxonomy/IntList" := (pr0.keep K6)
  obtain ⟨T16, h16, X16, e16, W16, st16⟩ := putF X6 hx hZ hown (host := "") (Or.inl (hw _ (List.mem_of_getElem? (i := 11) rfl))) Via.refl rfl F14 F15 (Or.inl (hw _ (List.mem_of_getElem? (i := 12) rfl))) (hw _ (List.mem_of_getElem? (i := 2) rfl)) (ty := (.array .int)) (by decide) rfl rfl (g := (mkF m 26 #[.val (.ref a), .val (.int v)] [(.ref r6), (.ref a)])) rfl rfl (hb hby own_d_prog_40_method_2_26)
  refine own_Goes.st ?_ st16
  have F17 : Fld Z h16 a "com/example/taxodelta/taxodelta/taxonomy/IntList" "values" "[I" (.ref r6) := F14.same W16
  have Z18 : n0 ≤ h16.size := by rw [W16.size]; exact Z12
  have K19 := K13.wr W16 (Or.inl (List.mem_of_getElem? (i := 0) rfl))
  have N20 := Fr.snoc X16 N6 pr5
  show own_Goes p.tables e below P (T16.setTop (mkF m 29 #[.val (.ref a), .val (.int v)] []))
  refine own_Goes.st ?_ (fun _ k => XS.aloadN X16.here hx rfl (hb hby own_d_prog_40_method_2_29) rfl rfl k)
  show own_Goes p.tables e below P (T16.setTop (mkF m 30 #[.val (.ref a), .val (.int v)] [(.ref a)]))
  obtain ⟨T21, X21, e21, st21⟩ := getF X16 hx hZ hown (host := "") (Or.inl (hw _ (List.mem_of_getElem? (i := 11) rfl))) Via.refl e16 F17 (g := (mkF m 30 #[.val (.ref a), .val (.int v)] [(.ref a)])) rfl rfl (hb hby own_d_prog_40_method_2_30)
  refine own_Goes.st ?_ st21
  show own_Goes p.tables e below P (T21.setTop (mkF m 33 #[.val (.ref a), .val (.int v)] [(.ref r6)]))
  refine own_Goes.st ?_ (fun _ k => XS.aloadN X21.here hx rfl (hb hby own_d_prog_40_method_2_33) rfl rfl k)
  show own_Goes p.tables e below P (T21.setTop (mkF m 34 #[.val (.ref a), .val (.int v)] [(.ref a), (.ref r6)]))
  refine own_Goes.st ?_ (fun _ k => XS.dup X21.here hx rfl (hb hby own_d_prog_40_method_2_34) rfl rfl k)
  show own_Goes p.tables e below P (T21.setTop (mkF m 35 #[.val (.ref a), .val (.int v)] [(.ref a), (.ref a), (.ref r6)]))
  have F22 : Fld Z h16 a "com/example/taxodelta/taxodelta/taxonomy/IntList" "size" "I" (.int (2 : Int32)) := ((pr2.keep K6 nin0).other W16 (Or.inr (slot_ne (Or.inl (hw _ (List.mem_of_getElem? (i := 19) rfl))) (Or.inl (hw _ (List.mem_of_getElem? (i := 12) rfl))) (by decide) (t := .int) (t' := (.array .int)) (by decide) (by decide))))
  obtain ⟨T23, X23, e23, st23⟩ := getF X21 hx hZ hown (host := "") (Or.inl (hw _ (List.mem_of_getElem? (i := 18) rfl))) Via.refl e21 F22 (g := (mkF m 35 #[.val (.ref a), .val (.int v)] [(.ref a), (.ref a), (.ref r6)])) rfl rfl (hb hby own_d_prog_40_method_2_35)
  refine own_Goes.st ?_ st23
  show own_Goes p.tables e below P (T23.setTop (mkF m 38 #[.val (.ref a), .val (.int v)] [(.int (2 : Int32)), (.ref a), (.ref r6)]))
  refine own_Goes.st ?_ (fun _ k => XS.dupX1 X23.here hx rfl (hb hby own_d_prog_40_method_2_38) rfl rfl rfl k)
  show own_Goes p.tables e below P (T23.setTop (mkF m 39 #[.val (.ref a), .val (.int v)] [(.int (2 : Int32)), (.ref a), (.int (2 : Int32)), (.ref r6)]))
  refine own_Goes.st ?_ (fun _ k => XS.iconst X23.here hx rfl (hb hby own_d_prog_40_method_2_39) k)
  show own_Goes p.tables e below P (T23.setTop (mkF m 40 #[.val (.ref a), .val (.int v)] [(.int (1 : Int32)), (.int (2 : Int32)), (.ref a), (.int (2 : Int32)), (.ref r6)]))
  refine own_Goes.st ?_ (fun _ k => XS.iadd X23.here hx rfl (hb hby own_d_prog_40_method_2_40) rfl k)
  show own_Goes p.tables e below P (T23.setTop (mkF m 41 #[.val (.ref a), .val (.int v)] [(.int (3 : Int32)), (.ref a), (.int (2 : Int32)), (.ref r6)]))
  have F24 : Exa Z h16 a "com/example/taxodelta/taxodelta/taxonomy/IntList" := (F15.wr W16)
  obtain ⟨T25, h25, X25, e25, W25, st25⟩ := putF X23 hx hZ hown (host := "") (Or.inl (hw _ (List.mem_of_getElem? (i := 18) rfl))) Via.refl e23 F22 F24 (Or.inl (hw _ (List.mem_of_getElem? (i := 19) rfl))) (hw _ (List.mem_of_getElem? (i := 2) rfl)) (ty := .int) (by decide) rfl rfl (g := (mkF m 41 #[.val (.ref a), .val (.int v)] [(.int (3 : Int32)), (.ref a), (.int (2 : Int32)), (.ref r6)])) rfl rfl (hb hby own_d_prog_40_method_2_41)
  refine own_Goes.st ?_ st25
  have F26 : Fld Z h25 a "com/example/taxodelta/taxodelta/taxonomy/IntList" "size" "I" (.int (3 : Int32)) := F22.same W25
  have Z27 : n0 ≤ h25.size := by rw [W25.size]; exact Z18
  have K28 := K19.wr W25 (Or.inl (List.mem_of_getElem? (i := 0) rfl))
  have N29 := Fr.snoc X25 N20 pr5
  show own_Goes p.tables e below P (T25.setTop (mkF m 44 #[.val (.ref a), .val (.int v)] [(.int (2 : Int32)), (.ref r6)]))
  refine own_Goes.st ?_ (fun _ k => XS.iloadN X25.here hx rfl (hb hby own_d_prog_40_method_2_44) rfl k)
  show own_Goes p.tables e below P (T25.setTop (mkF m 45 #[.val (.ref a), .val (.int v)] [(.int v), (.int (2 : Int32)), (.ref r6)]))
  have F30 : Arv Z h25 r6 q6 .int (4 : Int32) [(.int x0), (.int x1), (.int (0 : Int32)), (.int (0 : Int32))] (.int 0) := ((f8.other W16 (Ne.symm ne10)).other W25 (Ne.symm ne10))
  have Vc31 := F30
  obtain ⟨cl31, Ar31, q31, S31, Nn31, Hs31, Gs31⟩ := Vc31
  have hin32 : ¬ ((2 : Int32) < 0 ∨ cl31.slots.size ≤ ((2 : Int32)).toNatClampNeg) := inb_of S31 ⟨by decide, by decide⟩
  obtain ⟨T32, h32, X32, e32, W32, st32⟩ := stI X25 hx hZ e25 Ar31 (j := (2 : Int32)) hin32 (g := (mkF m 45 #[.val (.ref a), .val (.int v)] [(.int v), (.int (2 : Int32)), (.ref r6)])) rfl rfl (hb hby own_d_prog_40_method_2_45)
  refine own_Goes.st ?_ st32
  have V33 : Arv Z h32 r6 q6 .int (4 : Int32) [(.int x0), (.int x1), (.int v), (.int (0 : Int32))] (.int 0) := Arv.set Ar31 q31 S31 Nn31 Hs31 Gs31 rfl W32 2 rfl (Nat.le_of_ble_eq_true rfl)
  have Z34 : n0 ≤ h32.size := by rw [W32.size]; exact Z27
  have K35 := K28.wr W32 (Or.inr sz_r6)
  have N36 := Fr.snoc X32 N29 ge_r6
  show own_Goes p.tables e below P (T32.setTop (mkF m 46 #[.val (.ref a), .val (.int v)] []))
  have F37 : Fld Z h32 a "com/example/taxodelta/taxodelta/taxonomy/IntList" "values" "[I" (.ref r6) := ((F17.other W25 (Or.inr (slot_ne (Or.inl (hw _ (List.mem_of_getElem? (i := 12) rfl))) (Or.inl (hw _ (List.mem_of_getElem? (i := 19) rfl))) (by decide) (t := (.array .int)) (t' := .int) (by decide) (by decide)))).other W32 (Or.inl ne10))
  obtain ⟨fs, hr, hrun, hended, hW, hsame⟩ := X32.leave (v := none) (fun _ => rfl)
  have F38 : Exa Z h32 a "com/example/taxodelta/taxodelta/taxonomy/IntList" := ((F24.wr W25).wr W32)
  have F39 : Fld Z h32 a "com/example/taxodelta/taxodelta/taxonomy/IntList" "size" "I" (.int (3 : Int32)) := (F26.other W32 (Or.inl ne10))
  have F40 : Exa Z h32 r6 "[I" := (((f9.wr W16).wr W25).wr W32)
  exact own_Goes.fin _ _ (X32.returnOut hx Bd.returns (hb hby own_d_prog_40_method_2_46) hr) (hPP _ _ ⟨hrun, hended, _, _, rfl, (by show Q_add_2 Z a v b k x0 x1 h0 n0 _ T32.heap _; rw [e32]; exact ⟨r6, q6, rfl, N36, K35, F38, F37, F39, sz_r6, V33, F40⟩), ⟨_, rfl⟩, hW, hsame.mono (by decide) (by decide)⟩)
theorem own_ef_add_3 (m : MethodId) (x0 : Addr) (x1 : Int32) : entryFrame m #[(.ref x0), (.int x1)] 2 = mkF m 0 #[.val (.ref x0), .val (.int x1)] [] := by first | (simp [entryFrame, mkF, argsToLocals, Value.category]; done) | rfl
def Q_add_3 (Z : State) (a : Addr) (v : Int32) (b : Addr) (k : ClassId) (x0 : Int32) (x1 : Int32) (x2 : Int32) (h0 : Heap) (n0 : Nat) (rv_ : Option Value) (h_ : Heap) (L_ : List Loc) : Prop := rv_ = none ∧ Fr n0 L_ ∧ Keep h0 h_ [a, b] ∧ (Exa Z h_ a "com/example/taxodelta/taxodelta/taxonomy/IntList") ∧ (Fld Z h_ a "com/example/taxodelta/taxodelta/taxonomy/IntList" "values" "[I" (.ref b)) ∧ (Fld Z h_ a "com/example/taxodelta/taxodelta/taxonomy/IntList" "size" "I" (.int (4 : Int32))) ∧ (Arv Z h_ b k .int (4 : Int32) [(.int x0), (.int x1), (.int x2), (.int v)] (.int 0)) ∧ (Exa Z h_ b "[I")
set_option maxRecDepth 65536 in
set_option maxHeartbeats 40000000 in
theorem rm_add_3 (l : Launch) (Z : State) (a0 : Array Value) (hw : ∀ d ∈ tables_1, d.before a0 Z = true) (ws : List Jvm.Cond) (a : Addr) (v : Int32) (b : Addr) (k : ClassId) (x0 : Int32) (x1 : Int32) (x2 : Int32) (h0 : Heap) (n0 : Nat) (Z0 : n0 ≤ h0.size) (pr0 : Exa Z h0 a "com/example/taxodelta/taxodelta/taxonomy/IntList") (pr1 : Fld Z h0 a "com/example/taxodelta/taxodelta/taxonomy/IntList" "values" "[I" (.ref b)) (pr2 : Fld Z h0 a "com/example/taxodelta/taxodelta/taxonomy/IntList" "size" "I" (.int (3 : Int32))) (pr3 : Arv Z h0 b k .int (4 : Int32) [(.int x0), (.int x1), (.int x2), (.int (0 : Int32))] (.int 0)) (pr4 : Exa Z h0 b "[I") (pr5 : n0 ≤ a) (pr6 : n0 ≤ b) (pr7 : a ≠ b) :
    MetFree l (⟨"com/example/taxodelta/taxodelta/taxonomy/IntList", "add", "(I)V"⟩ : MethodName) (head1 (Jvm.Cond.code (⟨"com/example/taxodelta/taxodelta/taxonomy/IntList", "add", "(I)V"⟩ : MethodName) prog_40_method_2_code 2 none :: ws) ({ frames := 0, cells := 0, slots := 0, locals := 0 } : Room)) (fun as_ U => as_ = #[(.ref a), (.int v)] ∧ Z.Warmed39 U.vm ∧ U.heap = h0) (fun _ _ _ _ _ => True) (fun _ U o U' => ∃ rv_ L_, o = .returned rv_ ∧ Q_add_3 Z a v b k x0 x1 x2 h0 n0 rv_ U'.heap L_ ∧ FrameEnd U o U' L_ ({ frames := 0, cells := 0, slots := 0, locals := 0 } : Room).cells ({ frames := 0, cells := 0, slots := 0, locals := 0 } : Room).slots) := by
  refine MetFree.of_bodySF (plainFor_of_name own_pn_com_example_taxodelta_taxodelta_taxonomy_IntList) hisR ?_
  intro p e s m args below meth c s₁ Bd hml0 hP hK
  obtain ⟨rfl, hZ, hh⟩ := hP
  have hx := Bd.exec
  have hby := Bd.bytes
  have hml : c.maxLocals = 2 := hml0
  have hown : s.vm.findClass "com/example/taxodelta/taxodelta/taxonomy/IntList" = some m.cls := findClass_of_methodNamed Bd.named
  have hnm := (name_of_methodNamed Bd.named Bd.method).1
  have X0 : Stand p l e ({ frames := 0, cells := 0, slots := 0, locals := 0 } : Room) s m #[(.ref a), (.int v)] below meth c s₁ [] 0 0 := Stand.of_body Bd
  have e0 : s₁.heap = h0 := by rw [← hh, Bd.state]; rfl
  have N0 := Fr.nil n0
  refine own_Goes.of ?_
  refine own_Goes.nm (fun P hPP => ?_)
  refine own_Goes.st ?_ (fun _ k => castTop (own_ef_add_3 m a v) k)
  have K0 : Keep h0 h0 [a, b] := Keep.refl _ _
  show own_Goes p.tables e below P (s₁.setTop (mkF m 0 #[.val (.ref a), .val (.int v)] []))
  refine own_Goes.st ?_ (fun _ k => XS.aloadN X0.here hx rfl (hb hby own_d_prog_40_method_2_0) rfl rfl k)
  show own_Goes p.tables e below P (s₁.setTop (mkF m 1 #[.val (.ref a), .val (.int v)] [(.ref a)]))
  obtain ⟨T1, X1, e1, st1⟩ := getF X0 hx hZ hown (host := "") (Or.inl (hw _ (List.mem_of_getElem? (i := 18) rfl))) Via.refl e0 pr2 (g := (mkF m 1 #[.val (.ref a), .val (.int v)] [(.ref a)])) rfl rfl (hb hby own_d_prog_40_method_2_1)
  refine own_Goes.st ?_ st1
  show own_Goes p.tables e below P (T1.setTop (mkF m 4 #[.val (.ref a), .val (.int v)] [(.int (3 : Int32))]))
  refine own_Goes.st ?_ (fun _ k => XS.aloadN X1.here hx rfl (hb hby own_d_prog_40_method_2_4) rfl rfl k)
  show own_Goes p.tables e below P (T1.setTop (mkF m 5 #[.val (.ref a), .val (.int v)] [(.ref a), (.int (3 : Int32))]))
  obtain ⟨T2, X2, e2, st2⟩ := getF X1 hx hZ hown (host := "") (Or.inl (hw _ (List.mem_of_getElem? (i := 11) rfl))) Via.refl e1 pr1 (g := (mkF m 5 #[.val (.ref a), .val (.int v)] [(.ref a), (.int (3 : Int32))])) rfl rfl (hb hby own_d_prog_40_method_2_5)
  refine own_Goes.st ?_ st2
  show own_Goes p.tables e below P (T2.setTop (mkF m 8 #[.val (.ref a), .val (.int v)] [(.ref b), (.int (3 : Int32))]))
  have Vc3 := pr3
  obtain ⟨cl3, Ar3, q3, S3, Nn3, Hs3, Gs3⟩ := Vc3
  refine own_Goes.st ?_ (X2.arraylength hx (by rw [e2]; exact Ar3.1) (State.isArrayOf_alike hZ.alike Ar3.2.1) (g := (mkF m 8 #[.val (.ref a), .val (.int v)] [(.ref b), (.int (3 : Int32))])) rfl rfl (hb hby own_d_prog_40_method_2_8))
  rw [len_of S3 Nn3]
  show own_Goes p.tables e below P (T2.setTop (mkF m 9 #[.val (.ref a), .val (.int v)] [(.int (4 : Int32)), (.int (3 : Int32))]))
  refine own_Goes.st ?_ (fun _ k => XS.icmpYes X2.here hx rfl (pc0 := 9) (pc' := 29) rfl (hb hby own_d_prog_40_method_2_9) rfl (feq (by decide : ¬ ((3 : Int32) = (4 : Int32)))).2 (by decide) (by decide) k)
  show own_Goes p.tables e below P (T2.setTop (mkF m 29 #[.val (.ref a), .val (.int v)] []))
  refine own_Goes.st ?_ (fun _ k => XS.aloadN X2.here hx rfl (hb hby own_d_prog_40_method_2_29) rfl rfl k)
  show own_Goes p.tables e below P (T2.setTop (mkF m 30 #[.val (.ref a), .val (.int v)] [(.ref a)]))
  obtain ⟨T4, X4, e4, st4⟩ := getF X2 hx hZ hown (host := "") (Or.inl (hw _ (List.mem_of_getElem? (i := 11) rfl))) Via.refl e2 pr1 (g := (mkF m 30 #[.val (.ref a), .val (.int v)] [(.ref a)])) rfl rfl (hb hby own_d_prog_40_method_2_30)
  refine own_Goes.st ?_ st4
  show own_Goes p.tables e below P (T4.setTop (mkF m 33 #[.val (.ref a), .val (.int v)] [(.ref b)]))
  refine own_Goes.st ?_ (fun _ k => XS.aloadN X4.here hx rfl (hb hby own_d_prog_40_method_2_33) rfl rfl k)
  show own_Goes p.tables e below P (T4.setTop (mkF m 34 #[.val (.ref a), .val (.int v)] [(.ref a), (.ref b)]))
  refine own_Goes.st ?_ (fun _ k => XS.dup X4.here hx rfl (hb hby own_d_prog_40_method_2_34) rfl rfl k)
  show own_Goes p.tables e below P (T4.setTop (mkF m 35 #[.val (.ref a), .val (.int v)] [(.ref a), (.ref a), (.ref b)]))
  obtain ⟨T5, X5, e5, st5⟩ := getF X4 hx hZ hown (host := "") (Or.inl (hw _ (List.mem_of_getElem? (i := 18) rfl))) Via.refl e4 pr2 (g := (mkF m 35 #[.val (.ref a), .val (.int v)] [(.ref a), (.ref a), (.ref b)])) rfl rfl (hb hby own_d_prog_40_method_2_35)
  refine own_Goes.st ?_ st5
  show own_Goes p.tables e below P (T5.setTop (mkF m 38 #[.val (.ref a), .val (.int v)] [(.int (3 : Int32)), (.ref a), (.ref b)]))
  refine own_Goes.st ?_ (fun _ k => XS.dupX1 X5.here hx rfl (hb hby own_d_prog_40_method_2_38) rfl rfl rfl k)
  show own_Goes p.tables e below P (T5.setTop (mkF m 39 #[.val (.ref a), .val (.int v)] [(.int (3 : Int32)), (.ref a), (.int (3 : Int32)), (.ref b)]))
  refine own_Goes.st ?_ (fun _ k => XS.iconst X5.here hx rfl (hb hby own_d_prog_40_method_2_39) k)
  show own_Goes p.tables e below P (T5.setTop (mkF m 40 #[.val (.ref a), .val (.int v)] [(.int (1 : Int32)), (.int (3 : Int32)), (.ref a), (.int (3 : Int32)), (.ref b)]))
  refine own_Goes.st ?_ (fun _ k => XS.iadd X5.here hx rfl (hb hby own_d_prog_40_method_2_40) rfl k)
  show own_Goes p.tables e below P (T5.setTop (mkF m 41 #[.val (.ref a), .val (.int v)] [(.int (4 : Int32)), (.ref a), (.int (3 : Int32)), (.ref b)]))
  obtain ⟨T6, h6, X6, e6, W6, st6⟩ := putF X5 hx hZ hown (host := "") (Or.inl (hw _ (List.mem_of_getElem? (i := 18) rfl))) Via.refl e5 pr2 pr0 (Or.inl (hw _ (List.mem_of_getElem? (i := 19) rfl))) (hw _ (List.mem_of_getElem? (i := 2) rfl)) (ty := .int) (by decide) rfl rfl (g := (mkF m 41 #[.val (.ref a), .val (.int v)] [(.int (4 : Int32)), (.ref a), (.int (3 : Int32)), (.ref b)])) rfl rfl (hb hby own_d_prog_40_method_2_41)
  refine own_Goes.st ?_ st6
  have F7 : Fld Z h6 a "com/example/taxodelta/taxodelta/taxonomy/IntList" "size" "I" (.int (4 : Int32)) := pr2.same W6
  have Z8 : n0 ≤ h6.size := by rw [W6.size]; exact Z0
  have K9 := K0.wr W6 (Or.inl (List.mem_of_getElem? (i := 0) rfl))
  have N10 := Fr.snoc X6 N0 pr5
  show own_Goes p.tables e below P (T6.setTop (mkF m 44 #[.val (.ref a), .val (.int v)] [(.int (3 : Int32)), (.ref b)]))
  refine own_Goes.st ?_ (fun _ k => XS.iloadN X6.here hx rfl (hb hby own_d_prog_40_method_2_44) rfl k)
  show own_Goes p.tables e below P (T6.setTop (mkF m 45 #[.val (.ref a), .val (.int v)] [(.int v), (.int (3 : Int32)), (.ref b)]))
  have F11 : Arv Z h6 b k .int (4 : Int32) [(.int x0), (.int x1), (.int x2), (.int (0 : Int32))] (.int 0) := (pr3.other W6 (Ne.symm pr7))
  have Vc12 := F11
  obtain ⟨cl12, Ar12, q12, S12, Nn12, Hs12, Gs12⟩ := Vc12
  have hin13 : ¬ ((3 : Int32) < 0 ∨ cl12.slots.size ≤ ((3 : Int32)).toNatClampNeg) := inb_of S12 ⟨by decide, by decide⟩
  obtain ⟨T13, h13, X13, e13, W13, st13⟩ := stI X6 hx hZ e6 Ar12 (j := (3 : Int32)) hin13 (g := (mkF m 45 #[.val (.ref a), .val (.int v)] [(.int v), (.int (3 : Int32)), (.ref b)])) rfl rfl (hb hby own_d_prog_40_method_2_45)
  refine own_Goes.st ?_ st13
  have V14 : Arv Z h13 b k .int (4 : Int32) [(.int x0), (.int x1), (.int x2), (.int v)] (.int 0) := Arv.set Ar12 q12 S12 Nn12 Hs12 Gs12 rfl W13 3 rfl (Nat.le_of_ble_eq_true rfl)
  have Z15 : n0 ≤ h13.size := by rw [W13.size]; exact Z8
  have K16 := K9.wr W13 (Or.inl (List.mem_of_getElem? (i := 1) rfl))
  have N17 := Fr.snoc X13 N10 pr6
  show own_Goes p.tables e below P (T13.setTop (mkF m 46 #[.val (.ref a), .val (.int v)] []))
  have F18 : Fld Z h13 a "com/example/taxodelta/taxodelta/taxonomy/IntList" "values" "[I" (.ref b) := ((pr1.other W6 (Or.inr (slot_ne (Or.inl (hw _ (List.mem_of_getElem? (i := 12) rfl))) (Or.inl (hw _ (List.mem_of_getElem? (i := 19) rfl))) (by decide) (t := (.array .int)) (t' := .int) (by decide) (by decide)))).other W13 (Or.inl pr7))
  obtain ⟨fs, hr, hrun, hended, hW, hsame⟩ := X13.leave (v := none) (fun _ => rfl)
  have F19 : Exa Z h13 a "com/example/taxodelta/taxodelta/taxonomy/IntList" := ((pr0.wr W6).wr W13)
  have F20 : Fld Z h13 a "com/example/taxodelta/taxodelta/taxonomy/IntList" "size" "I" (.int (4 : Int32)) := (F7.other W13 (Or.inl pr7))
  have F21 : Exa Z h13 b "[I" := ((pr4.wr W6).wr W13)
  exact own_Goes.fin _ _ (X13.returnOut hx Bd.returns (hb hby own_d_prog_40_method_2_46) hr) (hPP _ _ ⟨hrun, hended, _, _, rfl, (by show Q_add_3 Z a v b k x0 x1 x2 h0 n0 _ T13.heap _; rw [e13]; exact ⟨rfl, N17, K16, F19, F18, F20, V14, F21⟩), ⟨_, rfl⟩, hW, hsame.mono (by decide) (by decide)⟩)
theorem own_ef_hash_0 (m : MethodId) (x0 : Addr) : entryFrame m #[(.ref x0)] 3 = mkF m 0 #[.val (.ref x0), .unset, .unset] [] := by first | (simp [entryFrame, mkF, argsToLocals, Value.category]; done) | rfl
theorem own_d_prog_40_method_11_0 : decode prog_40_method_11_code 0 = .ok (.iconst 1, 1) := by decide +kernel
theorem own_d_prog_40_method_11_1 : decode prog_40_method_11_code 1 = .ok (.istore_n 1, 1) := by decide +kernel
theorem own_d_prog_40_method_11_2 : decode prog_40_method_11_code 2 = .ok (.iconst 0, 1) := by decide +kernel
theorem own_d_prog_40_method_11_3 : decode prog_40_method_11_code 3 = .ok (.istore_n 2, 1) := by decide +kernel
theorem own_d_prog_40_method_11_4 : decode prog_40_method_11_code 4 = .ok (.iload_n 2, 1) := by decide +kernel
theorem own_d_prog_40_method_11_5 : decode prog_40_method_11_code 5 = .ok (.aload_n 0, 1) := by decide +kernel
theorem own_d_prog_40_method_11_6 : decode prog_40_method_11_code 6 = .ok (.getfield 13, 3) := by decide +kernel
theorem own_d_prog_40_method_11_9 : decode prog_40_method_11_code 9 = .ok (.if_icmp .ge 21, 3) := by decide +kernel
theorem own_d_prog_40_method_11_30 : decode prog_40_method_11_code 30 = .ok (.iload_n 1, 1) := by decide +kernel
theorem own_d_prog_40_method_11_31 : decode prog_40_method_11_code 31 = .ok (.ireturn, 1) := by decide +kernel
def Q_hash_0 (Z : State) (a : Addr) (b : Addr) (k : ClassId) (h0 : Heap) (n0 : Nat) (rv_ : Option Value) (h_ : Heap) (L_ : List Loc) : Prop := rv_ = some (.int (1 : Int32)) ∧ Fr n0 L_ ∧ h_ = h0
set_option maxRecDepth 65536 in
set_option maxHeartbeats 40000000 in
theorem rm_hash_0 (l : Launch) (Z : State) (a0 : Array Value) (hw : ∀ d ∈ tables_1, d.before a0 Z = true) (ws : List Jvm.Cond) (a : Addr) (b : Addr) (k : ClassId) (h0 : Heap) (n0 : Nat) (Z0 : n0 ≤ h0.size) (pr0 : Fld Z h0 a "com/example/taxodelta/taxodelta/taxonomy/IntList" "values" "[I" (.ref b)) (pr1 : Fld Z h0 a "com/example/taxodelta/taxodelta/taxonomy/IntList" "size" "I" (.int (0 : Int32))) (pr2 : Arv Z h0 b k .int (2 : Int32) [(.int (0 : Int32)), (.int (0 : Int32))] (.int 0)) :
    MetFree l (⟨"com/example/taxodelta/taxodelta/taxonomy/IntList", "hashCode", "()I"⟩ : MethodName) (head1 (Jvm.Cond.code (⟨"com/example/taxodelta/taxodelta/taxonomy/IntList", "hashCode", "()I"⟩ : MethodName) prog_40_method_11_code 3 (some .int) :: ws) ({ frames := 0, cells := 0, slots := 0, locals := 0 } : Room)) (fun as_ U => as_ = #[(.ref a)] ∧ Z.Warmed39 U.vm ∧ U.heap = h0) (fun _ _ _ _ _ => True) (fun _ U o U' => ∃ rv_ L_, o = .returned rv_ ∧ Q_hash_0 Z a b k h0 n0 rv_ U'.heap L_ ∧ FrameEnd U o U' L_ ({ frames := 0, cells := 0, slots := 0, locals := 0 } : Room).cells ({ frames := 0, cells := 0, slots := 0, locals := 0 } : Room).slots) := by
  refine MetFree.of_bodySF (plainFor_of_name own_pn_com_example_taxodelta_taxodelta_taxonomy_IntList) hisR ?_
  intro p e s m args below meth c s₁ Bd hml0 hP hK
  obtain ⟨rfl, hZ, hh⟩ := hP
  have hx := Bd.exec
  have hby := Bd.bytes
  have hml : c.maxLocals = 3 := hml0
  have hown : s.vm.findClass "com/example/taxodelta/taxodelta/taxonomy/IntList" = some m.cls := findClass_of_methodNamed Bd.named
  have hnm := (name_of_methodNamed Bd.named Bd.method).1
  have X0 : Stand p l e ({ frames := 0, cells := 0, slots := 0, locals := 0 } : Room) s m #[(.ref a)] below meth c s₁ [] 0 0 := Stand.of_body Bd
  have e0 : s₁.heap = h0 := by rw [← hh, Bd.state]; rfl
  have N0 := Fr.nil n0
  refine own_Goes.of ?_
  refine own_Goes.nm (fun P hPP => ?_)
  refine own_Goes.st ?_ (fun _ k => castTop (own_ef_hash_0 m a) k)
  show own_Goes p.tables e below P (s₁.setTop (mkF m 0 #[.val (.ref a), .unset, .unset] []))
  refine own_Goes.st ?_ (fun _ k => XS.iconst X0.here hx rfl (hb hby own_d_prog_40_method_11_0) k)
  show own_Goes p.tables e below P (s₁.setTop (mkF m 1 #[.val (.ref a), .unset, .unset] [(.int (1 : Int32))]))
  refine own_Goes.st ?_ (fun _ k => XS.istoreN X0.here hx rfl (hb hby own_d_prog_40_method_11_1) rfl (l' := #[.val (.ref a), .val (.int (1 : Int32)), .unset]) rfl k)
  show own_Goes p.tables e below P (s₁.setTop (mkF m 2 #[.val (.ref a), .val (.int (1 : Int32)), .unset] []))
  refine own_Goes.st ?_ (fun _ k => XS.iconst X0.here hx rfl (hb hby own_d_prog_40_method_11_2) k)
  show own_Goes p.tables e below P (s₁.setTop (mkF m 3 #[.val (.ref a), .val (.int (1 : Int32)), .unset] [(.int (0 : Int32))]))
  refine own_Goes.st ?_ (fun _ k => XS.istoreN X0.here hx rfl (hb hby own_d_prog_40_method_11_3) rfl (l' := #[.val (.ref a), .val (.int (1 : Int32)), .val (.int (0 : Int32))]) rfl k)
  show own_Goes p.tables e below P (s₁.setTop (mkF m 4 #[.val (.ref a), .val (.int (1 : Int32)), .val (.int (0 : Int32))] []))
  refine own_Goes.st ?_ (fun _ k => XS.iloadN X0.here hx rfl (hb hby own_d_prog_40_method_11_4) rfl k)
  show own_Goes p.tables e below P (s₁.setTop (mkF m 5 #[.val (.ref a), .val (.int (1 : Int32)), .val (.int (0 : Int32))] [(.int (0 : Int32))]))
  refine own_Goes.st ?_ (fun _ k => XS.aloadN X0.here hx rfl (hb hby own_d_prog_40_method_11_5) rfl rfl k)
  show own_Goes p.tables e below P (s₁.setTop (mkF m 6 #[.val (.ref a), .val (.int (1 : Int32)), .val (.int (0 : Int32))] [(.ref a), (.int (0 : Int32))]))
  obtain ⟨T1, X1, e1, st1⟩ := getF X0 hx hZ hown (host := "") (Or.inl (hw _ (List.mem_of_getElem? (i := 18) rfl))) Via.refl e0 pr1 (g := (mkF m 6 #[.val (.ref a), .val (.int (1 : Int32)), .val (.int (0 : Int32))] [(.ref a), (.int (0 : Int32))])) rfl rfl (hb hby own_d_prog_40_method_11_6)
  refine own_Goes.st ?_ st1
  show own_Goes p.tables e below P (T1.setTop (mkF m 9 #[.val (.ref a), .val (.int (1 : Int32)), .val (.int (0 : Int32))] [(.int (0 : Int32)), (.int (0 : Int32))]))
  refine own_Goes.st ?_ (fun _ k => XS.icmpYes X1.here hx rfl (pc0 := 9) (pc' := 30) rfl (hb hby own_d_prog_40_method_11_9) rfl (flt (by decide : ¬ ((0 : Int32) < (0 : Int32)))).2.1 (by decide) (by decide) k)
  show own_Goes p.tables e below P (T1.setTop (mkF m 30 #[.val (.ref a), .val (.int (1 : Int32)), .val (.int (0 : Int32))] []))
  refine own_Goes.st ?_ (fun _ k => XS.iloadN X1.here hx rfl (hb hby own_d_prog_40_method_11_30) rfl k)
  show own_Goes p.tables e below P (T1.setTop (mkF m 31 #[.val (.ref a), .val (.int (1 : Int32)), .val (.int (0 : Int32))] [(.int (1 : Int32))]))
  obtain ⟨fs, hr, hrun, hended, hW, hsame⟩ := X1.leave (v := some (.int (1 : Int32))) (fun h => by rw [Bd.returns] at h; cases h)
  exact own_Goes.fin _ _ (retOut X1 hx (t := .int) Bd.returns rfl (Or.inl ⟨rfl, Or.inl rfl, _, rfl⟩) (hb hby own_d_prog_40_method_11_31) hr) (hPP _ _ ⟨hrun, hended, _, _, rfl, (by show Q_hash_0 Z a b k h0 n0 _ T1.heap _; rw [e1]; exact ⟨rfl, N0, rfl⟩), ⟨_, rfl⟩, hW, hsame.mono (by decide) (by decide)⟩)
theorem own_ef_hash_1 (m : MethodId) (x0 : Addr) : entryFrame m #[(.ref x0)] 3 = mkF m 0 #[.val (.ref x0), .unset, .unset] [] := by first | (simp [entryFrame, mkF, argsToLocals, Value.category]; done) | rfl
theorem own_d_prog_40_method_11_12 : decode prog_40_method_11_code 12 = .ok (.bipush 31, 2) := by decide +kernel
theorem own_d_prog_40_method_11_14 : decode prog_40_method_11_code 14 = .ok (.iload_n 1, 1) := by decide +kernel
theorem own_d_prog_40_method_11_15 : decode prog_40_method_11_code 15 = .ok (.imul, 1) := by decide +kernel
theorem own_d_prog_40_method_11_16 : decode prog_40_method_11_code 16 = .ok (.aload_n 0, 1) := by decide +kernel
theorem own_d_prog_40_method_11_17 : decode prog_40_method_11_code 17 = .ok (.getfield 7, 3) := by decide +kernel
theorem own_d_prog_40_method_11_20 : decode prog_40_method_11_code 20 = .ok (.iload_n 2, 1) := by decide +kernel
theorem own_d_prog_40_method_11_21 : decode prog_40_method_11_code 21 = .ok (.iaload, 1) := by decide +kernel
theorem own_d_prog_40_method_11_22 : decode prog_40_method_11_code 22 = .ok (.iadd, 1) := by decide +kernel
theorem own_d_prog_40_method_11_23 : decode prog_40_method_11_code 23 = .ok (.istore_n 1, 1) := by decide +kernel
theorem own_d_prog_40_method_11_24 : decode prog_40_method_11_code 24 = .ok (.iinc 2 1, 3) := by decide +kernel
theorem own_d_prog_40_method_11_27 : decode prog_40_method_11_code 27 = .ok (.goto (-23), 3) := by decide +kernel
def Q_hash_1 (Z : State) (a : Addr) (b : Addr) (k : ClassId) (x0 : Int32) (h0 : Heap) (n0 : Nat) (rv_ : Option Value) (h_ : Heap) (L_ : List Loc) : Prop := rv_ = some (.int ((31 : Int32) + x0)) ∧ Fr n0 L_ ∧ h_ = h0
set_option maxRecDepth 65536 in
set_option maxHeartbeats 40000000 in
theorem rm_hash_1 (l : Launch) (Z : State) (a0 : Array Value) (hw : ∀ d ∈ tables_1, d.before a0 Z = true) (ws : List Jvm.Cond) (a : Addr) (b : Addr) (k : ClassId) (x0 : Int32) (h0 : Heap) (n0 : Nat) (Z0 : n0 ≤ h0.size) (pr0 : Fld Z h0 a "com/example/taxodelta/taxodelta/taxonomy/IntList" "values" "[I" (.ref b)) (pr1 : Fld Z h0 a "com/example/taxodelta/taxodelta/taxonomy/IntList" "size" "I" (.int (1 : Int32))) (pr2 : Arv Z h0 b k .int (2 : Int32) [(.int x0), (.int (0 : Int32))] (.int 0)) :
    MetFree l (⟨"com/example/taxodelta/taxodelta/taxonomy/IntList", "hashCode", "()I"⟩ : MethodName) (head1 (Jvm.Cond.code (⟨"com/example/taxodelta/taxodelta/taxonomy/IntList", "hashCode", "()I"⟩ : MethodName) prog_40_method_11_code 3 (some .int) :: ws) ({ frames := 0, cells := 0, slots := 0, locals := 0 } : Room)) (fun as_ U => as_ = #[(.ref a)] ∧ Z.Warmed39 U.vm ∧ U.heap = h0) (fun _ _ _ _ _ => True) (fun _ U o U' => ∃ rv_ L_, o = .returned rv_ ∧ Q_hash_1 Z a b k x0 h0 n0 rv_ U'.heap L_ ∧ FrameEnd U o U' L_ ({ frames := 0, cells := 0, slots := 0, locals := 0 } : Room).cells ({ frames := 0, cells := 0, slots := 0, locals := 0 } : Room).slots) := by
  refine MetFree.of_bodySF (plainFor_of_name own_pn_com_example_taxodelta_taxodelta_taxonomy_IntList) hisR ?_
  intro p e s m args below meth c s₁ Bd hml0 hP hK
  obtain ⟨rfl, hZ, hh⟩ := hP
  have hx := Bd.exec
  have hby := Bd.bytes
  have hml : c.maxLocals = 3 := hml0
  have hown : s.vm.findClass "com/example/taxodelta/taxodelta/taxonomy/IntList" = some m.cls := findClass_of_methodNamed Bd.named
  have hnm := (name_of_methodNamed Bd.named Bd.method).1
  have X0 : Stand p l e ({ frames := 0, cells := 0, slots := 0, locals := 0 } : Room) s m #[(.ref a)] below meth c s₁ [] 0 0 := Stand.of_body Bd
  have e0 : s₁.heap = h0 := by rw [← hh, Bd.state]; rfl
  have N0 := Fr.nil n0
  refine own_Goes.of ?_
  refine own_Goes.nm (fun P hPP => ?_)
  refine own_Goes.st ?_ (fun _ k => castTop (own_ef_hash_1 m a) k)
  show own_Goes p.tables e below P (s₁.setTop (mkF m 0 #[.val (.ref a), .unset, .unset] []))
  refine own_Goes.st ?_ (fun _ k => XS.iconst X0.here hx rfl (hb hby own_d_prog_40_method_11_0) k)
  show own_Goes p.tables e below P (s₁.setTop (mkF m 1 #[.val (.ref a), .unset, .unset] [(.int (1 : Int32))]))
  refine own_Goes.st ?_ (fun _ k => XS.istoreN X0.here hx rfl (hb hby own_d_prog_40_method_11_1) rfl (l' := #[.val (.ref a), .val (.int (1 : Int32)), .unset]) rfl k)
  show own_Goes p.tables e below P (s₁.setTop (mkF m 2 #[.val (.ref a), .val (.int (1 : Int32)), .unset] []))
  refine own_Goes.st ?_ (fun _ k => XS.iconst X0.here hx rfl (hb hby own_d_prog_40_method_11_2) k)
  show own_Goes p.tables e below P (s₁.setTop (mkF m 3 #[.val (.ref a), .val (.int (1 : Int32)), .unset] [(.int (0 : Int32))]))
  refine own_Goes.st ?_ (fun _ k => XS.istoreN X0.here hx rfl (hb hby own_d_prog_40_method_11_3) rfl (l' := #[.val (.ref a), .val (.int (1 : Int32)), .val (.int (0 : Int32))]) rfl k)
  show own_Goes p.tables e below P (s₁.setTop (mkF m 4 #[.val (.ref a), .val (.int (1 : Int32)), .val (.int (0 : Int32))] []))
  refine own_Goes.st ?_ (fun _ k => XS.iloadN X0.here hx rfl (hb hby own_d_prog_40_method_11_4) rfl k)
  show own_Goes p.tables e below P (s₁.setTop (mkF m 5 #[.val (.ref a), .val (.int (1 : Int32)), .val (.int (0 : Int32))] [(.int (0 : Int32))]))
  refine own_Goes.st ?_ (fun _ k => XS.aloadN X0.here hx rfl (hb hby own_d_prog_40_method_11_5) rfl rfl k)
  show own_Goes p.tables e below P (s₁.setTop (mkF m 6 #[.val (.ref a), .val (.int (1 : Int32)), .val (.int (0 : Int32))] [(.ref a), (.int (0 : Int32))]))
  obtain ⟨T1, X1, e1, st1⟩ := getF X0 hx hZ hown (host := "") (Or.inl (hw _ (List.mem_of_getElem? (i := 18) rfl))) Via.refl e0 pr1 (g := (mkF m 6 #[.val (.ref a), .val (.int (1 : Int32)), .val (.int (0 : Int32))] [(.ref a), (.int (0 : Int32))])) rfl rfl (hb hby own_d_prog_40_method_11_6)
  refine own_Goes.st ?_ st1
  show own_Goes p.tables e below P (T1.setTop (mkF m 9 #[.val (.ref a), .val (.int (1 : Int32)), .val (.int (0 : Int32))] [(.int (1 : Int32)), (.int (0 : Int32))]))
  refine own_Goes.st ?_ (fun _ k => XS.icmpNo X1.here hx rfl (hb hby own_d_prog_40_method_11_9) rfl (tlt (by decide : (0 : Int32) < (1 : Int32))).2.1 k)
  show own_Goes p.tables e below P (T1.setTop (mkF m 12 #[.val (.ref a), .val (.int (1 : Int32)), .val (.int (0 : Int32))] []))
  refine own_Goes.st ?_ (fun _ k => XS.bipush X1.here hx rfl (hb hby own_d_prog_40_method_11_12) k)
  show own_Goes p.tables e below P (T1.setTop (mkF m 14 #[.val (.ref a), .val (.int (1 : Int32)), .val (.int (0 : Int32))] [(.int (31 : Int32))]))
  refine own_Goes.st ?_ (fun _ k => XS.iloadN X1.here hx rfl (hb hby own_d_prog_40_method_11_14) rfl k)
  show own_Goes p.tables e below P (T1.setTop (mkF m 15 #[.val (.ref a), .val (.int (1 : Int32)), .val (.int (0 : Int32))] [(.int (1 : Int32)), (.int (31 : Int32))]))
  refine own_Goes.st ?_ (fun _ k => XS.imul X1.here hx rfl (hb hby own_d_prog_40_method_11_15) rfl k)
  show own_Goes p.tables e below P (T1.setTop (mkF m 16 #[.val (.ref a), .val (.int (1 : Int32)), .val (.int (0 : Int32))] [(.int (31 : Int32))]))
  refine own_Goes.st ?_ (fun _ k => XS.aloadN X1.here hx rfl (hb hby own_d_prog_40_method_11_16) rfl rfl k)
  show own_Goes p.tables e below P (T1.setTop (mkF m 17 #[.val (.ref a), .val (.int (1 : Int32)), .val (.int (0 : Int32))] [(.ref a), (.int (31 : Int32))]))
  obtain ⟨T2, X2, e2, st2⟩ := getF X1 hx hZ hown (host := "") (Or.inl (hw _ (List.mem_of_getElem? (i := 11) rfl))) Via.refl e1 pr0 (g := (mkF m 17 #[.val (.ref a), .val (.int (1 : Int32)), .val (.int (0 : Int32))] [(.ref a), (.int (31 : Int32))])) rfl rfl (hb hby own_d_prog_40_method_11_17)
  refine own_Goes.st ?_ st2
  show own_Goes p.tables e below P (T2.setTop (mkF m 20 #[.val (.ref a), .val (.int (1 : Int32)), .val (.int (0 : Int32))] [(.ref b), (.int (31 : Int32))]))
  refine own_Goes.st ?_ (fun _ k => XS.iloadN X2.here hx rfl (hb hby own_d_prog_40_method_11_20) rfl k)
  show own_Goes p.tables e below P (T2.setTop (mkF m 21 #[.val (.ref a), .val (.int (1 : Int32)), .val (.int (0 : Int32))] [(.int (0 : Int32)), (.ref b), (.int (31 : Int32))]))
  have Vc3 := pr2
  obtain ⟨cl3, Ar3, q3, S3, Nn3, Hs3, Gs3⟩ := Vc3
  have hin4 : ¬ ((0 : Int32) < 0 ∨ cl3.slots.size ≤ ((0 : Int32)).toNatClampNeg) := inb_of S3 ⟨by decide, by decide⟩
  refine own_Goes.st ?_ (X2.iaload hx (j := (0 : Int32)) (v := (.int x0)) (by rw [e2]; exact Ar3.1) (State.isArrayOf_alike hZ.alike Ar3.2.1) Ar3.2.2 hin4 (Has.at Hs3 hin4 rfl) (g := (mkF m 21 #[.val (.ref a), .val (.int (1 : Int32)), .val (.int (0 : Int32))] [(.int (0 : Int32)), (.ref b), (.int (31 : Int32))])) rfl rfl (hb hby own_d_prog_40_method_11_21))
  show own_Goes p.tables e below P (T2.setTop (mkF m 22 #[.val (.ref a), .val (.int (1 : Int32)), .val (.int (0 : Int32))] [(.int x0), (.int (31 : Int32))]))
  refine own_Goes.st ?_ (fun _ k => XS.iadd X2.here hx rfl (hb hby own_d_prog_40_method_11_22) rfl k)
  show own_Goes p.tables e below P (T2.setTop (mkF m 23 #[.val (.ref a), .val (.int (1 : Int32)), .val (.int (0 : Int32))] [(.int ((31 : Int32) + x0))]))
  refine own_Goes.st ?_ (fun _ k => XS.istoreN X2.here hx rfl (hb hby own_d_prog_40_method_11_23) rfl (l' := #[.val (.ref a), .val (.int ((31 : Int32) + x0)), .val (.int (0 : Int32))]) rfl k)
  show own_Goes p.tables e below P (T2.setTop (mkF m 24 #[.val (.ref a), .val (.int ((31 : Int32) + x0)), .val (.int (0 : Int32))] []))
  refine own_Goes.st ?_ (fun _ k => XS.iinc X2.here hx rfl (hb hby own_d_prog_40_method_11_24) rfl (l' := #[.val (.ref a), .val (.int ((31 : Int32) + x0)), .val (.int (1 : Int32))]) rfl k)
  show own_Goes p.tables e below P (T2.setTop (mkF m 27 #[.val (.ref a), .val (.int ((31 : Int32) + x0)), .val (.int (1 : Int32))] []))
  refine own_Goes.st ?_ (fun _ k => XS.goto X2.here hx rfl (pc0 := 27) (pc' := 4) rfl (hb hby own_d_prog_40_method_11_27) (by decide) (by decide) k)
  show own_Goes p.tables e below P (T2.setTop (mkF m 4 #[.val (.ref a), .val (.int ((31 : Int32) + x0)), .val (.int (1 : Int32))] []))
  refine own_Goes.st ?_ (fun _ k => XS.iloadN X2.here hx rfl (hb hby own_d_prog_40_method_11_4) rfl k)
  show own_Goes p.tables e below P (T2.setTop (mkF m 5 #[.val (.ref a), .val (.int ((31 : Int32) + x0)), .val (.int (1 : Int32))] [(.int (1 : Int32))]))
  refine own_Goes.st ?_ (fun _ k => XS.aloadN X2.here hx rfl (hb hby own_d_prog_40_method_11_5) rfl rfl k)
  show own_Goes p.tables e below P (T2.setTop (mkF m 6 #[.val (.ref a), .val (.int ((31 : Int32) + x0)), .val (.int (1 : Int32))] [(.ref a), (.int (1 : Int32))]))
  obtain ⟨T5, X5, e5, st5⟩ := getF X2 hx hZ hown (host := "") (Or.inl (hw _ (List.mem_of_getElem? (i := 18) rfl))) Via.refl e2 pr1 (g := (mkF m 6 #[.val (.ref a), .val (.int ((31 : Int32) + x0)), .val (.int (1 : Int32))] [(.ref a), (.int (1 : Int32))])) rfl rfl (hb hby own_d_prog_40_method_11_6)
  refine own_Goes.st ?_ st5
  show own_Goes p.tables e below P (T5.setTop (mkF m 9 #[.val (.ref a), .val (.int ((31 : Int32) + x0)), .val (.int (1 : Int32))] [(.int (1 : Int32)), (.int (1 : Int32))]))
  refine own_Goes.st ?_ (fun _ k => XS.icmpYes X5.here hx rfl (pc0 := 9) (pc' := 30) rfl (hb hby own_d_prog_40_method_11_9) rfl (flt (by decide : ¬ ((1 : Int32) < (1 : Int32)))).2.1 (by decide) (by decide) k)
  show own_Goes p.tables e below P (T5.setTop (mkF m 30 #[.val (.ref a), .val (.int ((31 : Int32) + x0)), .val (.int (1 : Int32))] []))
  refine own_Goes.st ?_ (fun _ k => XS.iloadN X5.here hx rfl (hb hby own_d_prog_40_method_11_30) rfl k)
  show own_Goes p.tables e below P (T5.setTop (mkF m 31 #[.val (.ref a), .val (.int ((31 : Int32) + x0)), .val (.int (1 : Int32))] [(.int ((31 : Int32) + x0))]))
  obtain ⟨fs, hr, hrun, hended, hW, hsame⟩ := X5.leave (v := some (.int ((31 : Int32) + x0))) (fun h => by rw [Bd.returns] at h; cases h)
  exact own_Goes.fin _ _ (retOut X5 hx (t := .int) Bd.returns rfl (Or.inl ⟨rfl, Or.inl rfl, _, rfl⟩) (hb hby own_d_prog_40_method_11_31) hr) (hPP _ _ ⟨hrun, hended, _, _, rfl, (by show Q_hash_1 Z a b k x0 h0 n0 _ T5.heap _; rw [e5]; exact ⟨rfl, N0, rfl⟩), ⟨_, rfl⟩, hW, hsame.mono (by decide) (by decide)⟩)
theorem own_ef_hash_2 (m : MethodId) (x0 : Addr) : entryFrame m #[(.ref x0)] 3 = mkF m 0 #[.val (.ref x0), .unset, .unset] [] := by first | (simp [entryFrame, mkF, argsToLocals, Value.category]; done) | rfl
def Q_hash_2 (Z : State) (a : Addr) (b : Addr) (k : ClassId) (x0 : Int32) (x1 : Int32) (h0 : Heap) (n0 : Nat) (rv_ : Option Value) (h_ : Heap) (L_ : List Loc) : Prop := rv_ = some (.int ((31 : Int32) * ((31 : Int32) + x0) + x1)) ∧ Fr n0 L_ ∧ h_ = h0
set_option maxRecDepth 65536 in
set_option maxHeartbeats 40000000 in
theorem rm_hash_2 (l : Launch) (Z : State) (a0 : Array Value) (hw : ∀ d ∈ tables_1, d.before a0 Z = true) (ws : List Jvm.Cond) (a : Addr) (b : Addr) (k : ClassId) (x0 : Int32) (x1 : Int32) (h0 : Heap) (n0 : Nat) (Z0 : n0 ≤ h0.size) (pr0 : Fld Z h0 a "com/example/taxodelta/taxodelta/taxonomy/IntList" "values" "[I" (.ref b)) (pr1 : Fld Z h0 a "com/example/taxodelta/taxodelta/taxonomy/IntList" "size" "I" (.int (2 : Int32))) (pr2 : Arv Z h0 b k .int (2 : Int32) [(.int x0), (.int x1)] (.int 0)) :
    MetFree l (⟨"com/example/taxodelta/taxodelta/taxonomy/IntList", "hashCode", "()I"⟩ : MethodName) (head1 (Jvm.Cond.code (⟨"com/example/taxodelta/taxodelta/taxonomy/IntList", "hashCode", "()I"⟩ : MethodName) prog_40_method_11_code 3 (some .int) :: ws) ({ frames := 0, cells := 0, slots := 0, locals := 0 } : Room)) (fun as_ U => as_ = #[(.ref a)] ∧ Z.Warmed39 U.vm ∧ U.heap = h0) (fun _ _ _ _ _ => True) (fun _ U o U' => ∃ rv_ L_, o = .returned rv_ ∧ Q_hash_2 Z a b k x0 x1 h0 n0 rv_ U'.heap L_ ∧ FrameEnd U o U' L_ ({ frames := 0, cells := 0, slots := 0, locals := 0 } : Room).cells ({ frames := 0, cells := 0, slots := 0, locals := 0 } : Room).slots) := by
  refine MetFree.of_bodySF (plainFor_of_name own_pn_com_example_taxodelta_taxodelta_taxonomy_IntList) hisR ?_
  intro p e s m args below meth c s₁ Bd hml0 hP hK
  obtain ⟨rfl, hZ, hh⟩ := hP
  have hx := Bd.exec
  have hby := Bd.bytes
  have hml : c.maxLocals = 3 := hml0
  have hown : s.vm.findClass "com/example/taxodelta/taxodelta/taxonomy/IntList" = some m.cls := findClass_of_methodNamed Bd.named
  have hnm := (name_of_methodNamed Bd.named Bd.method).1
  have X0 : Stand p l e ({ frames := 0, cells := 0, slots := 0, locals := 0 } : Room) s m #[(.ref a)] below meth c s₁ [] 0 0 := Stand.of_body Bd
  have e0 : s₁.heap = h0 := by rw [← hh, Bd.state]; rfl
  have N0 := Fr.nil n0
  refine own_Goes.of ?_
  refine own_Goes.nm (fun P hPP => ?_)
  refine own_Goes.st ?_ (fun _ k => castTop (own_ef_hash_2 m a) k)
  show own_Goes p.tables e below P (s₁.setTop (mkF m 0 #[.val (.ref a), .unset, .unset] []))
  refine own_Goes.st ?_ (fun _ k => XS.iconst X0.here hx rfl (hb hby own_d_prog_40_method_11_0) k)
  show own_Goes p.tables e below P (s₁.setTop (mkF m 1 #[.val (.ref a), .unset, .unset] [(.int (1 : Int32))]))
  refine own_Goes.st ?_ (fun _ k => XS.istoreN X0.here hx rfl (hb hby own_d_prog_40_method_11_1) rfl (l' := #[.val (.ref a), .val (.int (1 : Int32)), .unset]) rfl k)
  show own_Goes p.tables e below P (s₁.setTop (mkF m 2 #[.val (.ref a), .val (.int (1 : Int32)), .unset] []))
  refine own_Goes.st ?_ (fun _ k => XS.iconst X0.here hx rfl (hb hby own_d_prog_40_method_11_2) k)
  show own_Goes p.tables e below P (s₁.setTop (mkF m 3 #[.val (.ref a), .val (.int (1 : Int32)), .unset] [(.int (0 : Int32))]))
  refine own_Goes.st ?_ (fun _ k => XS.istoreN X0.here hx rfl (hb hby own_d_prog_40_method_11_3) rfl (l' := #[.val (.ref a), .val (.int (1 : Int32)), .val (.int (0 : Int32))]) rfl k)
  show own_Goes p.tables e below P (s₁.setTop (mkF m 4 #[.val (.ref a), .val (.int (1 : Int32)), .val (.int (0 : Int32))] []))
  refine own_Goes.st ?_ (fun _ k => XS.iloadN X0.here hx rfl (hb hby own_d_prog_40_method_11_4) rfl k)
  show own_Goes p.tables e below P (s₁.setTop (mkF m 5 #[.val (.ref a), .val (.int (1 : Int32)), .val (.int (0 : Int32))] [(.int (0 : Int32))]))
  refine own_Goes.st ?_ (fun _ k => XS.aloadN X0.here hx rfl (hb hby own_d_prog_40_method_11_5) rfl rfl k)
  show own_Goes p.tables e below P (s₁.setTop (mkF m 6 #[.val (.ref a), .val (.int (1 : Int32)), .val (.int (0 : Int32))] [(.ref a), (.int (0 : Int32))]))
  obtain ⟨T1, X1, e1, st1⟩ := getF X0 hx hZ hown (host := "") (Or.inl (hw _ (List.mem_of_getElem? (i := 18) rfl))) Via.refl e0 pr1 (g := (mkF m 6 #[.val (.ref a), .val (.int (1 : Int32)), .val (.int (0 : Int32))] [(.ref a), (.int (0 : Int32))])) rfl rfl (hb hby own_d_prog_40_method_11_6)
  refine own_Goes.st ?_ st1
  show own_Goes p.tables e below P (T1.setTop (mkF m 9 #[.val (.ref a), .val (.int (1 : Int32)), .val (.int (0 : Int32))] [(.int (2 : Int32)), (.int (0 : Int32))]))
  refine own_Goes.st ?_ (fun _ k => XS.icmpNo X1.here hx rfl (hb hby own_d_prog_40_method_11_9) rfl (tlt (by decide : (0 : Int32) < (2 : Int32))).2.1 k)
  show own_Goes p.tables e below P (T1.setTop (mkF m 12 #[.val (.ref a), .val (.int (1 : Int32)), .val (.int (0 : Int32))] []))
  refine own_Goes.st ?_ (fun _ k => XS.bipush X1.here hx rfl (hb hby own_d_prog_40_method_11_12) k)
  show own_Goes p.tables e below P (T1.setTop (mkF m 14 #[.val (.ref a), .val (.int (1 : Int32)), .val (.int (0 : Int32))] [(.int (31 : Int32))]))
  refine own_Goes.st ?_ (fun _ k => XS.iloadN X1.here hx rfl (hb hby own_d_prog_40_method_11_14) rfl k)
  show own_Goes p.tables e below P (T1.setTop (mkF m 15 #[.val (.ref a), .val (.int (1 : Int32)), .val (.int (0 : Int32))] [(.int (1 : Int32)), (.int (31 : Int32))]))
  refine own_Goes.st ?_ (fun _ k => XS.imul X1.here hx rfl (hb hby own_d_prog_40_method_11_15) rfl k)
  show own_Goes p.tables e below P (T1.setTop (mkF m 16 #[.val (.ref a), .val (.int (1 : Int32)), .val (.int (0 : Int32))] [(.int (31 : Int32))]))
  refine own_Goes.st ?_ (fun _ k => XS.aloadN X1.here hx rfl (hb hby own_d_prog_40_method_11_16) rfl rfl k)
  show own_Goes p.tables e below P (T1.setTop (mkF m 17 #[.val (.ref a), .val (.int (1 : Int32)), .val (.int (0 : Int32))] [(.ref a), (.int (31 : Int32))]))
  obtain ⟨T2, X2, e2, st2⟩ := getF X1 hx hZ hown (host := "") (Or.inl (hw _ (List.mem_of_getElem? (i := 11) rfl))) Via.refl e1 pr0 (g := (mkF m 17 #[.val (.ref a), .val (.int (1 : Int32)), .val (.int (0 : Int32))] [(.ref a), (.int (31 : Int32))])) rfl rfl (hb hby own_d_prog_40_method_11_17)
  refine own_Goes.st ?_ st2
  show own_Goes p.tables e below P (T2.setTop (mkF m 20 #[.val (.ref a), .val (.int (1 : Int32)), .val (.int (0 : Int32))] [(.ref b), (.int (31 : Int32))]))
  refine own_Goes.st ?_ (fun _ k => XS.iloadN X2.here hx rfl (hb hby own_d_prog_40_method_11_20) rfl k)
  show own_Goes p.tables e below P (T2.setTop (mkF m 21 #[.val (.ref a), .val (.int (1 : Int32)), .val (.int (0 : Int32))] [(.int (0 : Int32)), (.ref b), (.int (31 : Int32))]))
  have Vc3 := pr2
  obtain ⟨cl3, Ar3, q3, S3, Nn3, Hs3, Gs3⟩ := Vc3
  have hin4 : ¬ ((0 : Int32) < 0 ∨ cl3.slots.size ≤ ((0 : Int32)).toNatClampNeg) := inb_of S3 ⟨by decide, by decide⟩
  refine own_Goes.st ?_ (X2.iaload hx (j := (0 : Int32)) (v := (.int x0)) (by rw [e2]; exact Ar3.1) (State.isArrayOf_alike hZ.alike Ar3.2.1) Ar3.2.2 hin4 (Has.at Hs3 hin4 rfl) (g := (mkF m 21 #[.val (.ref a), .val (.int (1 : Int32)), .val (.int (0 : Int32))] [(.int (0 : Int32)), (.ref b), (.int (31 : Int32))])) rfl rfl (hb hby own_d_prog_40_method_11_21))
  show own_Goes p.tables e below P (T2.setTop (mkF m 22 #[.val (.ref a), .val (.int (1 : Int32)), .val (.int (0 : Int32))] [(.int x0), (.int (31 : Int32))]))
  refine own_Goes.st ?_ (fun _ k => XS.iadd X2.here hx rfl (hb hby own_d_prog_40_method_11_22) rfl k)
  show own_Goes p.tables e below P (T2.setTop (mkF m 23 #[.val (.ref a), .val (.int (1 : Int32)), .val (.int (0 : Int32))] [(.int ((31 : Int32) + x0))]))
  refine own_Goes.st ?_ (fun _ k => XS.istoreN X2.here hx rfl (hb hby own_d_prog_40_method_11_23) rfl (l' := #[.val (.ref a), .val (.int ((31 : Int32) + x0)), .val (.int (0 : Int32))]) rfl k)
  show own_Goes p.tables e below P (T2.setTop (mkF m 24 #[.val (.ref a), .val (.int ((31 : Int32) + x0)), .val (.int (0 : Int32))] []))
  refine own_Goes.st ?_ (fun _ k => XS.iinc X2.here hx rfl (hb hby own_d_prog_40_method_11_24) rfl (l' := #[.val (.ref a), .val (.int ((31 : Int32) + x0)), .val (.int (1 : Int32))]) rfl k)
  show own_Goes p.tables e below P (T2.setTop (mkF m 27 #[.val (.ref a), .val (.int ((31 : Int32) + x0)), .val (.int (1 : Int32))] []))
  refine own_Goes.st ?_ (fun _ k => XS.goto X2.here hx rfl (pc0 := 27) (pc' := 4) rfl (hb hby own_d_prog_40_method_11_27) (by decide) (by decide) k)
  show own_Goes p.tables e below P (T2.setTop (mkF m 4 #[.val (.ref a), .val (.int ((31 : Int32) + x0)), .val (.int (1 : Int32))] []))
  refine own_Goes.st ?_ (fun _ k => XS.iloadN X2.here hx rfl (hb hby own_d_prog_40_method_11_4) rfl k)
  show own_Goes p.tables e below P (T2.setTop (mkF m 5 #[.val (.ref a), .val (.int ((31 : Int32) + x0)), .val (.int (1 : Int32))] [(.int (1 : Int32))]))
  refine own_Goes.st ?_ (fun _ k => XS.aloadN X2.here hx rfl (hb hby own_d_prog_40_method_11_5) rfl rfl k)
  show own_Goes p.tables e below P (T2.setTop (mkF m 6 #[.val (.ref a), .val (.int ((31 : Int32) + x0)), .val (.int (1 : Int32))] [(.ref a), (.int (1 : Int32))]))
  obtain ⟨T5, X5, e5, st5⟩ := getF X2 hx hZ hown (host := "") (Or.inl (hw _ (List.mem_of_getElem? (i := 18) rfl))) Via.refl e2 pr1 (g := (mkF m 6 #[.val (.ref a), .val (.int ((31 : Int32) + x0)), .val (.int (1 : Int32))] [(.ref a), (.int (1 : Int32))])) rfl rfl (hb hby own_d_prog_40_method_11_6)
  refine own_Goes.st ?_ st5
  show own_Goes p.tables e below P (T5.setTop (mkF m 9 #[.val (.ref a), .val (.int ((31 : Int32) + x0)), .val (.int (1 : Int32))] [(.int (2 : Int32)), (.int (1 : Int32))]))
  refine own_Goes.st ?_ (fun _ k => XS.icmpNo X5.here hx rfl (hb hby own_d_prog_40_method_11_9) rfl (tlt (by decide : (1 : Int32) < (2 : Int32))).2.1 k)
  show own_Goes p.tables e below P (T5.setTop (mkF m 12 #[.val (.ref a), .val (.int ((31 : Int32) + x0)), .val (.int (1 : Int32))] []))
  refine own_Goes.st ?_ (fun _ k => XS.bipush X5.here hx rfl (hb hby own_d_prog_40_method_11_12) k)
  show own_Goes p.tables e below P (T5.setTop (mkF m 14 #[.val (.ref a), .val (.int ((31 : Int32) + x0)), .val (.int (1 : Int32))] [(.int (31 : Int32))]))
  refine own_Goes.st ?_ (fun _ k => XS.iloadN X5.here hx rfl (hb hby own_d_prog_40_method_11_14) rfl k)
  show own_Goes p.tables e below P (T5.setTop (mkF m 15 #[.val (.ref a), .val (.int ((31 : Int32) + x0)), .val (.int (1 : Int32))] [(.int ((31 : Int32) + x0)), (.int (31 : Int32))]))
  refine own_Goes.st ?_ (fun _ k => XS.imul X5.here hx rfl (hb hby own_d_prog_40_method_11_15) rfl k)
  show own_Goes p.tables e below P (T5.setTop (mkF m 16 #[.val (.ref a), .val (.int ((31 : Int32) + x0)), .val (.int (1 : Int32))] [(.int ((31 : Int32) * ((31 : Int32) + x0)))]))
  refine own_Goes.st ?_ (fun _ k => XS.aloadN X5.here hx rfl (hb hby own_d_prog_40_method_11_16) rfl rfl k)
  show own_Goes p.tables e below P (T5.setTop (mkF m 17 #[.val (.ref a), .val (.int ((31 : Int32) + x0)), .val (.int (1 : Int32))] [(.ref a), (.int ((31 : Int32) * ((31 : Int32) + x0)))]))
  obtain ⟨T6, X6, e6, st6⟩ := getF X5 hx hZ hown (host := "") (Or.inl (hw _ (List.mem_of_getElem? (i := 11) rfl))) Via.refl e5 pr0 (g := (mkF m 17 #[.val (.ref a), .val (.int ((31 : Int32) + x0)), .val (.int (1 : Int32))] [(.ref a), (.int ((31 : Int32) * ((31 : Int32) + x0)))])) rfl rfl (hb hby own_d_prog_40_method_11_17)
  refine own_Goes.st ?_ st6
  show own_Goes p.tables e below P (T6.setTop (mkF m 20 #[.val (.ref a), .val (.int ((31 : Int32) + x0)), .val (.int (1 : Int32))] [(.ref b), (.int ((31 : Int32) * ((31 : Int32) + x0)))]))
  refine own_Goes.st ?_ (fun _ k => XS.iloadN X6.here hx rfl (hb hby own_d_prog_40_method_11_20) rfl k)
  show own_Goes p.tables e below P (T6.setTop (mkF m 21 #[.val (.ref a), .val (.int ((31 : Int32) + x0)), .val (.int (1 : Int32))] [(.int (1 : Int32)), (.ref b), (.int ((31 : Int32) * ((31 : Int32) + x0)))]))
  have hin7 : ¬ ((1 : Int32) < 0 ∨ cl3.slots.size ≤ ((1 : Int32)).toNatClampNeg) := inb_of S3 ⟨by decide, by decide⟩
  refine own_Goes.st ?_ (X6.iaload hx (j := (1 : Int32)) (v := (.int x1)) (by rw [e6]; exact Ar3.1) (State.isArrayOf_alike hZ.alike Ar3.2.1) Ar3.2.2 hin7 (Has.at Hs3 hin7 rfl) (g := (mkF m 21 #[.val (.ref a), .val (.int ((31 : Int32) + x0)), .val (.int (1 : Int32))] [(.int (1 : Int32)), (.ref b), (.int ((31 : Int32) * ((31 : Int32) + x0)))])) rfl rfl (hb hby own_d_prog_40_method_11_21))
  show own_Goes p.tables e below P (T6.setTop (mkF m 22 #[.val (.ref a), .val (.int ((31 : Int32) + x0)), .val (.int (1 : Int32))] [(.int x1), (.int ((31 : Int32) * ((31 : Int32) + x0)))]))
  refine own_Goes.st ?_ (fun _ k => XS.iadd X6.here hx rfl (hb hby own_d_prog_40_method_11_22) rfl k)
  show own_Goes p.tables e below P (T6.setTop (mkF m 23 #[.val (.ref a), .val (.int ((31 : Int32) + x0)), .val (.int (1 : Int32))] [(.int (((31 : Int32) * ((31 : Int32) + x0)) + x1))]))
  refine own_Goes.st ?_ (fun _ k => XS.istoreN X6.here hx rfl (hb hby own_d_prog_40_method_11_23) rfl (l' := #[.val (.ref a), .val (.int (((31 : Int32) * ((31 : Int32) + x0)) + x1)), .val (.int (1 : Int32))]) rfl k)
  show own_Goes p.tables e below P (T6.setTop (mkF m 24 #[.val (.ref a), .val (.int (((31 : Int32) * ((31 : Int32) + x0)) + x1)), .val (.int (1 : Int32))] []))
  refine own_Goes.st ?_ (fun _ k => XS.iinc X6.here hx rfl (hb hby own_d_prog_40_method_11_24) rfl (l' := #[.val (.ref a), .val (.int (((31 : Int32) * ((31 : Int32) + x0)) + x1)), .val (.int (2 : Int32))]) rfl k)
  show own_Goes p.tables e below P (T6.setTop (mkF m 27 #[.val (.ref a), .val (.int (((31 : Int32) * ((31 : Int32) + x0)) + x1)), .val (.int (2 : Int32))] []))
  refine own_Goes.st ?_ (fun _ k => XS.goto X6.here hx rfl (pc0 := 27) (pc' := 4) rfl (hb hby own_d_prog_40_method_11_27) (by decide) (by decide) k)
  show own_Goes p.tables e below P (T6.setTop (mkF m 4 #[.val (.ref a), .val (.int (((31 : Int32) * ((31 : Int32) + x0)) + x1)), .val (.int (2 : Int32))] []))
  refine own_Goes.st ?_ (fun _ k => XS.iloadN X6.here hx rfl (hb hby own_d_prog_40_method_11_4) rfl k)
  show own_Goes p.tables e below P (T6.setTop (mkF m 5 #[.val (.ref a), .val (.int (((31 : Int32) * ((31 : Int32) + x0)) + x1)), .val (.int (2 : Int32))] [(.int (2 : Int32))]))
  refine own_Goes.st ?_ (fun _ k => XS.aloadN X6.here hx rfl (hb hby own_d_prog_40_method_11_5) rfl rfl k)
  show own_Goes p.tables e below P (T6.setTop (mkF m 6 #[.val (.ref a), .val (.int (((31 : Int32) * ((31 : Int32) + x0)) + x1)), .val (.int (2 : Int32))] [(.ref a), (.int (2 : Int32))]))
  obtain ⟨T8, X8, e8, st8⟩ := getF X6 hx hZ hown (host := "") (Or.inl (hw _ (List.mem_of_getElem? (i := 18) rfl))) Via.refl e6 pr1 (g := (mkF m 6 #[.val (.ref a), .val (.int (((31 : Int32) * ((31 : Int32) + x0)) + x1)), .val (.int (2 : Int32))] [(.ref a), (.int (2 : Int32))])) rfl rfl (hb hby own_d_prog_40_method_11_6)
  refine own_Goes.st ?_ st8
  show own_Goes p.tables e below P (T8.setTop (mkF m 9 #[.val (.ref a), .val (.int (((31 : Int32) * ((31 : Int32) + x0)) + x1)), .val (.int (2 : Int32))] [(.int (2 : Int32)), (.int (2 : Int32))]))
  refine own_Goes.st ?_ (fun _ k => XS.icmpYes X8.here hx rfl (pc0 := 9) (pc' := 30) rfl (hb hby own_d_prog_40_method_11_9) rfl (flt (by decide : ¬ ((2 : Int32) < (2 : Int32)))).2.1 (by decide) (by decide) k)
  show own_Goes p.tables e below P (T8.setTop (mkF m 30 #[.val (.ref a), .val (.int (((31 : Int32) * ((31 : Int32) + x0)) + x1)), .val (.int (2 : Int32))] []))
  refine own_Goes.st ?_ (fun _ k => XS.iloadN X8.here hx rfl (hb hby own_d_prog_40_method_11_30) rfl k)
  show own_Goes p.tables e below P (T8.setTop (mkF m 31 #[.val (.ref a), .val (.int (((31 : Int32) * ((31 : Int32) + x0)) + x1)), .val (.int (2 : Int32))] [(.int (((31 : Int32) * ((31 : Int32) + x0)) + x1))]))
  obtain ⟨fs, hr, hrun, hended, hW, hsame⟩ := X8.leave (v := some (.int (((31 : Int32) * ((31 : Int32) + x0)) + x1))) (fun h => by rw [Bd.returns] at h; cases h)
  exact own_Goes.fin _ _ (retOut X8 hx (t := .int) Bd.returns rfl (Or.inl ⟨rfl, Or.inl rfl, _, rfl⟩) (hb hby own_d_prog_40_method_11_31) hr) (hPP _ _ ⟨hrun, hended, _, _, rfl, (by show Q_hash_2 Z a b k x0 x1 h0 n0 _ T8.heap _; rw [e8]; exact ⟨rfl, N0, rfl⟩), ⟨_, rfl⟩, hW, hsame.mono (by decide) (by decide)⟩)
theorem own_ef_hash_3 (m : MethodId) (x0 : Addr) : entryFrame m #[(.ref x0)] 3 = mkF m 0 #[.val (.ref x0), .unset, .unset] [] := by first | (simp [entryFrame, mkF, argsToLocals, Value.category]; done) | rfl
def Q_hash_3 (Z : State) (a : Addr) (b : Addr) (k : ClassId) (x0 : Int32) (x1 : Int32) (x2 : Int32) (h0 : Heap) (n0 : Nat) (rv_ : Option Value) (h_ : Heap) (L_ : List Loc) : Prop := rv_ = some (.int ((31 : Int32) * ((31 : Int32) * ((31 : Int32) + x0) + x1) + x2)) ∧ Fr n0 L_ ∧ h_ = h0
set_option maxRecDepth 65536 in
set_option maxHeartbeats 40000000 in
theorem rm_hash_3 (l : Launch) (Z : State) (a0 : Array Value) (hw : ∀ d ∈ tables_1, d.before a0 Z = true) (ws : List Jvm.Cond) (a : Addr) (b : Addr) (k : ClassId) (x0 : Int32) (x1 : Int32) (x2 : Int32) (h0 : Heap) (n0 : Nat) (Z0 : n0 ≤ h0.size) (pr0 : Fld Z h0 a "com/example/taxodelta/taxodelta/taxonomy/IntList" "values" "[I" (.ref b)) (pr1 : Fld Z h0 a "com/example/taxodelta/taxodelta/taxonomy/IntList" "size" "I" (.int (3 : Int32))) (pr2 : Arv Z h0 b k .int (4 : Int32) [(.int x0), (.int x1), (.int x2), (.int (0 : Int32))] (.int 0)) :
    MetFree l (⟨"com/example/taxodelta/taxodelta/taxonomy/IntList", "hashCode", "()I"⟩ : MethodName) (head1 (Jvm.Cond.code (⟨"com/example/taxodelta/taxodelta/taxonomy/IntList", "hashCode", "()I"⟩ : MethodName) prog_40_method_11_code 3 (some .int) :: ws) ({ frames := 0, cells := 0, slots := 0, locals := 0 } : Room)) (fun as_ U => as_ = #[(.ref a)] ∧ Z.Warmed39 U.vm ∧ U.heap = h0) (fun _ _ _ _ _ => True) (fun _ U o U' => ∃ rv_ L_, o = .returned rv_ ∧ Q_hash_3 Z a b k x0 x1 x2 h0 n0 rv_ U'.heap L_ ∧ FrameEnd U o U' L_ ({ frames := 0, cells := 0, slots := 0, locals := 0 } : Room).cells ({ frames := 0, cells := 0, slots := 0, locals := 0 } : Room).slots) := by
  refine MetFree.of_bodySF (plainFor_of_name own_pn_com_example_taxodelta_taxodelta_taxonomy_IntList) hisR ?_
  intro p e s m args below meth c s₁ Bd hml0 hP hK
  obtain ⟨rfl, hZ, hh⟩ := hP
  have hx := Bd.exec
  have hby := Bd.bytes
  have hml : c.maxLocals = 3 := hml0
  have hown : s.vm.findClass "com/example/taxodelta/taxodelta/taxonomy/IntList" = some m.cls := findClass_of_methodNamed Bd.named
  have hnm := (name_of_methodNamed Bd.named Bd.method).1
  have X0 : Stand p l e ({ frames := 0, cells := 0, slots := 0, locals := 0 } : Room) s m #[(.ref a)] below meth c s₁ [] 0 0 := Stand.of_body Bd
  have e0 : s₁.heap = h0 := by rw [← hh, Bd.state]; rfl
  have N0 := Fr.nil n0
  refine own_Goes.of ?_
  refine own_Goes.nm (fun P hPP => ?_)
  refine own_Goes.st ?_ (fun _ k => castTop (own_ef_hash_3 m a) k)
  show own_Goes p.tables e below P (s₁.setTop (mkF m 0 #[.val (.ref a), .unset, .unset] []))
  refine own_Goes.st ?_ (fun _ k => XS.iconst X0.here hx rfl (hb hby own_d_prog_40_method_11_0) k)
  show own_Goes p.tables e below P (s₁.setTop (mkF m 1 #[.val (.ref a), .unset, .unset] [(.int (1 : Int32))]))
  refine own_Goes.st ?_ (fun _ k => XS.istoreN X0.here hx rfl (hb hby own_d_prog_40_method_11_1) rfl (l' := #[.val (.ref a), .val (.int (1 : Int32)), .unset]) rfl k)
  show own_Goes p.tables e below P (s₁.setTop (mkF m 2 #[.val (.ref a), .val (.int (1 : Int32)), .unset] []))
  refine own_Goes.st ?_ (fun _ k => XS.iconst X0.here hx rfl (hb hby own_d_prog_40_method_11_2) k)
  show own_Goes p.tables e below P (s₁.setTop (mkF m 3 #[.val (.ref a), .val (.int (1 : Int32)), .unset] [(.int (0 : Int32))]))
  refine own_Goes.st ?_ (fun _ k => XS.istoreN X0.here hx rfl (hb hby own_d_prog_40_method_11_3) rfl (l' := #[.val (.ref a), .val (.int (1 : Int32)), .val (.int (0 : Int32))]) rfl k)
  show own_Goes p.tables e below P (s₁.setTop (mkF m 4 #[.val (.ref a), .val (.int (1 : Int32)), .val (.int (0 : Int32))] []))
  refine own_Goes.st ?_ (fun _ k => XS.iloadN X0.here hx rfl (hb hby own_d_prog_40_method_11_4) rfl k)
  show own_Goes p.tables e below P (s₁.setTop (mkF m 5 #[.val (.ref a), .val (.int (1 : Int32)), .val (.int (0 : Int32))] [(.int (0 : Int32))]))
  refine own_Goes.st ?_ (fun _ k => XS.aloadN X0.here hx rfl (hb hby own_d_prog_40_method_11_5) rfl rfl k)
  show own_Goes p.tables e below P (s₁.setTop (mkF m 6 #[.val (.ref a), .val (.int (1 : Int32)), .val (.int (0 : Int32))] [(.ref a), (.int (0 : Int32))]))
  obtain ⟨T1, X1, e1, st1⟩ := getF X0 hx hZ hown (host := "") (Or.inl (hw _ (List.mem_of_getElem? (i := 18) rfl))) Via.refl e0 pr1 (g := (mkF m 6 #[.val (.ref a), .val (.int (1 : Int32)), .val (.int (0 : Int32))] [(.ref a), (.int (0 : Int32))])) rfl rfl (hb hby own_d_prog_40_method_11_6)
  refine own_Goes.st ?_ st1
  show own_Goes p.tables e below P (T1.setTop (mkF m 9 #[.val (.ref a), .val (.int (1 : Int32)), .val (.int (0 : Int32))] [(.int (3 : Int32)), (.int (0 : Int32))]))
  refine own_Goes.st ?_ (fun _ k => XS.icmpNo X1.here hx rfl (hb hby own_d_prog_40_method_11_9) rfl (tlt (by decide : (0 : Int32) < (3 : Int32))).2.1 k)
  show own_Goes p.tables e below P (T1.setTop (mkF m 12 #[.val (.ref a), .val (.int (1 : Int32)), .val (.int (0 : Int32))] []))
  refine own_Goes.st ?_ (fun _ k => XS.bipush X1.here hx rfl (hb hby own_d_prog_40_method_11_12) k)
  show own_Goes p.tables e below P (T1.setTop (mkF m 14 #[.val (.ref a), .val (.int (1 : Int32)), .val (.int (0 : Int32))] [(.int (31 : Int32))]))
  refine own_Goes.st ?_ (fun _ k => XS.iloadN X1.here hx rfl (hb hby own_d_prog_40_method_11_14) rfl k)
  show own_Goes p.tables e below P (T1.setTop (mkF m 15 #[.val (.ref a), .val (.int (1 : Int32)), .val (.int (0 : Int32))] [(.int (1 : Int32)), (.int (31 : Int32))]))
  refine own_Goes.st ?_ (fun _ k => XS.imul X1.here hx rfl (hb hby own_d_prog_40_method_11_15) rfl k)
  show own_Goes p.tables e below P (T1.setTop (mkF m 16 #[.val (.ref a), .val (.int (1 : Int32)), .val (.int (0 : Int32))] [(.int (31 : Int32))]))
  refine own_Goes.st ?_ (fun _ k => XS.aloadN X1.here hx rfl (hb hby own_d_prog_40_method_11_16) rfl rfl k)
  show own_Goes p.tables e below P (T1.setTop (mkF m 17 #[.val (.ref a), .val (.int (1 : Int32)), .val (.int (0 : Int32))] [(.ref a), (.int (31 : Int32))]))
  obtain ⟨T2, X2, e2, st2⟩ := getF X1 hx hZ hown (host := "") (Or.inl (hw _ (List.mem_of_getElem? (i := 11) rfl))) Via.refl e1 pr0 (g := (mkF m 17 #[.val (.ref a), .val (.int (1 : Int32)), .val (.int (0 : Int32))] [(.ref a), (.int (31 : Int32))])) rfl rfl (hb hby own_d_prog_40_method_11_17)
  refine own_Goes.st ?_ st2
  show own_Goes p.tables e below P (T2.setTop (mkF m 20 #[.val (.ref a), .val (.int (1 : Int32)), .val (.int (0 : Int32))] [(.ref b), (.int (31 : Int32))]))
  refine own_Goes.st ?_ (fun _ k => XS.iloadN X2.here hx rfl (hb hby own_d_prog_40_method_11_20) rfl k)
  show own_Goes p.tables e below P (T2.setTop (mkF m 21 #[.val (.ref a), .val (.int (1 : Int32)), .val (.int (0 : Int32))] [(.int (0 : Int32)), (.ref b), (.int (31 : Int32))]))
  have Vc3 := pr2
  obtain ⟨cl3, Ar3, q3, S3, Nn3, Hs3, Gs3⟩ := Vc3
  have hin4 : ¬ ((0 : Int32) < 0 ∨ cl3.slots.size ≤ ((0 : Int32)).toNatClampNeg) := inb_of S3 ⟨by decide, by decide⟩
  refine own_Goes.st ?_ (X2.iaload hx (j := (0 : Int32)) (v := (.int x0)) (by rw [e2]; exact Ar3.1) (State.isArrayOf_alike hZ.alike Ar3.2.1) Ar3.2.2 hin4 (Has.at Hs3 hin4 rfl) (g := (mkF m 21 #[.val (.ref a), .val (.int (1 : Int32)), .val (.int (0 : Int32))] [(.int (0 : Int32)), (.ref b), (.int (31 : Int32))])) rfl rfl (hb hby own_d_prog_40_method_11_21))
  show own_Goes p.tables e below P (T2.setTop (mkF m 22 #[.val (.ref a), .val (.int (1 : Int32)), .val (.int (0 : Int32))] [(.int x0), (.int (31 : Int32))]))
  refine own_Goes.st ?_ (fun _ k => XS.iadd X2.here hx rfl (hb hby own_d_prog_40_method_11_22) rfl k)
  show own_Goes p.tables e below P (T2.setTop (mkF m 23 #[.val (.ref a), .val (.int (1 : Int32)), .val (.int (0 : Int32))] [(.int ((31 : Int32) + x0))]))
  refine own_Goes.st ?_ (fun _ k => XS.istoreN X2.here hx rfl (hb hby own_d_prog_40_method_11_23) rfl (l' := #[.val (.ref a), .val (.int ((31 : Int32) + x0)), .val (.int (0 : Int32))]) rfl k)
  show own_Goes p.tables e below P (T2.setTop (mkF m 24 #[.val (.ref a), .val (.int ((31 : Int32) + x0)), .val (.int (0 : Int32))] []))
  refine own_Goes.st ?_ (fun _ k => XS.iinc X2.here hx rfl (hb hby own_d_prog_40_method_11_24) rfl (l' := #[.val (.ref a), .val (.int ((31 : Int32) + x0)), .val (.int (1 : Int32))]) rfl k)
  show own_Goes p.tables e below P (T2.setTop (mkF m 27 #[.val (.ref a), .val (.int ((31 : Int32) + x0)), .val (.int (1 : Int32))] []))
  refine own_Goes.st ?_ (fun _ k => XS.goto X2.here hx rfl (pc0 := 27) (pc' := 4) rfl (hb hby own_d_prog_40_method_11_27) (by decide) (by decide) k)
  show own_Goes p.tables e below P (T2.setTop (mkF m 4 #[.val (.ref a), .val (.int ((31 : Int32) + x0)), .val (.int (1 : Int32))] []))
  refine own_Goes.st ?_ (fun _ k => XS.iloadN X2.here hx rfl (hb hby own_d_prog_40_method_11_4) rfl k)
  show own_Goes p.tables e below P (T2.setTop (mkF m 5 #[.val (.ref a), .val (.int ((31 : Int32) + x0)), .val (.int (1 : Int32))] [(.int (1 : Int32))]))
  refine own_Goes.st ?_ (fun _ k => XS.aloadN X2.here hx rfl (hb hby own_d_prog_40_method_11_5) rfl rfl k)
  show own_Goes p.tables e below P (T2.setTop (mkF m 6 #[.val (.ref a), .val (.int ((31 : Int32) + x0)), .val (.int (1 : Int32))] [(.ref a), (.int (1 : Int32))]))
  obtain ⟨T5, X5, e5, st5⟩ := getF X2 hx hZ hown (host := "") (Or.inl (hw _ (List.mem_of_getElem? (i := 18) rfl))) Via.refl e2 pr1 (g := (mkF m 6 #[.val (.ref a), .val (.int ((31 : Int32) + x0)), .val (.int (1 : Int32))] [(.ref a), (.int (1 : Int32))])) rfl rfl (hb hby own_d_prog_40_method_11_6)
  refine own_Goes.st ?_ st5
  show own_Goes p.tables e below P (T5.setTop (mkF m 9 #[.val (.ref a), .val (.int ((31 : Int32) + x0)), .val (.int (1 : Int32))] [(.int (3 : Int32)), (.int (1 : Int32))]))
  refine own_Goes.st ?_ (fun _ k => XS.icmpNo X5.here hx rfl (hb hby own_d_prog_40_method_11_9) rfl (tlt (by decide : (1 : Int32) < (3 : Int32))).2.1 k)
  show own_Goes p.tables e below P (T5.setTop (mkF m 12 #[.val (.ref a), .val (.int ((31 : Int32) + x0)), .val (.int (1 : Int32))] []))
  refine own_Goes.st ?_ (fun _ k => XS.bipush X5.here hx rfl (hb hby own_d_prog_40_method_11_12) k)
  show own_Goes p.tables e below P (T5.setTop (mkF m 14 #[.val (.ref a), .val (.int ((31 : Int32) + x0)), .val (.int (1 : Int32))] [(.int (31 : Int32))]))
  refine own_Goes.st ?_ (fun _ k => XS.iloadN X5.here hx rfl (hb hby own_d_prog_40_method_11_14) rfl k)
  show own_Goes p.tables e below P (T5.setTop (mkF m 15 #[.val (.ref a), .val (.int ((31 : Int32) + x0)), .val (.int (1 : Int32))] [(.int ((31 : Int32) + x0)), (.int (31 : Int32))]))
  refine own_Goes.st ?_ (fun _ k => XS.imul X5.here hx rfl (hb hby own_d_prog_40_method_11_15) rfl k)
  show own_Goes p.tables e below P (T5.setTop (mkF m 16 #[.val (.ref a), .val (.int ((31 : Int32) + x0)), .val (.int (1 : Int32))] [(.int ((31 : Int32) * ((31 : Int32) + x0)))]))
  refine own_Goes.st ?_ (fun _ k => XS.aloadN X5.here hx rfl (hb hby own_d_prog_40_method_11_16) rfl rfl k)
  show own_Goes p.tables e below P (T5.setTop (mkF m 17 #[.val (.ref a), .val (.int ((31 : Int32) + x0)), .val (.int (1 : Int32))] [(.ref a), (.int ((31 : Int32) * ((31 : Int32) + x0)))]))
  obtain ⟨T6, X6, e6, st6⟩ := getF X5 hx hZ hown (host := "") (Or.inl (hw _ (List.mem_of_getElem? (i := 11) rfl))) Via.refl e5 pr0 (g := (mkF m 17 #[.val (.ref a), .val (.int ((31 : Int32) + x0)), .val (.int (1 : Int32))] [(.ref a), (.int ((31 : Int32) * ((31 : Int32) + x0)))])) rfl rfl (hb hby own_d_prog_40_method_11_17)
  refine own_Goes.st ?_ st6
  show own_Goes p.tables e below P (T6.setTop (mkF m 20 #[.val (.ref a), .val (.int ((31 : Int32) + x0)), .val (.int (1 : Int32))] [(.ref b), (.int ((31 : Int32) * ((31 : Int32) + x0)))]))
  refine own_Goes.st ?_ (fun _ k => XS.iloadN X6.here hx rfl (hb hby own_d_prog_40_method_11_20) rfl k)
  show own_Goes p.tables e below P (T6.setTop (mkF m 21 #[.val (.ref a), .val (.int ((31 : Int32) + x0)), .val (.int (1 : Int32))] [(.int (1 : Int32)), (.ref b), (.int ((31 : Int32) * ((31 : Int32) + x0)))]))
  have hin7 : ¬ ((1 : Int32) < 0 ∨ cl3.slots.size ≤ ((1 : Int32)).toNatClampNeg) := inb_of S3 ⟨by decide, by decide⟩
  refine own_Goes.st ?_ (X6.iaload hx (j := (1 : Int32)) (v := (.int x1)) (by rw [e6]; exact Ar3.1) (State.isArrayOf_alike hZ.alike Ar3.2.1) Ar3.2.2 hin7 (Has.at Hs3 hin7 rfl) (g := (mkF m 21 #[.val (.ref a), .val (.int ((31 : Int32) + x0)), .val (.int (1 : Int32))] [(.int (1 : Int32)), (.ref b), (.int ((31 : Int32) * ((31 : Int32) + x0)))])) rfl rfl (hb hby own_d_prog_40_method_11_21))
  show own_Goes p.tables e below P (T6.setTop (mkF m 22 #[.val (.ref a), .val (.int ((31 : Int32) + x0)), .val (.int (1 : Int32))] [(.int x1), (.int ((31 : Int32) * ((31 : Int32) + x0)))]))
  refine own_Goes.st ?_ (fun _ k => XS.iadd X6.here hx rfl (hb hby own_d_prog_40_method_11_22) rfl k)
  show own_Goes p.tables e below P (T6.setTop (mkF m 23 #[.val (.ref a), .val (.int ((31 : Int32) + x0)), .val (.int (1 : Int32))] [(.int (((31 : Int32) * ((31 : Int32) + x0)) + x1))]))
  refine own_Goes.st ?_ (fun _ k => XS.istoreN X6.here hx rfl (hb hby own_d_prog_40_method_11_23) rfl (l' := #[.val (.ref a), .val (.int (((31 : Int32) * ((31 : Int32) + x0)) + x1)), .val (.int (1 : Int32))]) rfl k)
  show own_Goes p.tables e below P (T6.setTop (mkF m 24 #[.val (.ref a), .val (.int (((31 : Int32) * ((31 : Int32) + x0)) + x1)), .val (.int (1 : Int32))] []))
  refine own_Goes.st ?_ (fun _ k => XS.iinc X6.here hx rfl (hb hby own_d_prog_40_method_11_24) rfl (l' := #[.val (.ref a), .val (.int (((31 : Int32) * ((31 : Int32) + x0)) + x1)), .val (.int (2 : Int32))]) rfl k)
  show own_Goes p.tables e below P (T6.setTop (mkF m 27 #[.val (.ref a), .val (.int (((31 : Int32) * ((31 : Int32) + x0)) + x1)), .val (.int (2 : Int32))] []))
  refine own_Goes.st ?_ (fun _ k => XS.goto X6.here hx rfl (pc0 := 27) (pc' := 4) rfl (hb hby own_d_prog_40_method_11_27) (by decide) (by decide) k)
  show own_Goes p.tables e below P (T6.setTop (mkF m 4 #[.val (.ref a), .val (.int (((31 : Int32) * ((31 : Int32) + x0)) + x1)), .val (.int (2 : Int32))] []))
  refine own_Goes.st ?_ (fun _ k => XS.iloadN X6.here hx rfl (hb hby own_d_prog_40_method_11_4) rfl k)
  show own_Goes p.tables e below P (T6.setTop (mkF m 5 #[.val (.ref a), .val (.int (((31 : Int32) * ((31 : Int32) + x0)) + x1)), .val (.int (2 : Int32))] [(.int (2 : Int32))]))
  refine own_Goes.st ?_ (fun _ k => XS.aloadN X6.here hx rfl (hb hby own_d_prog_40_method_11_5) rfl rfl k)
  show own_Goes p.tables e below P (T6.setTop (mkF m 6 #[.val (.ref a), .val (.int (((31 : Int32) * ((31 : Int32) + x0)) + x1)), .val (.int (2 : Int32))] [(.ref a), (.int (2 : Int32))]))
  obtain ⟨T8, X8, e8, st8⟩ := getF X6 hx hZ hown (host := "") (Or.inl (hw _ (List.mem_of_getElem? (i := 18) rfl))) Via.refl e6 pr1 (g := (mkF m 6 #[.val (.ref a), .val (.int (((31 : Int32) * ((31 : Int32) + x0)) + x1)), .val (.int (2 : Int32))] [(.ref a), (.int (2 : Int32))])) rfl rfl (hb hby own_d_prog_40_method_11_6)
  refine own_Goes.st ?_ st8
  show own_Goes p.tables e below P (T8.setTop (mkF m 9 #[.val (.ref a), .val (.int (((31 : Int32) * ((31 : Int32) + x0)) + x1)), .val (.int (2 : Int32))] [(.int (3 : Int32)), (.int (2 : Int32))]))
  refine own_Goes.st ?_ (fun _ k => XS.icmpNo X8.here hx rfl (hb hby own_d_prog_40_method_11_9) rfl (tlt (by decide : (2 : Int32) < (3 : Int32))).2.1 k)
  show own_Goes p.tables e below P (T8.setTop (mkF m 12 #[.val (.ref a), .val (.int (((31 : Int32) * ((31 : Int32) + x0)) + x1)), .val (.int (2 : Int32))] []))
  refine own_Goes.st ?_ (fun _ k => XS.bipush X8.here hx rfl (hb hby own_d_prog_40_method_11_12) k)
  show own_Goes p.tables e below P (T8.setTop (mkF m 14 #[.val (.ref a), .val (.int (((31 : Int32) * ((31 : Int32) + x0)) + x1)), .val (.int (2 : Int32))] [(.int (31 : Int32))]))
  refine own_Goes.st ?_ (fun _ k => XS.iloadN X8.here hx rfl (hb hby own_d_prog_40_method_11_14) rfl k)
  show own_Goes p.tables e below P (T8.setTop (mkF m 15 #[.val (.ref a), .val (.int (((31 : Int32) * ((31 : Int32) + x0)) + x1)), .val (.int (2 : Int32))] [(.int (((31 : Int32) * ((31 : Int32) + x0)) + x1)), (.int (31 : Int32))]))
  refine own_Goes.st ?_ (fun _ k => XS.imul X8.here hx rfl (hb hby own_d_prog_40_method_11_15) rfl k)
  show own_Goes p.tables e below P (T8.setTop (mkF m 16 #[.val (.ref a), .val (.int (((31 : Int32) * ((31 : Int32) + x0)) + x1)), .val (.int (2 : Int32))] [(.int ((31 : Int32) * (((31 : Int32) * ((31 : Int32) + x0)) + x1)))]))
  refine own_Goes.st ?_ (fun _ k => XS.aloadN X8.here hx rfl (hb hby own_d_prog_40_method_11_16) rfl rfl k)
  show own_Goes p.tables e below P (T8.setTop (mkF m 17 #[.val (.ref a), .val (.int (((31 : Int32) * ((31 : Int32) + x0)) + x1)), .val (.int (2 : Int32))] [(.ref a), (.int ((31 : Int32) * (((31 : Int32) * ((31 : Int32) + x0)) + x1)))]))
  obtain ⟨T9, X9, e9, st9⟩ := getF X8 hx hZ hown (host := "") (Or.inl (hw _ (List.mem_of_getElem? (i := 11) rfl))) Via.refl e8 pr0 (g := (mkF m 17 #[.val (.ref a), .val (.int (((31 : Int32) * ((31 : Int32) + x0)) + x1)), .val (.int (2 : Int32))] [(.ref a), (.int ((31 : Int32) * (((31 : Int32) * ((31 : Int32) + x0)) + x1)))])) rfl rfl (hb hby own_d_prog_40_method_11_17)
  refine own_Goes.st ?_ st9
  show own_Goes p.tables e below P (T9.setTop (mkF m 20 #[.val (.ref a), .val (.int (((31 : Int32) * ((31 : Int32) + x0)) + x1)), .val (.int (2 : Int32))] [(.ref b), (.int ((31 : Int32) * (((31 : Int32) * ((31 : Int32) + x0)) + x1)))]))
  refine own_Goes.st ?_ (fun _ k => XS.iloadN X9.here hx rfl (hb hby own_d_prog_40_method_11_20) rfl k)
  show own_Goes p.tables e below P (T9.setTop (mkF m 21 #[.val (.ref a), .val (.int (((31 : Int32) * ((31 : Int32) + x0)) + x1)), .val (.int (2 : Int32))] [(.int (2 : Int32)), (.ref b), (.int ((31 : Int32) * (((31 : Int32) * ((31 : Int32) + x0)) + x1)))]))
  have hin10 : ¬ ((2 : Int32) < 0 ∨ cl3.slots.size ≤ ((2 : Int32)).toNatClampNeg) := inb_of S3 ⟨by decide, by decide⟩
  refine own_Goes.st ?_ (X9.iaload hx (j := (2 : Int32)) (v := (.int x2)) (by rw [e9]; exact Ar3.1) (State.isArrayOf_alike hZ.alike Ar3.2.1) Ar3.2.2 hin10 (Has.at Hs3 hin10 rfl) (g := (mkF m 21 #[.val (.ref a), .val (.int (((31 : Int32) * ((31 : Int32) + x0)) + x1)), .val (.int (2 : Int32))] [(.int (2 : Int32)), (.ref b), (.int ((31 : Int32) * (((31 : Int32) * ((31 : Int32) + x0)) + x1)))])) rfl rfl (hb hby own_d_prog_40_method_11_21))
  show own_Goes p.tables e below P (T9.setTop (mkF m 22 #[.val (.ref a), .val (.int (((31 : Int32) * ((31 : Int32) + x0)) + x1)), .val (.int (2 : Int32))] [(.int x2), (.int ((31 : Int32) * (((31 : Int32) * ((31 : Int32) + x0)) + x1)))]))
  refine own_Goes.st ?_ (fun _ k => XS.iadd X9.here hx rfl (hb hby own_d_prog_40_method_11_22) rfl k)
  show own_Goes p.tables e below P (T9.setTop (mkF m 23 #[.val (.ref a), .val (.int (((31 : Int32) * ((31 : Int32) + x0)) + x1)), .val (.int (2 : Int32))] [(.int (((31 : Int32) * (((31 : Int32) * ((31 : Int32) + x0)) + x1)) + x2))]))
  refine own_Goes.st ?_ (fun _ k => XS.istoreN X9.here hx rfl (hb hby own_d_prog_40_method_11_23) rfl (l' := #[.val (.ref a), .val (.int (((31 : Int32) * (((31 : Int32) * ((31 : Int32) + x0)) + x1)) + x2)), .val (.int (2 : Int32))]) rfl k)
  show own_Goes p.tables e below P (T9.setTop (mkF m 24 #[.val (.ref a), .val (.int (((31 : Int32) * (((31 : Int32) * ((31 : Int32) + x0)) + x1)) + x2)), .val (.int (2 : Int32))] []))
  refine own_Goes.st ?_ (fun _ k => XS.iinc X9.here hx rfl (hb hby own_d_prog_40_method_11_24) rfl (l' := #[.val (.ref a), .val (.int (((31 : Int32) * (((31 : Int32) * ((31 : Int32) + x0)) + x1)) + x2)), .val (.int (3 : Int32))]) rfl k)
  show own_Goes p.tables e below P (T9.setTop (mkF m 27 #[.val (.ref a), .val (.int (((31 : Int32) * (((31 : Int32) * ((31 : Int32) + x0)) + x1)) + x2)), .val (.int (3 : Int32))] []))
  refine own_Goes.st ?_ (fun _ k => XS.goto X9.here hx rfl (pc0 := 27) (pc' := 4) rfl (hb hby own_d_prog_40_method_11_27) (by decide) (by decide) k)
  show own_Goes p.tables e below P (T9.setTop (mkF m 4 #[.val (.ref a), .val (.int (((31 : Int32) * (((31 : Int32) * ((31 : Int32) + x0)) + x1)) + x2)), .val (.int (3 : Int32))] []))
  refine own_Goes.st ?_ (fun _ k => XS.iloadN X9.here hx rfl (hb hby own_d_prog_40_method_11_4) rfl k)
  show own_Goes p.tables e below P (T9.setTop (mkF m 5 #[.val (.ref a), .val (.int (((31 : Int32) * (((31 : Int32) * ((31 : Int32) + x0)) + x1)) + x2)), .val (.int (3 : Int32))] [(.int (3 : Int32))]))
  refine own_Goes.st ?_ (fun _ k => XS.aloadN X9.here hx rfl (hb hby own_d_prog_40_method_11_5) rfl rfl k)
  show own_Goes p.tables e below P (T9.setTop (mkF m 6 #[.val (.ref a), .val (.int (((31 : Int32) * (((31 : Int32) * ((31 : Int32) + x0)) + x1)) + x2)), .val (.int (3 : Int32))] [(.ref a), (.int (3 : Int32))]))
  obtain ⟨T11, X11, e11, st11⟩ := getF X9 hx hZ hown (host := "") (Or.inl (hw _ (List.mem_of_getElem? (i := 18) rfl))) Via.refl e9 pr1 (g := (mkF m 6 #[.val (.ref a), .val (.int (((31 : Int32) * (((31 : Int32) * ((31 : Int32) + x0)) + x1)) + x2)), .val (.int (3 : Int32))] [(.ref a), (.int (3 : Int32))])) rfl rfl (hb hby own_d_prog_40_method_11_6)
  refine own_Goes.st ?_ st11
  show own_Goes p.tables e below P (T11.setTop (mkF m 9 #[.val (.ref a), .val (.int (((31 : Int32) * (((31 : Int32) * ((31 : Int32) + x0)) + x1)) + x2)), .val (.int (3 : Int32))] [(.int (3 : Int32)), (.int (3 : Int32))]))
  refine own_Goes.st ?_ (fun _ k => XS.icmpYes X11.here hx rfl (pc0 := 9) (pc' := 30) rfl (hb hby own_d_prog_40_method_11_9) rfl (flt (by decide : ¬ ((3 : Int32) < (3 : Int32)))).2.1 (by decide) (by decide) k)
  show own_Goes p.tables e below P (T11.setTop (mkF m 30 #[.val (.ref a), .val (.int (((31 : Int32) * (((31 : Int32) * ((31 : Int32) + x0)) + x1)) + x2)), .val (.int (3 : Int32))] []))
  refine own_Goes.st ?_ (fun _ k => XS.iloadN X11.here hx rfl (hb hby own_d_prog_40_method_11_30) rfl k)
  show own_Goes p.tables e below P (T11.setTop (mkF m 31 #[.val (.ref a), .val (.int (((31 : Int32) * (((31 : Int32) * ((31 : Int32) + x0)) + x1)) + x2)), .val (.int (3 : Int32))] [(.int (((31 : Int32) * (((31 : Int32) * ((31 : Int32) + x0)) + x1)) + x2))]))
  obtain ⟨fs, hr, hrun, hended, hW, hsame⟩ := X11.leave (v := some (.int (((31 : Int32) * (((31 : Int32) * ((31 : Int32) + x0)) + x1)) + x2))) (fun h => by rw [Bd.returns] at h; cases h)
  exact own_Goes.fin _ _ (retOut X11 hx (t := .int) Bd.returns rfl (Or.inl ⟨rfl, Or.inl rfl, _, rfl⟩) (hb hby own_d_prog_40_method_11_31) hr) (hPP _ _ ⟨hrun, hended, _, _, rfl, (by show Q_hash_3 Z a b k x0 x1 x2 h0 n0 _ T11.heap _; rw [e11]; exact ⟨rfl, N0, rfl⟩), ⟨_, rfl⟩, hW, hsame.mono (by decide) (by decide)⟩)
theorem own_ef_hash_4 (m : MethodId) (x0 : Addr) : entryFrame m #[(.ref x0)] 3 = mkF m 0 #[.val (.ref x0), .unset, .unset] [] := by first | (simp [entryFrame, mkF, argsToLocals, Value.category]; done) | rfl
def Q_hash_4 (Z : State) (a : Addr) (b : Addr) (k : ClassId) (x0 : Int32) (x1 : Int32) (x2 : Int32) (x3 : Int32) (h0 : Heap) (n0 : Nat) (rv_ : Option Value) (h_ : Heap) (L_ : List Loc) : Prop := rv_ = some (.int ((31 : Int32) * ((31 : Int32) * ((31 : Int32) * ((31 : Int32) + x0) + x1) + x2) + x3)) ∧ Fr n0 L_ ∧ h_ = h0
set_option maxRecDepth 65536 in
set_option maxHeartbeats 40000000 in
theorem rm_hash_4 (l : Launch) (Z : State) (a0 : Array Value) (hw : ∀ d ∈ tables_1, d.before a0 Z = true) (ws : List Jvm.Cond) (a : Addr) (b : Addr) (k : ClassId) (x0 : Int32) (x1 : Int32) (x2 : Int32) (x3 : Int32) (h0 : Heap) (n0 : Nat) (Z0 : n0 ≤ h0.size) (pr0 : Fld Z h0 a "com/example/taxodelta/taxodelta/taxonomy/IntList" "values" "[I" (.ref b)) (pr1 : Fld Z h0 a "com/example/taxodelta/taxodelta/taxonomy/IntList" "size" "I" (.int (4 : Int32))) (pr2 : Arv Z h0 b k .int (4 : Int32) [(.int x0), (.int x1), (.int x2), (.int x3)] (.int 0)) :
    MetFree l (⟨"com/example/taxodelta/taxodelta/taxonomy/IntList", "hashCode", "()I"⟩ : MethodName) (head1 (Jvm.Cond.code (⟨"com/example/taxodelta/taxodelta/taxonomy/IntList", "hashCode", "()I"⟩ : MethodName) prog_40_method_11_code 3 (some .int) :: ws) ({ frames := 0, cells := 0, slots := 0, locals := 0 } : Room)) (fun as_ U => as_ = #[(.ref a)] ∧ Z.Warmed39 U.vm ∧ U.heap = h0) (fun _ _ _ _ _ => True) (fun _ U o U' => ∃ rv_ L_, o = .returned rv_ ∧ Q_hash_4 Z a b k x0 x1 x2 x3 h0 n0 rv_ U'.heap L_ ∧ FrameEnd U o U' L_ ({ frames := 0, cells := 0, slots := 0, locals := 0 } : Room).cells ({ frames := 0, cells := 0, slots := 0, locals := 0 } : Room).slots) := by
  refine MetFree.of_bodySF (plainFor_of_name own_pn_com_example_taxodelta_taxodelta_taxonomy_IntList) hisR ?_
  intro p e s m args below meth c s₁ Bd hml0 hP hK
  obtain ⟨rfl, hZ, hh⟩ := hP
  have hx := Bd.exec
  have hby := Bd.bytes
  have hml : c.maxLocals = 3 := hml0
  have hown : s.vm.findClass "com/example/taxodelta/taxodelta/taxonomy/IntList" = some m.cls := findClass_of_methodNamed Bd.named
  have hnm := (name_of_methodNamed Bd.named Bd.method).1
  have X0 : Stand p l e ({ frames := 0, cells := 0, slots := 0, locals := 0 } : Room) s m #[(.ref a)] below meth c s₁ [] 0 0 := Stand.of_body Bd
  have e0 : s₁.heap = h0 := by rw [← hh, Bd.state]; rfl
  have N0 := Fr.nil n0
  refine own_Goes.of ?_
  refine own_Goes.nm (fun P hPP => ?_)
  refine own_Goes.st ?_ (fun _ k => castTop (own_ef_hash_4 m a) k)
  show own_Goes p.tables e below P (s₁.setTop (mkF m 0 #[.val (.ref a), .unset, .unset] []))
  refine own_Goes.st ?_ (fun _ k => XS.iconst X0.here hx rfl (hb hby own_d_prog_40_method_11_0) k)
  show own_Goes p.tables e below P (s₁.setTop (mkF m 1 #[.val (.ref a), .unset, .unset] [(.int (1 : Int32))]))
  refine own_Goes.st ?_ (fun _ k => XS.istoreN X0.here hx rfl (hb hby own_d_prog_40_method_11_1) rfl (l' := #[.val (.ref a), .val (.int (1 : Int32)), .unset]) rfl k)
  show own_Goes p.tables e below P (s₁.setTop (mkF m 2 #[.val (.ref a), .val (.int (1 : Int32)), .unset] []))
  refine own_Goes.st ?_ (fun _ k => XS.iconst X0.here hx rfl (hb hby own_d_prog_40_method_11_2) k)
  show own_Goes p.tables e below P (s₁.setTop (mkF m 3 #[.val (.ref a), .val (.int (1 : Int32)), .unset] [(.int (0 : Int32))]))
  refine own_Goes.st ?_ (fun _ k => XS.istoreN X0.here hx rfl (hb hby own_d_prog_40_method_11_3) rfl (l' := #[.val (.ref a), .val (.int (1 : Int32)), .val (.int (0 : Int32))]) rfl k)
  show own_Goes p.tables e below P (s₁.setTop (mkF m 4 #[.val (.ref a), .val (.int (1 : Int32)), .val (.int (0 : Int32))] []))
  refine own_Goes.st ?_ (fun _ k => XS.iloadN X0.here hx rfl (hb hby own_d_prog_40_method_11_4) rfl k)
  show own_Goes p.tables e below P (s₁.setTop (mkF m 5 #[.val (.ref a), .val (.int (1 : Int32)), .val (.int (0 : Int32))] [(.int (0 : Int32))]))
  refine own_Goes.st ?_ (fun _ k => XS.aloadN X0.here hx rfl (hb hby own_d_prog_40_method_11_5) rfl rfl k)
  show own_Goes p.tables e below P (s₁.setTop (mkF m 6 #[.val (.ref a), .val (.int (1 : Int32)), .val (.int (0 : Int32))] [(.ref a), (.int (0 : Int32))]))
  obtain ⟨T1, X1, e1, st1⟩ := getF X0 hx hZ hown (host := "") (Or.inl (hw _ (List.mem_of_getElem? (i := 18) rfl))) Via.refl e0 pr1 (g := (mkF m 6 #[.val (.ref a), .val (.int (1 : Int32)), .val (.int (0 : Int32))] [(.ref a), (.int (0 : Int32))])) rfl rfl (hb hby own_d_prog_40_method_11_6)
  refine own_Goes.st ?_ st1
  show own_Goes p.tables e below P (T1.setTop (mkF m 9 #[.val (.ref a), .val (.int (1 : Int32)), .val (.int (0 : Int32))] [(.int (4 : Int32)), (.int (0 : Int32))]))
  refine own_Goes.st ?_ (fun _ k => XS.icmpNo X1.here hx rfl (hb hby own_d_prog_40_method_11_9) rfl (tlt (by decide : (0 : Int32) < (4 : Int32))).2.1 k)
  show own_Goes p.tables e below P (T1.setTop (mkF m 12 #[.val (.ref a), .val (.int (1 : Int32)), .val (.int (0 : Int32))] []))
  refine own_Goes.st ?_ (fun _ k => XS.bipush X1.here hx rfl (hb hby own_d_prog_40_method_11_12) k)
  show own_Goes p.tables e below P (T1.setTop (mkF m 14 #[.val (.ref a), .val (.int (1 : Int32)), .val (.int (0 : Int32))] [(.int (31 : Int32))]))
  refine own_Goes.st ?_ (fun _ k => XS.iloadN X1.here hx rfl (hb hby own_d_prog_40_method_11_14) rfl k)
  show own_Goes p.tables e below P (T1.setTop (mkF m 15 #[.val (.ref a), .val (.int (1 : Int32)), .val (.int (0 : Int32))] [(.int (1 : Int32)), (.int (31 : Int32))]))
  refine own_Goes.st ?_ (fun _ k => XS.imul X1.here hx rfl (hb hby own_d_prog_40_method_11_15) rfl k)
  show own_Goes p.tables e below P (T1.setTop (mkF m 16 #[.val (.ref a), .val (.int (1 : Int32)), .val (.int (0 : Int32))] [(.int (31 : Int32))]))
  refine own_Goes.st ?_ (fun _ k => XS.aloadN X1.here hx rfl (hb hby own_d_prog_40_method_11_16) rfl rfl k)
  show own_Goes p.tables e below P (T1.setTop (mkF m 17 #[.val (.ref a), .val (.int (1 : Int32)), .val (.int (0 : Int32))] [(.ref a), (.int (31 : Int32))]))
  obtain ⟨T2, X2, e2, st2⟩ := getF X1 hx hZ hown (host := "") (Or.inl (hw _ (List.mem_of_getElem? (i := 11) rfl))) Via.refl e1 pr0 (g := (mkF m 17 #[.val (.ref a), .val (.int (1 : Int32)), .val (.int (0 : Int32))] [(.ref a), (.int (31 : Int32))])) rfl rfl (hb hby own_d_prog_40_method_11_17)
  refine own_Goes.st ?_ st2
  show own_Goes p.tables e below P (T2.setTop (mkF m 20 #[.val (.ref a), .val (.int (1 : Int32)), .val (.int (0 : Int32))] [(.ref b), (.int (31 : Int32))]))
  refine own_Goes.st ?_ (fun _ k => XS.iloadN X2.here hx rfl (hb hby own_d_prog_40_method_11_20) rfl k)
  show own_Goes p.tables e below P (T2.setTop (mkF m 21 #[.val (.ref a), .val (.int (1 : Int32)), .val (.int (0 : Int32))] [(.int (0 : Int32)), (.ref b), (.int (31 : Int32))]))
  have Vc3 := pr2
  obtain ⟨cl3, Ar3, q3, S3, Nn3, Hs3, Gs3⟩ := Vc3
  have hin4 : ¬ ((0 : Int32) < 0 ∨ cl3.slots.size ≤ ((0 : Int32)).toNatClampNeg) := inb_of S3 ⟨by decide, by decide⟩
  refine own_Goes.st ?_ (X2.iaload hx (j := (0 : Int32)) (v := (.int x0)) (by rw [e2]; exact Ar3.1) (State.isArrayOf_alike hZ.alike Ar3.2.1) Ar3.2.2 hin4 (Has.at Hs3 hin4 rfl) (g := (mkF m 21 #[.val (.ref a), .val (.int (1 : Int32)), .val (.int (0 : Int32))] [(.int (0 : Int32)), (.ref b), (.int (31 : Int32))])) rfl rfl (hb hby own_d_prog_40_method_11_21))
  show own_Goes p.tables e below P (T2.setTop (mkF m 22 #[.val (.ref a), .val (.int (1 : Int32)), .val (.int (0 : Int32))] [(.int x0), (.int (31 : Int32))]))
  refine own_Goes.st ?_ (fun _ k => XS.iadd X2.here hx rfl (hb hby own_d_prog_40_method_11_22) rfl k)
  show own_Goes p.tables e below P (T2.setTop (mkF m 23 #[.val (.ref a), .val (.int (1 : Int32)), .val (.int (0 : Int32))] [(.int ((31 : Int32) + x0))]))
  refine own_Goes.st ?_ (fun _ k => XS.istoreN X2.here hx rfl (hb hby own_d_prog_40_method_11_23) rfl (l' := #[.val (.ref a), .val (.int ((31 : Int32) + x0)), .val (.int (0 : Int32))]) rfl k)
  show own_Goes p.tables e below P (T2.setTop (mkF m 24 #[.val (.ref a), .val (.int ((31 : Int32) + x0)), .val (.int (0 : Int32))] []))
  refine own_Goes.st ?_ (fun _ k => XS.iinc X2.here hx rfl (hb hby own_d_prog_40_method_11_24) rfl (l' := #[.val (.ref a), .val (.int ((31 : Int32) + x0)), .val (.int (1 : Int32))]) rfl k)
  show own_Goes p.tables e below P (T2.setTop (mkF m 27 #[.val (.ref a), .val (.int ((31 : Int32) + x0)), .val (.int (1 : Int32))] []))
  refine own_Goes.st ?_ (fun _ k => XS.goto X2.here hx rfl (pc0 := 27) (pc' := 4) rfl (hb hby own_d_prog_40_method_11_27) (by decide) (by decide) k)
  show own_Goes p.tables e below P (T2.setTop (mkF m 4 #[.val (.ref a), .val (.int ((31 : Int32) + x0)), .val (.int (1 : Int32))] []))
  refine own_Goes.st ?_ (fun _ k => XS.iloadN X2.here hx rfl (hb hby own_d_prog_40_method_11_4) rfl k)
  show own_Goes p.tables e below P (T2.setTop (mkF m 5 #[.val (.ref a), .val (.int ((31 : Int32) + x0)), .val (.int (1 : Int32))] [(.int (1 : Int32))]))
  refine own_Goes.st ?_ (fun _ k => XS.aloadN X2.here hx rfl (hb hby own_d_prog_40_method_11_5) rfl rfl k)
  show own_Goes p.tables e below P (T2.setTop (mkF m 6 #[.val (.ref a), .val (.int ((31 : Int32) + x0)), .val (.int (1 : Int32))] [(.ref a), (.int (1 : Int32))]))
  obtain ⟨T5, X5, e5, st5⟩ := getF X2 hx hZ hown (host := "") (Or.inl (hw _ (List.mem_of_getElem? (i := 18) rfl))) Via.refl e2 pr1 (g := (mkF m 6 #[.val (.ref a), .val (.int ((31 : Int32) + x0)), .val (.int (1 : Int32))] [(.ref a), (.int (1 : Int32))])) rfl rfl (hb hby own_d_prog_40_method_11_6)
  refine own_Goes.st ?_ st5
  show own_Goes p.tables e below P (T5.setTop (mkF m 9 #[.val (.ref a), .val (.int ((31 : Int32) + x0)), .val (.int (1 : Int32))] [(.int (4 : Int32)), (.int (1 : Int32))]))
  refine own_Goes.st ?_ (fun _ k => XS.icmpNo X5.here hx rfl (hb hby own_d_prog_40_method_11_9) rfl (tlt (by decide : (1 : Int32) < (4 : Int32))).2.1 k)
  show own_Goes p.tables e below P (T5.setTop (mkF m 12 #[.val (.ref a), .val (.int ((31 : Int32) + x0)), .val (.int (1 : Int32))] []))
  refine own_Goes.st ?_ (fun _ k => XS.bipush X5.here hx rfl (hb hby own_d_prog_40_method_11_12) k)
  show own_Goes p.tables e below P (T5.setTop (mkF m 14 #[.val (.ref a), .val (.int ((31 : Int32) + x0)), .val (.int (1 : Int32))] [(.int (31 : Int32))]))
  refine own_Goes.st ?_ (fun _ k => XS.iloadN X5.here hx rfl (hb hby own_d_prog_40_method_11_14) rfl k)
  show own_Goes p.tables e below P (T5.setTop (mkF m 15 #[.val (.ref a), .val (.int ((31 : Int32) + x0)), .val (.int (1 : Int32))] [(.int ((31 : Int32) + x0)), (.int (31 : Int32))]))
  refine own_Goes.st ?_ (fun _ k => XS.imul X5.here hx rfl (hb hby own_d_prog_40_method_11_15) rfl k)
  show own_Goes p.tables e below P (T5.setTop (mkF m 16 #[.val (.ref a), .val (.int ((31 : Int32) + x0)), .val (.int (1 : Int32))] [(.int ((31 : Int32) * ((31 : Int32) + x0)))]))
  refine own_Goes.st ?_ (fun _ k => XS.aloadN X5.here hx rfl (hb hby own_d_prog_40_method_11_16) rfl rfl k)
  show own_Goes p.tables e below P (T5.setTop (mkF m 17 #[.val (.ref a), .val (.int ((31 : Int32) + x0)), .val (.int (1 : Int32))] [(.ref a), (.int ((31 : Int32) * ((31 : Int32) + x0)))]))
  obtain ⟨T6, X6, e6, st6⟩ := getF X5 hx hZ hown (host := "") (Or.inl (hw _ (List.mem_of_getElem? (i := 11) rfl))) Via.refl e5 pr0 (g := (mkF m 17 #[.val (.ref a), .val (.int ((31 : Int32) + x0)), .val (.int (1 : Int32))] [(.ref a), (.int ((31 : Int32) * ((31 : Int32) + x0)))])) rfl rfl (hb hby own_d_prog_40_method_11_17)
  refine own_Goes.st ?_ st6
  show own_Goes p.tables e below P (T6.setTop (mkF m 20 #[.val (.ref a), .val (.int ((31 : Int32) + x0)), .val (.int (1 : Int32))] [(.ref b), (.int ((31 : Int32) * ((31 : Int32) + x0)))]))
  refine own_Goes.st ?_ (fun _ k => XS.iloadN X6.here hx rfl (hb hby own_d_prog_40_method_11_20) rfl k)
  show own_Goes p.tables e below P (T6.setTop (mkF m 21 #[.val (.ref a), .val (.int ((31 : Int32) + x0)), .val (.int (1 : Int32))] [(.int (1 : Int32)), (.ref b), (.int ((31 : Int32) * ((31 : Int32) + x0)))]))
  have hin7 : ¬ ((1 : Int32) < 0 ∨ cl3.slots.size ≤ ((1 : Int32)).toNatClampNeg) := inb_of S3 ⟨by decide, by decide⟩
  refine own_Goes.st ?_ (X6.iaload hx (j := (1 : Int32)) (v := (.int x1)) (by rw [e6]; exact Ar3.1) (State.isArrayOf_alike hZ.alike Ar3.2.1) Ar3.2.2 hin7 (Has.at Hs3 hin7 rfl) (g := (mkF m 21 #[.val (.ref a), .val (.int ((31 : Int32) + x0)), .val (.int (1 : Int32))] [(.int (1 : Int32)), (.ref b), (.int ((31 : Int32) * ((31 : Int32) + x0)))])) rfl rfl (hb hby own_d_prog_40_method_11_21))
  show own_Goes p.tables e below P (T6.setTop (mkF m 22 #[.val (.ref a), .val (.int ((31 : Int32) + x0)), .val (.int (1 : Int32))] [(.int x1), (.int ((31 : Int32) * ((31 : Int32) + x0)))]))
  refine own_Goes.st ?_ (fun _ k => XS.iadd X6.here hx rfl (hb hby own_d_prog_40_method_11_22) rfl k)
  show own_Goes p.tables e below P (T6.setTop (mkF m 23 #[.val (.ref a), .val (.int ((31 : Int32) + x0)), .val (.int (1 : Int32))] [(.int (((31 : Int32) * ((31 : Int32) + x0)) + x1))]))
  refine own_Goes.st ?_ (fun _ k => XS.istoreN X6.here hx rfl (hb hby own_d_prog_40_method_11_23) rfl (l' := #[.val (.ref a), .val (.int (((31 : Int32) * ((31 : Int32) + x0)) + x1)), .val (.int (1 : Int32))]) rfl k)
  show own_Goes p.tables e below P (T6.setTop (mkF m 24 #[.val (.ref a), .val (.int (((31 : Int32) * ((31 : Int32) + x0)) + x1)), .val (.int (1 : Int32))] []))
  refine own_Goes.st ?_ (fun _ k => XS.iinc X6.here hx rfl (hb hby own_d_prog_40_method_11_24) rfl (l' := #[.val (.ref a), .val (.int (((31 : Int32) * ((31 : Int32) + x0)) + x1)), .val (.int (2 : Int32))]) rfl k)
  show own_Goes p.tables e below P (T6.setTop (mkF m 27 #[.val (.ref a), .val (.int (((31 : Int32) * ((31 : Int32) + x0)) + x1)), .val (.int (2 : Int32))] []))
  refine own_Goes.st ?_ (fun _ k => XS.goto X6.here hx rfl (pc0 := 27) (pc' := 4) rfl (hb hby own_d_prog_40_method_11_27) (by decide) (by decide) k)
  show own_Goes p.tables e below P (T6.setTop (mkF m 4 #[.val (.ref a), .val (.int (((31 : Int32) * ((31 : Int32) + x0)) + x1)), .val (.int (2 : Int32))] []))
  refine own_Goes.st ?_ (fun _ k => XS.iloadN X6.here hx rfl (hb hby own_d_prog_40_method_11_4) rfl k)
  show own_Goes p.tables e below P (T6.setTop (mkF m 5 #[.val (.ref a), .val (.int (((31 : Int32) * ((31 : Int32) + x0)) + x1)), .val (.int (2 : Int32))] [(.int (2 : Int32))]))
  refine own_Goes.st ?_ (fun _ k => XS.aloadN X6.here hx rfl (hb hby own_d_prog_40_method_11_5) rfl rfl k)
  show own_Goes p.tables e below P (T6.setTop (mkF m 6 #[.val (.ref a), .val (.int (((31 : Int32) * ((31 : Int32) + x0)) + x1)), .val (.int (2 : Int32))] [(.ref a), (.int (2 : Int32))]))
  obtain ⟨T8, X8, e8, st8⟩ := getF X6 hx hZ hown (host := "") (Or.inl (hw _ (List.mem_of_getElem? (i := 18) rfl))) Via.refl e6 pr1 (g := (mkF m 6 #[.val (.ref a), .val (.int (((31 : Int32) * ((31 : Int32) + x0)) + x1)), .val (.int (2 : Int32))] [(.ref a), (.int (2 : Int32))])) rfl rfl (hb hby own_d_prog_40_method_11_6)
  refine own_Goes.st ?_ st8
  show own_Goes p.tables e below P (T8.setTop (mkF m 9 #[.val (.ref a), .val (.int (((31 : Int32) * ((31 : Int32) + x0)) + x1)), .val (.int (2 : Int32))] [(.int (4 : Int32)), (.int (2 : Int32))]))
  refine own_Goes.st ?_ (fun _ k => XS.icmpNo X8.here hx rfl (hb hby own_d_prog_40_method_11_9) rfl (tlt (by decide : (2 : Int32) < (4 : Int32))).2.1 k)
  show own_Goes p.tables e below P (T8.setTop (mkF m 12 #[.val (.ref a), .val (.int (((31 : Int32) * ((31 : Int32) + x0)) + x1)), .val (.int (2 : Int32))] []))
  refine own_Goes.st ?_ (fun _ k => XS.bipush X8.here hx rfl (hb hby own_d_prog_40_method_11_12) k)
  show own_Goes p.tables e below P (T8.setTop (mkF m 14 #[.val (.ref a), .val (.int (((31 : Int32) * ((31 : Int32) + x0)) + x1)), .val (.int (2 : Int32))] [(.int (31 : Int32))]))
  refine own_Goes.st ?_ (fun _ k => XS.iloadN X8.here hx rfl (hb hby own_d_prog_40_method_11_14) rfl k)
  show own_Goes p.tables e below P (T8.setTop (mkF m 15 #[.val (.ref a), .val (.int (((31 : Int32) * ((31 : Int32) + x0)) + x1)), .val (.int (2 : Int32))] [(.int (((31 : Int32) * ((31 : Int32) + x0)) + x1)), (.int (31 : Int32))]))
  refine own_Goes.st ?_ (fun _ k => XS.imul X8.here hx rfl (hb hby own_d_prog_40_method_11_15) rfl k)
  show own_Goes p.tables e below P (T8.setTop (mkF m 16 #[.val (.ref a), .val (.int (((31 : Int32) * ((31 : Int32) + x0)) + x1)), .val (.int (2 : Int32))] [(.int ((31 : Int32) * (((31 : Int32) * ((31 : Int32) + x0)) + x1)))]))
  refine own_Goes.st ?_ (fun _ k => XS.aloadN X8.here hx rfl (hb hby own_d_prog_40_method_11_16) rfl rfl k)
  show own_Goes p.tables e below P (T8.setTop (mkF m 17 #[.val (.ref a), .val (.int (((31 : Int32) * ((31 : Int32) + x0)) + x1)), .val (.int (2 : Int32))] [(.ref a), (.int ((31 : Int32) * (((31 : Int32) * ((31 : Int32) + x0)) + x1)))]))
  obtain ⟨T9, X9, e9, st9⟩ := getF X8 hx hZ hown (host := "") (Or.inl (hw _ (List.mem_of_getElem? (i := 11) rfl))) Via.refl e8 pr0 (g := (mkF m 17 #[.val (.ref a), .val (.int (((31 : Int32) * ((31 : Int32) + x0)) + x1)), .val (.int (2 : Int32))] [(.ref a), (.int ((31 : Int32) * (((31 : Int32) * ((31 : Int32) + x0)) + x1)))])) rfl rfl (hb hby own_d_prog_40_method_11_17)
  refine own_Goes.st ?_ st9
  show own_Goes p.tables e below P (T9.setTop (mkF m 20 #[.val (.ref a), .val (.int (((31 : Int32) * ((31 : Int32) + x0)) + x1)), .val (.int (2 : Int32))] [(.ref b), (.int ((31 : Int32) * (((31 : Int32) * ((31 : Int32) + x0)) + x1)))]))
  refine own_Goes.st ?_ (fun _ k => XS.iloadN X9.here hx rfl (hb hby own_d_prog_40_method_11_20) rfl k)
  show own_Goes p.tables e below P (T9.setTop (mkF m 21 #[.val (.ref a), .val (.int (((31 : Int32) * ((31 : Int32) + x0)) + x1)), .val (.int (2 : Int32))] [(.int (2 : Int32)), (.ref b), (.int ((31 : Int32) * (((31 : Int32) * ((31 : Int32) + x0)) + x1)))]))
  have hin10 : ¬ ((2 : Int32) < 0 ∨ cl3.slots.size ≤ ((2 : Int32)).toNatClampNeg) := inb_of S3 ⟨by decide, by decide⟩
  refine own_Goes.st ?_ (X9.iaload hx (j := (2 : Int32)) (v := (.int x2)) (by rw [e9]; exact Ar3.1) (State.isArrayOf_alike hZ.alike Ar3.2.1) Ar3.2.2 hin10 (Has.at Hs3 hin10 rfl) (g := (mkF m 21 #[.val (.ref a), .val (.int (((31 : Int32) * ((31 : Int32) + x0)) + x1)), .val (.int (2 : Int32))] [(.int (2 : Int32)), (.ref b), (.int ((31 : Int32) * (((31 : Int32) * ((31 : Int32) + x0)) + x1)))])) rfl rfl (hb hby own_d_prog_40_method_11_21))
  show own_Goes p.tables e below P (T9.setTop (mkF m 22 #[.val (.ref a), .val (.int (((31 : Int32) * ((31 : Int32) + x0)) + x1)), .val (.int (2 : Int32))] [(.int x2), (.int ((31 : Int32) * (((31 : Int32) * ((31 : Int32) + x0)) + x1)))]))
  refine own_Goes.st ?_ (fun _ k => XS.iadd X9.here hx rfl (hb hby own_d_prog_40_method_11_22) rfl k)
  show own_Goes p.tables e below P (T9.setTop (mkF m 23 #[.val (.ref a), .val (.int (((31 : Int32) * ((31 : Int32) + x0)) + x1)), .val (.int (2 : Int32))] [(.int (((31 : Int32) * (((31 : Int32) * ((31 : Int32) + x0)) + x1)) + x2))]))
  refine own_Goes.st ?_ (fun _ k => XS.istoreN X9.here hx rfl (hb hby own_d_prog_40_method_11_23) rfl (l' := #[.val (.ref a), .val (.int (((31 : Int32) * (((31 : Int32) * ((31 : Int32) + x0)) + x1)) + x2)), .val (.int (2 : Int32))]) rfl k)
  show own_Goes p.tables e below P (T9.setTop (mkF m 24 #[.val (.ref a), .val (.int (((31 : Int32) * (((31 : Int32) * ((31 : Int32) + x0)) + x1)) + x2)), .val (.int (2 : Int32))] []))
  refine own_Goes.st ?_ (fun _ k => XS.iinc X9.here hx rfl (hb hby own_d_prog_40_method_11_24) rfl (l' := #[.val (.ref a), .val (.int (((31 : Int32) * (((31 : Int32) * ((31 : Int32) + x0)) + x1)) + x2)), .val (.int (3 : Int32))]) rfl k)
  show own_Goes p.tables e below P (T9.setTop (mkF m 27 #[.val (.ref a), .val (.int (((31 : Int32) * (((31 : Int32) * ((31 : Int32) + x0)) + x1)) + x2)), .val (.int (3 : Int32))] []))
  refine own_Goes.st ?_ (fun _ k => XS.goto X9.here hx rfl (pc0 := 27) (pc' := 4) rfl (hb hby own_d_prog_40_method_11_27) (by decide) (by decide) k)
  show own_Goes p.tables e below P (T9.setTop (mkF m 4 #[.val (.ref a), .val (.int (((31 : Int32) * (((31 : Int32) * ((31 : Int32) + x0)) + x1)) + x2)), .val (.int (3 : Int32))] []))
  refine own_Goes.st ?_ (fun _ k => XS.iloadN X9.here hx rfl (hb hby own_d_prog_40_method_11_4) rfl k)
  show own_Goes p.tables e below P (T9.setTop (mkF m 5 #[.val (.ref a), .val (.int (((31 : Int32) * (((31 : Int32) * ((31 : Int32) + x0)) + x1)) + x2)), .val (.int (3 : Int32))] [(.int (3 : Int32))]))
  refine own_Goes.st ?_ (fun _ k => XS.aloadN X9.here hx rfl (hb hby own_d_prog_40_method_11_5) rfl rfl k)
  show own_Goes p.tables e below P (T9.setTop (mkF m 6 #[.val (.ref a), .val (.int (((31 : Int32) * (((31 : Int32) * ((31 : Int32) + x0)) + x1)) + x2)), .val (.int (3 : Int32))] [(.ref a), (.int (3 : Int32))]))
  obtain ⟨T11, X11, e11, st11⟩ := getF X9 hx hZ hown (host := "") (Or.inl (hw _ (List.mem_of_getElem? (i := 18) rfl))) Via.refl e9 pr1 (g := (mkF m 6 #[.val (.ref a), .val (.int (((31 : Int32) * (((31 : Int32) * ((31 : Int32) + x0)) + x1)) + x2)), .val (.int (3 : Int32))] [(.ref a), (.int (3 : Int32))])) rfl rfl (hb hby own_d_prog_40_method_11_6)
  refine own_Goes.st ?_ st11
  show own_Goes p.tables e below P (T11.setTop (mkF m 9 #[.val (.ref a), .val (.int (((31 : Int32) * (((31 : Int32) * ((31 : Int32) + x0)) + x1)) + x2)), .val (.int (3 : Int32))] [(.int (4 : Int32)), (.int (3 : Int32))]))
  refine own_Goes.st ?_ (fun _ k => XS.icmpNo X11.here hx rfl (hb hby own_d_prog_40_method_11_9) rfl (tlt (by decide : (3 : Int32) < (4 : Int32))).2.1 k)
  show own_Goes p.tables e below P (T11.setTop (mkF m 12 #[.val (.ref a), .val (.int (((31 : Int32) * (((31 : Int32) * ((31 : Int32) + x0)) + x1)) + x2)), .val (.int (3 : Int32))] []))
  refine own_Goes.st ?_ (fun _ k => XS.bipush X11.here hx rfl (hb hby own_d_prog_40_method_11_12) k)
  show own_Goes p.tables e below P (T11.setTop (mkF m 14 #[.val (.ref a), .val (.int (((31 : Int32) * (((31 : Int32) * ((31 : Int32) + x0)) + x1)) + x2)), .val (.int (3 : Int32))] [(.int (31 : Int32))]))
  refine own_Goes.st ?_ (fun _ k => XS.iloadN X11.here hx rfl (hb hby own_d_prog_40_method_11_14) rfl k)
  show own_Goes p.tables e below P (T11.setTop (mkF m 15 #[.val (.ref a), .val (.int (((31 : Int32) * (((31 : Int32) * ((31 : Int32) + x0)) + x1)) + x2)), .val (.int (3 : Int32))] [(.int (((31 : Int32) * (((31 : Int32) * ((31 : Int32) + x0)) + x1)) + x2)), (.int (31 : Int32))]))
  refine own_Goes.st ?_ (fun _ k => XS.imul X11.here hx rfl (hb hby own_d_prog_40_method_11_15) rfl k)
  show own_Goes p.tables e below P (T11.setTop (mkF m 16 #[.val (.ref a), .val (.int (((31 : Int32) * (((31 : Int32) * ((31 : Int32) + x0)) + x1)) + x2)), .val (.int (3 : Int32))] [(.int ((31 : Int32) * (((31 : Int32) * (((31 : Int32) * ((31 : Int32) + x0)) + x1)) + x2)))]))
  refine own_Goes.st ?_ (fun _ k => XS.aloadN X11.here hx rfl (hb hby own_d_prog_40_method_11_16) rfl rfl k)
  show own_Goes p.tables e below P (T11.setTop (mkF m 17 #[.val (.ref a), .val (.int (((31 : Int32) * (((31 : Int32) * ((31 : Int32) + x0)) + x1)) + x2)), .val (.int (3 : Int32))] [(.ref a), (.int ((31 : Int32) * (((31 : Int32) * (((31 : Int32) * ((31 : Int32) + x0)) + x1)) + x2)))]))
  obtain ⟨T12, X12, e12, st12⟩ := getF X11 hx hZ hown (host := "") (Or.inl (hw _ (List.mem_of_getElem? (i := 11) rfl))) Via.refl e11 pr0 (g := (mkF m 17 #[.val (.ref a), .val (.int (((31 : Int32) * (((31 : Int32) * ((31 : Int32) + x0)) + x1)) + x2)), .val (.int (3 : Int32))] [(.ref a), (.int ((31 : Int32) * (((31 : Int32) * (((31 : Int32) * ((31 : Int32) + x0)) + x1)) + x2)))])) rfl rfl (hb hby own_d_prog_40_method_11_17)
  refine own_Goes.st ?_ st12
  show own_Goes p.tables e below P (T12.setTop (mkF m 20 #[.val (.ref a), .val (.int (((31 : Int32) * (((31 : Int32) * ((31 : Int32) + x0)) + x1)) + x2)), .val (.int (3 : Int32))] [(.ref b), (.int ((31 : Int32) * (((31 : Int32) * (((31 : Int32) * ((31 : Int32) + x0)) + x1)) + x2)))]))
  refine own_Goes.st ?_ (fun _ k => XS.iloadN X12.here hx rfl (hb hby own_d_prog_40_method_11_20) rfl k)
  show own_Goes p.tables e below P (T12.setTop (mkF m 21 #[.val (.ref a), .val (.int (((31 : Int32) * (((31 : Int32) * ((31 : Int32) + x0)) + x1)) + x2)), .val (.int (3 : Int32))] [(.int (3 : Int32)), (.ref b), (.int ((31 : Int32) * (((31 : Int32) * (((31 : Int32) * ((31 : Int32) + x0)) + x1)) + x2)))]))
  have hin13 : ¬ ((3 : Int32) < 0 ∨ cl3.slots.size ≤ ((3 : Int32)).toNatClampNeg) := inb_of S3 ⟨by decide, by decide⟩
  refine own_Goes.st ?_ (X12.iaload hx (j := (3 : Int32)) (v := (.int x3)) (by rw [e12]; exact Ar3.1) (State.isArrayOf_alike hZ.alike Ar3.2.1) Ar3.2.2 hin13 (Has.at Hs3 hin13 rfl) (g := (mkF m 21 #[.val (.ref a), .val (.int (((31 : Int32) * (((31 : Int32) * ((31 : Int32) + x0)) + x1)) + x2)), .val (.int (3 : Int32))] [(.int (3 : Int32)), (.ref b), (.int ((31 : Int32) * (((31 : Int32) * (((31 : Int32) * ((31 : Int32) + x0)) + x1)) + x2)))])) rfl rfl (hb hby own_d_prog_40_method_11_21))
  show own_Goes p.tables e below P (T12.setTop (mkF m 22 #[.val (.ref a), .val (.int (((31 : Int32) * (((31 : Int32) * ((31 : Int32) + x0)) + x1)) + x2)), .val (.int (3 : Int32))] [(.int x3), (.int ((31 : Int32) * (((31 : Int32) * (((31 : Int32) * ((31 : Int32) + x0)) + x1)) + x2)))]))
  refine own_Goes.st ?_ (fun _ k => XS.iadd X12.here hx rfl (hb hby own_d_prog_40_method_11_22) rfl k)
  show own_Goes p.tables e below P (T12.setTop (mkF m 23 #[.val (.ref a), .val (.int (((31 : Int32) * (((31 : Int32) * ((31 : Int32) + x0)) + x1)) + x2)), .val (.int (3 : Int32))] [(.int (((31 : Int32) * (((31 : Int32) * (((31 : Int32) * ((31 : Int32) + x0)) + x1)) + x2)) + x3))]))
  refine own_Goes.st ?_ (fun _ k => XS.istoreN X12.here hx rfl (hb hby own_d_prog_40_method_11_23) rfl (l' := #[.val (.ref a), .val (.int (((31 : Int32) * (((31 : Int32) * (((31 : Int32) * ((31 : Int32) + x0)) + x1)) + x2)) + x3)), .val (.int (3 : Int32))]) rfl k)
  show own_Goes p.tables e below P (T12.setTop (mkF m 24 #[.val (.ref a), .val (.int (((31 : Int32) * (((31 : Int32) * (((31 : Int32) * ((31 : Int32) + x0)) + x1)) + x2)) + x3)), .val (.int (3 : Int32))] []))
  refine own_Goes.st ?_ (fun _ k => XS.iinc X12.here hx rfl (hb hby own_d_prog_40_method_11_24) rfl (l' := #[.val (.ref a), .val (.int (((31 : Int32) * (((31 : Int32) * (((31 : Int32) * ((31 : Int32) + x0)) + x1)) + x2)) + x3)), .val (.int (4 : Int32))]) rfl k)
  show own_Goes p.tables e below P (T12.setTop (mkF m 27 #[.val (.ref a), .val (.int (((31 : Int32) * (((31 : Int32) * (((31 : Int32) * ((31 : Int32) + x0)) + x1)) + x2)) + x3)), .val (.int (4 : Int32))] []))
  refine own_Goes.st ?_ (fun _ k => XS.goto X12.here hx rfl (pc0 := 27) (pc' := 4) rfl (hb hby own_d_prog_40_method_11_27) (by decide) (by decide) k)
  show own_Goes p.tables e below P (T12.setTop (mkF m 4 #[.val (.ref a), .val (.int (((31 : Int32) * (((31 : Int32) * (((31 : Int32) * ((31 : Int32) + x0)) + x1)) + x2)) + x3)), .val (.int (4 : Int32))] []))
  refine own_Goes.st ?_ (fun _ k => XS.iloadN X12.here hx rfl (hb hby own_d_prog_40_method_11_4) rfl k)
  show own_Goes p.tables e below P (T12.setTop (mkF m 5 #[.val (.ref a), .val (.int (((31 : Int32) * (((31 : Int32) * (((31 : Int32) * ((31 : Int32) + x0)) + x1)) + x2)) + x3)), .val (.int (4 : Int32))] [(.int (4 : Int32))]))
  refine own_Goes.st ?_ (fun _ k => XS.aloadN X12.here hx rfl (hb hby own_d_prog_40_method_11_5) rfl rfl k)
  show own_Goes p.tables e below P (T12.setTop (mkF m 6 #[.val (.ref a), .val (.int (((31 : Int32) * (((31 : Int32) * (((31 : Int32) * ((31 : Int32) + x0)) + x1)) + x2)) + x3)), .val (.int (4 : Int32))] [(.ref a), (.int (4 : Int32))]))
  obtain ⟨T14, X14, e14, st14⟩ := getF X12 hx hZ hown (host := "") (Or.inl (hw _ (List.mem_of_getElem? (i := 18) rfl))) Via.refl e12 pr1 (g := (mkF m 6 #[.val (.ref a), .val (.int (((31 : Int32) * (((31 : Int32) * (((31 : Int32) * ((31 : Int32) + x0)) + x1)) + x2)) + x3)), .val (.int (4 : Int32))] [(.ref a), (.int (4 : Int32))])) rfl rfl (hb hby own_d_prog_40_method_11_6)
  refine own_Goes.st ?_ st14
  show own_Goes p.tables e below P (T14.setTop (mkF m 9 #[.val (.ref a), .val (.int (((31 : Int32) * (((31 : Int32) * (((31 : Int32) * ((31 : Int32) + x0)) + x1)) + x2)) + x3)), .val (.int (4 : Int32))] [(.int (4 : Int32)), (.int (4 : Int32))]))
  refine own_Goes.st ?_ (fun _ k => XS.icmpYes X14.here hx rfl (pc0 := 9) (pc' := 30) rfl (hb hby own_d_prog_40_method_11_9) rfl (flt (by decide : ¬ ((4 : Int32) < (4 : Int32)))).2.1 (by decide) (by decide) k)
  show own_Goes p.tables e below P (T14.setTop (mkF m 30 #[.val (.ref a), .val (.int (((31 : Int32) * (((31 : Int32) * (((31 : Int32) * ((31 : Int32) + x0)) + x1)) + x2)) + x3)), .val (.int (4 : Int32))] []))
  refine own_Goes.st ?_ (fun _ k => XS.iloadN X14.here hx rfl (hb hby own_d_prog_40_method_11_30) rfl k)
  show own_Goes p.tables e below P (T14.setTop (mkF m 31 #[.val (.ref a), .val (.int (((31 : Int32) * (((31 : Int32) * (((31 : Int32) * ((31 : Int32) + x0)) + x1)) + x2)) + x3)), .val (.int (4 : Int32))] [(.int (((31 : Int32) * (((31 : Int32) * (((31 : Int32) * ((31 : Int32) + x0)) + x1)) + x2)) + x3))]))
  obtain ⟨fs, hr, hrun, hended, hW, hsame⟩ := X14.leave (v := some (.int (((31 : Int32) * (((31 : Int32) * (((31 : Int32) * ((31 : Int32) + x0)) + x1)) + x2)) + x3))) (fun h => by rw [Bd.returns] at h; cases h)
  exact own_Goes.fin _ _ (retOut X14 hx (t := .int) Bd.returns rfl (Or.inl ⟨rfl, Or.inl rfl, _, rfl⟩) (hb hby own_d_prog_40_method_11_31) hr) (hPP _ _ ⟨hrun, hended, _, _, rfl, (by show Q_hash_4 Z a b k x0 x1 x2 x3 h0 n0 _ T14.heap _; rw [e14]; exact ⟨rfl, N0, rfl⟩), ⟨_, rfl⟩, hW, hsame.mono (by decide) (by decide)⟩)
theorem own_ef_law (m : MethodId) (x0 : Int32) (x1 : Int32) (x2 : Int32) (x3 : Int32) (x4 : Int32) : entryFrame m #[(.int x0), (.int x1), (.int x2), (.int x3), (.int x4)] maxLocals = mkF m 0 #[.val (.int x0), .val (.int x1), .val (.int x2), .val (.int x3), .val (.int x4), .unset, .unset, .unset] [] := by first | (simp [entryFrame, mkF, argsToLocals, Value.category, maxLocals]; done) | rfl
theorem own_pn_com_example_taxodelta_taxodelta_taxonomy_IntListHashCodePinLaw : plainName "com/example/taxodelta/taxodelta/taxonomy/IntListHashCodePinLaw" = true := by first | (simp [plainName, overriddenIn]; done) | decide +kernel
theorem own_pd__28__29_V : parseMethodDescriptor "()V" = some ⟨[], none⟩ := by decide +kernel
theorem own_pd__28__29_I : parseMethodDescriptor "()I" = some ⟨[], some .int⟩ := by decide +kernel
theorem own_pd__28_I_29_V : parseMethodDescriptor "(I)V" = some ⟨[.int], none⟩ := by decide +kernel
def Q_law (n0 : Nat) (v : Option Value) (L : List Loc) : Prop := v = some (.int 1) ∧ Fr n0 L
set_option maxRecDepth 65536 in
set_option maxHeartbeats 40000000 in
theorem rm_law (l : Launch) (Z : State) (a0 : Array Value) (hw : ∀ d ∈ tables_1, d.before a0 Z = true) (ws : List Jvm.Cond) (p0 : Int32) (p1 : Int32) (p2 : Int32) (p3 : Int32) (p4 : Int32) (h0 : Heap) (n0 : Nat) (Z0 : n0 ≤ h0.size) :
    MetFree l x (head1 (Jvm.Cond.code x code maxLocals ret :: ws) room_1) (fun as_ U => as_ = #[(.int p0), (.int p1), (.int p2), (.int p3), (.int p4)] ∧ Z.Warmed39 U.vm ∧ U.heap = h0) (fun _ _ _ _ _ => True) (fun _ U o U' => ∃ v L, o = .returned v ∧ Q_law n0 v L ∧ FrameEnd U o U' L 16 128) := by
  refine MetFree.of_bodySF (plainFor_of_name own_pn_com_example_taxodelta_taxodelta_taxonomy_IntListHashCodePinLaw) hisR ?_
  intro p e s m args below meth c s₁ Bd hml0 hP hK
  obtain ⟨rfl, hZ, hh⟩ := hP
  have hx := Bd.exec
  have hby := Bd.bytes
  have hml : c.maxLocals = 8 := hml0
  have hown : s.vm.findClass "com/example/taxodelta/taxodelta/taxonomy/IntListHashCodePinLaw" = some m.cls := findClass_of_methodNamed Bd.named
  have hnm := (name_of_methodNamed Bd.named Bd.method).1
  have X0 : Stand p l e room_1 s m #[(.int p0), (.int p1), (.int p2), (.int p3), (.int p4)] below meth c s₁ [] 0 0 := Stand.of_body Bd
  have e0 : s₁.heap = h0 := by rw [← hh, Bd.state]; rfl
  have N0 := Fr.nil n0
  refine own_Goes.of ?_
  refine own_Goes.nm (fun P hPP => ?_)
  refine own_Goes.st ?_ (fun _ k => castTop (own_ef_law m p0 p1 p2 p3 p4) k)
  show own_Goes p.tables e below P (s₁.setTop (mkF m 0 #[.val (.int p0), .val (.int p1), .val (.int p2), .val (.int p3), .val (.int p4), .unset, .unset, .unset] []))
  refine own_Goes.st ?_ (fun _ k => XS.iloadN X0.here hx rfl (hb hby at_0) rfl k)
  show own_Goes p.tables e below P (s₁.setTop (mkF m 1 #[.val (.int p0), .val (.int p1), .val (.int p2), .val (.int p3), .val (.int p4), .unset, .unset, .unset] [(.int p0)]))
  refine own_Goes.st ?_ (X0.ldcInt hx hown (mvT hZ (hw _ (List.mem_of_getElem? (i := 0) rfl))) (g := (mkF m 1 #[.val (.int p0), .val (.int p1), .val (.int p2), .val (.int p3), .val (.int p4), .unset, .unset, .unset] [(.int p0)])) rfl (hb hby at_1))
  show own_Goes p.tables e below P (s₁.setTop (mkF m 3 #[.val (.int p0), .val (.int p1), .val (.int p2), .val (.int p3), .val (.int p4), .unset, .unset, .unset] [(.int (2147483647 : Int32)), (.int p0)]))
  refine own_Goes.st ?_ (fun _ k => XS.iand X0.here hx rfl (hb hby at_3) rfl k)
  show own_Goes p.tables e below P (s₁.setTop (mkF m 4 #[.val (.int p0), .val (.int p1), .val (.int p2), .val (.int p3), .val (.int p4), .unset, .unset, .unset] [(.int (p0 &&& (2147483647 : Int32)))]))
  refine own_Goes.st ?_ (fun _ k => XS.iconst X0.here hx rfl (hb hby at_4) k)
  show own_Goes p.tables e below P (s₁.setTop (mkF m 5 #[.val (.int p0), .val (.int p1), .val (.int p2), .val (.int p3), .val (.int p4), .unset, .unset, .unset] [(.int (5 : Int32)), (.int (p0 &&& (2147483647 : Int32)))]))
  refine own_Goes.st ?_ (fun _ k => iremM X0 hx rfl (hb hby at_5) rfl (by decide) k)
  show own_Goes p.tables e below P (s₁.setTop (mkF m 6 #[.val (.int p0), .val (.int p1), .val (.int p2), .val (.int p3), .val (.int p4), .unset, .unset, .unset] [(.int ((p0 &&& (2147483647 : Int32)) % (5 : Int32)))]))
  refine own_Goes.st ?_ (fun _ k => XS.istore X0.here hx rfl (hb hby at_6) rfl (l' := #[.val (.int p0), .val (.int p1), .val (.int p2), .val (.int p3), .val (.int p4), .val (.int ((p0 &&& (2147483647 : Int32)) % (5 : Int32))), .unset, .unset]) rfl k)
  show own_Goes p.tables e below P (s₁.setTop (mkF m 8 #[.val (.int p0), .val (.int p1), .val (.int p2), .val (.int p3), .val (.int p4), .val (.int ((p0 &&& (2147483647 : Int32)) % (5 : Int32))), .unset, .unset] []))
  generalize hkk : ((p0 &&& (2147483647 : Int32)) % (5 : Int32)) = kk
  show own_Goes p.tables e below P (s₁.setTop (mkF m 8 #[.val (.int p0), .val (.int p1), .val (.int p2), .val (.int p3), .val (.int p4), .val (.int kk), .unset, .unset] []))
  rcases own_k _ _ hkk with rfl | rfl | rfl | rfl | rfl
  · skip
    show own_Goes p.tables e below P (s₁.setTop (mkF m 8 #[.val (.int p0), .val (.int p1), .val (.int p2), .val (.int p3), .val (.int p4), .val (.int (0 : Int32)), .unset, .unset] []))
    obtain ⟨T1, h1, X1, e1, E1, A1, D1, -, st1⟩ := newO X0 hx hZ hown (hw _ (List.mem_of_getElem? (i := 1) rfl)) (hw _ (List.mem_of_getElem? (i := 2) rfl)) (hw _ (List.mem_of_getElem? (i := 3) rfl)) e0 (g := (mkF m 8 #[.val (.int p0), .val (.int p1), .val (.int p2), .val (.int p3), .val (.int p4), .val (.int (0 : Int32)), .unset, .unset] [])) rfl (hb hby at_8) (by decide) (by decide)
    obtain ⟨a1, g1⟩ : ∃ z, z = h0.size := ⟨_, rfl⟩
    rw [← g1] at A1 D1 st1
    have ge_a1 : n0 ≤ a1 := Nat.le_trans Z0 (Nat.le_of_eq g1.symm)
    refine own_Goes.st ?_ st1
    have Z2 : n0 ≤ h1.size := Nat.le_trans Z0 E1.1
    have F3 : Fld Z h1 a1 "com/example/taxodelta/taxodelta/taxonomy/IntList" "values" "[I" .null := D1 (Or.inl (hw _ (List.mem_of_getElem? (i := 12) rfl))) (ty := (.array .int)) (by decide)
    have F4 : Fld Z h1 a1 "com/example/taxodelta/taxodelta/taxonomy/IntList" "size" "I" (.int (0 : Int32)) := D1 (Or.inl (hw _ (List.mem_of_getElem? (i := 19) rfl))) (ty := .int) (by decide)
    show own_Goes p.tables e below P (T1.setTop (mkF m 11 #[.val (.int p0), .val (.int p1), .val (.int p2), .val (.int p3), .val (.int p4), .val (.int (0 : Int32)), .unset, .unset] [(.ref a1)]))
    refine own_Goes.st ?_ (fun _ k => XS.dup X1.here hx rfl (hb hby at_11) rfl rfl k)
    show own_Goes p.tables e below P (T1.setTop (mkF m 12 #[.val (.int p0), .val (.int p1), .val (.int p2), .val (.int p3), .val (.int p4), .val (.int (0 : Int32)), .unset, .unset] [(.ref a1), (.ref a1)]))
    obtain ⟨_, _, ⟨T5, L5, k5, n5⟩, -, X5, ⟨Lc5, hQ5, l5, y5, z5⟩, st5⟩ := X1.specialBack hx (y := (⟨"com/example/taxodelta/taxodelta/taxonomy/IntList", "<init>", "()V"⟩ : MethodName)) rfl hown (mvT hZ (hw _ (List.mem_of_getElem? (i := 4) rfl))) (mvT hZ (hw _ (List.mem_of_getElem? (i := 5) rfl))) (mvT hZ (hw _ (List.mem_of_getElem? (i := 6) rfl))) (by decide) (backOf (W := 1) (rm_ctor l Z a0 hw [] a1 .null h1 n0 Z2 A1 F3 F4 ge_a1) hZ (hw _ (List.mem_of_getElem? (i := 6) rfl)) (hw _ (List.mem_of_getElem? (i := 3) rfl)) (by decide) (by decide)) (g := (mkF m 12 #[.val (.int p0), .val (.int p1), .val (.int p2), .val (.int p3), .val (.int p4), .val (.int (0 : Int32)), .unset, .unset] [(.ref a1), (.ref a1)])) rfl (by rw [hml]; rfl) (Steps.refl _) (a := a1) (argsL := []) (rest := [(.ref a1)]) (lenOf own_pd__28__29_V rfl) rfl (by show 2 * 0 + _ ≤ _; exact Nat.le_of_eq rfl) (hb hby at_12) (fun _ _ => ⟨rfl, e1, (by decide : 1 + 1 ≤ _), (by decide : 2 + 2 ≤ _)⟩)
    dsimp only [Pt.U, Pt.locs, Pt.cells, Pt.slots] at X5 l5 y5 z5 st5 hQ5
    subst l5 y5 z5
    obtain ⟨b5, k5, rfl, Nq5, K5, f6, f7, f8, f9, f10, f11⟩ := hQ5
    have N5 := Fr.app N0 Nq5
    refine own_Goes.tr st5 ?_
    have ne12 : a1 ≠ b5 := Nat.ne_of_lt (Nat.lt_of_lt_of_le A1.lt f9)
    have ge_b5 : n0 ≤ b5 := Nat.le_trans Z2 f9
    have Z13 : n0 ≤ T5.heap.size := Nat.le_trans Z2 K5.1
    show own_Goes p.tables e below P (T5.setTop (mkF m 15 #[.val (.int p0), .val (.int p1), .val (.int p2), .val (.int p3), .val (.int p4), .val (.int (0 : Int32)), .unset, .unset] [(.ref a1)]))
    refine own_Goes.st ?_ (fun _ k => XS.astore X5.here hx rfl (hb hby at_15) rfl rfl (l' := #[.val (.int p0), .val (.int p1), .val (.int p2), .val (.int p3), .val (.int p4), .val (.int (0 : Int32)), .val (.ref a1), .unset]) rfl k)
    show own_Goes p.tables e below P (T5.setTop (mkF m 17 #[.val (.int p0), .val (.int p1), .val (.int p2), .val (.int p3), .val (.int p4), .val (.int (0 : Int32)), .val (.ref a1), .unset] []))
    refine own_Goes.st ?_ (fun _ k => XS.iload X5.here hx rfl (hb hby at_17) rfl k)
    show own_Goes p.tables e below P (T5.setTop (mkF m 19 #[.val (.int p0), .val (.int p1), .val (.int p2), .val (.int p3), .val (.int p4), .val (.int (0 : Int32)), .val (.ref a1), .unset] [(.int (0 : Int32))]))
    refine own_Goes.st ?_ (fun _ k => XS.iconst X5.here hx rfl (hb hby at_19) k)
    show own_Goes p.tables e below P (T5.setTop (mkF m 20 #[.val (.int p0), .val (.int p1), .val (.int p2), .val (.int p3), .val (.int p4), .val (.int (0 : Int32)), .val (.ref a1), .unset] [(.int (1 : Int32)), (.int (0 : Int32))]))
    refine own_Goes.st ?_ (fun _ k => XS.icmpYes X5.here hx rfl (pc0 := 20) (pc' := 29) rfl (hb hby at_20) rfl (tlt (by decide : (0 : Int32) < (1 : Int32))).1 (by decide) (by decide) k)
    show own_Goes p.tables e below P (T5.setTop (mkF m 29 #[.val (.int p0), .val (.int p1), .val (.int p2), .val (.int p3), .val (.int p4), .val (.int (0 : Int32)), .val (.ref a1), .unset] []))
    refine own_Goes.st ?_ (fun _ k => XS.iload X5.here hx rfl (hb hby at_29) rfl k)
    show own_Goes p.tables e below P (T5.setTop (mkF m 31 #[.val (.int p0), .val (.int p1), .val (.int p2), .val (.int p3), .val (.int p4), .val (.int (0 : Int32)), .val (.ref a1), .unset] [(.int (0 : Int32))]))
    refine own_Goes.st ?_ (fun _ k => XS.iconst X5.here hx rfl (hb hby at_31) k)
    show own_Goes p.tables e below P (T5.setTop (mkF m 32 #[.val (.int p0), .val (.int p1), .val (.int p2), .val (.int p3), .val (.int p4), .val (.int (0 : Int32)), .val (.ref a1), .unset] [(.int (2 : Int32)), (.int (0 : Int32))]))
    refine own_Goes.st ?_ (fun _ k => XS.icmpYes X5.here hx rfl (pc0 := 32) (pc' := 41) rfl (hb hby at_32) rfl (tlt (by decide : (0 : Int32) < (2 : Int32))).1 (by decide) (by decide) k)
    show own_Goes p.tables e below P (T5.setTop (mkF m 41 #[.val (.int p0), .val (.int p1), .val (.int p2), .val (.int p3), .val (.int p4), .val (.int (0 : Int32)), .val (.ref a1), .unset] []))
    refine own_Goes.st ?_ (fun _ k => XS.iload X5.here hx rfl (hb hby at_41) rfl k)
    show own_Goes p.tables e below P (T5.setTop (mkF m 43 #[.val (.int p0), .val (.int p1), .val (.int p2), .val (.int p3), .val (.int p4), .val (.int (0 : Int32)), .val (.ref a1), .unset] [(.int (0 : Int32))]))
    refine own_Goes.st ?_ (fun _ k => XS.iconst X5.here hx rfl (hb hby at_43) k)
    show own_Goes p.tables e below P (T5.setTop (mkF m 44 #[.val (.int p0), .val (.int p1), .val (.int p2), .val (.int p3), .val (.int p4), .val (.int (0 : Int32)), .val (.ref a1), .unset] [(.int (3 : Int32)), (.int (0 : Int32))]))
    refine own_Goes.st ?_ (fun _ k => XS.icmpYes X5.here hx rfl (pc0 := 44) (pc' := 53) rfl (hb hby at_44) rfl (tlt (by decide : (0 : Int32) < (3 : Int32))).1 (by decide) (by decide) k)
    show own_Goes p.tables e below P (T5.setTop (mkF m 53 #[.val (.int p0), .val (.int p1), .val (.int p2), .val (.int p3), .val (.int p4), .val (.int (0 : Int32)), .val (.ref a1), .unset] []))
    refine own_Goes.st ?_ (fun _ k => XS.iload X5.here hx rfl (hb hby at_53) rfl k)
    show own_Goes p.tables e below P (T5.setTop (mkF m 55 #[.val (.int p0), .val (.int p1), .val (.int p2), .val (.int p3), .val (.int p4), .val (.int (0 : Int32)), .val (.ref a1), .unset] [(.int (0 : Int32))]))
    refine own_Goes.st ?_ (fun _ k => XS.iconst X5.here hx rfl (hb hby at_55) k)
    show own_Goes p.tables e below P (T5.setTop (mkF m 56 #[.val (.int p0), .val (.int p1), .val (.int p2), .val (.int p3), .val (.int p4), .val (.int (0 : Int32)), .val (.ref a1), .unset] [(.int (4 : Int32)), (.int (0 : Int32))]))
    refine own_Goes.st ?_ (fun _ k => XS.icmpYes X5.here hx rfl (pc0 := 56) (pc' := 66) rfl (hb hby at_56) rfl (tlt (by decide : (0 : Int32) < (4 : Int32))).1 (by decide) (by decide) k)
    show own_Goes p.tables e below P (T5.setTop (mkF m 66 #[.val (.int p0), .val (.int p1), .val (.int p2), .val (.int p3), .val (.int p4), .val (.int (0 : Int32)), .val (.ref a1), .unset] []))
    refine own_Goes.st ?_ (fun _ k => XS.iload X5.here hx rfl (hb hby at_66) rfl k)
    show own_Goes p.tables e below P (T5.setTop (mkF m 68 #[.val (.int p0), .val (.int p1), .val (.int p2), .val (.int p3), .val (.int p4), .val (.int (0 : Int32)), .val (.ref a1), .unset] [(.int (0 : Int32))]))
    refine own_Goes.st ?_ (fun _ k => XS.ifNo X5.here hx rfl (hb hby at_68) rfl ((if0 _ _).trans (teq (by decide : (0 : Int32) = (0 : Int32))).2) k)
    show own_Goes p.tables e below P (T5.setTop (mkF m 71 #[.val (.int p0), .val (.int p1), .val (.int p2), .val (.int p3), .val (.int p4), .val (.int (0 : Int32)), .val (.ref a1), .unset] []))
    refine own_Goes.st ?_ (fun _ k => XS.iconst X5.here hx rfl (hb hby at_71) k)
    show own_Goes p.tables e below P (T5.setTop (mkF m 72 #[.val (.int p0), .val (.int p1), .val (.int p2), .val (.int p3), .val (.int p4), .val (.int (0 : Int32)), .val (.ref a1), .unset] [(.int (1 : Int32))]))
    refine own_Goes.st ?_ (fun _ k => XS.istore X5.here hx rfl (hb hby at_72) rfl (l' := #[.val (.int p0), .val (.int p1), .val (.int p2), .val (.int p3), .val (.int p4), .val (.int (0 : Int32)), .val (.ref a1), .val (.int (1 : Int32))]) rfl k)
    show own_Goes p.tables e below P (T5.setTop (mkF m 74 #[.val (.int p0), .val (.int p1), .val (.int p2), .val (.int p3), .val (.int p4), .val (.int (0 : Int32)), .val (.ref a1), .val (.int (1 : Int32))] []))
    refine own_Goes.st ?_ (fun _ k => XS.goto X5.here hx rfl (pc0 := 74) (pc' := 164) rfl (hb hby at_74) (by decide) (by decide) k)
    show own_Goes p.tables e below P (T5.setTop (mkF m 164 #[.val (.int p0), .val (.int p1), .val (.int p2), .val (.int p3), .val (.int p4), .val (.int (0 : Int32)), .val (.ref a1), .val (.int (1 : Int32))] []))
    refine own_Goes.st ?_ (fun _ k => XS.aload X5.here hx rfl (hb hby at_164) rfl rfl k)
    show own_Goes p.tables e below P (T5.setTop (mkF m 166 #[.val (.int p0), .val (.int p1), .val (.int p2), .val (.int p3), .val (.int p4), .val (.int (0 : Int32)), .val (.ref a1), .val (.int (1 : Int32))] [(.ref a1)]))
    obtain ⟨cq14, kq14, q14a, q14b, q14c⟩ := isOf hZ rfl f6
    obtain ⟨_, _, ⟨T14, L14, k14, n14⟩, -, X14, ⟨Lc14, hQ14, l14, y14, z14⟩, st14⟩ := X5.virtualBack hx (y := (⟨"com/example/taxodelta/taxodelta/taxonomy/IntList", "hashCode", "()I"⟩ : MethodName)) (z := (⟨"com/example/taxodelta/taxodelta/taxonomy/IntList", "hashCode", "()I"⟩ : MethodName)) hown (mvT hZ (hw _ (List.mem_of_getElem? (i := 13) rfl))) (mvT hZ (hw _ (List.mem_of_getElem? (i := 14) rfl))) (notFace_of_selects (args := #[]) (mvT hZ (hw _ (List.mem_of_getElem? (i := 16) rfl)))) (mvT hZ (hw _ (List.mem_of_getElem? (i := 16) rfl))) (mvT hZ (hw _ (List.mem_of_getElem? (i := 15) rfl))) (by decide) (backOf (W := 0) (rm_hash_0 l Z a0 hw [] a1 b5 k5 T5.heap n0 Z13 f7 f8 f10) hZ (hw _ (List.mem_of_getElem? (i := 17) rfl)) (hw _ (List.mem_of_getElem? (i := 3) rfl)) (by decide) (by decide)) q14a q14c (g := (mkF m 166 #[.val (.int p0), .val (.int p1), .val (.int p2), .val (.int p3), .val (.int p4), .val (.int (0 : Int32)), .val (.ref a1), .val (.int (1 : Int32))] [(.ref a1)])) rfl (by rw [hml]; rfl) (Steps.refl _) (argsL := []) (rest := []) (lenOf own_pd__28__29_I rfl) rfl (by show 2 * 0 + _ ≤ _; exact Nat.le_of_eq rfl) (hb hby at_166) (fun _ _ => ⟨rfl, rfl, (by decide : 2 + 0 ≤ _), (by decide : 4 + 0 ≤ _)⟩)
    dsimp only [Pt.U, Pt.locs, Pt.cells, Pt.slots] at X14 l14 y14 z14 st14 hQ14
    subst l14 y14 z14
    obtain ⟨rfl, Nq14, e14⟩ := hQ14
    have N14 := Fr.app N5 Nq14
    refine own_Goes.tr st14 ?_
    show own_Goes p.tables e below P (T14.setTop (mkF m 169 #[.val (.int p0), .val (.int p1), .val (.int p2), .val (.int p3), .val (.int p4), .val (.int (0 : Int32)), .val (.ref a1), .val (.int (1 : Int32))] [(.int (1 : Int32))]))
    refine own_Goes.st ?_ (fun _ k => XS.iload X14.here hx rfl (hb hby at_169) rfl k)
    show own_Goes p.tables e below P (T14.setTop (mkF m 171 #[.val (.int p0), .val (.int p1), .val (.int p2), .val (.int p3), .val (.int p4), .val (.int (0 : Int32)), .val (.ref a1), .val (.int (1 : Int32))] [(.int (1 : Int32)), (.int (1 : Int32))]))
    refine own_Goes.st ?_ (fun _ k => XS.icmpNo X14.here hx rfl (hb hby at_171) rfl (teq (by decide : (1 : Int32) = (1 : Int32))).2 k)
    show own_Goes p.tables e below P (T14.setTop (mkF m 174 #[.val (.int p0), .val (.int p1), .val (.int p2), .val (.int p3), .val (.int p4), .val (.int (0 : Int32)), .val (.ref a1), .val (.int (1 : Int32))] []))
    refine own_Goes.st ?_ (fun _ k => XS.iconst X14.here hx rfl (hb hby at_174) k)
    show own_Goes p.tables e below P (T14.setTop (mkF m 175 #[.val (.int p0), .val (.int p1), .val (.int p2), .val (.int p3), .val (.int p4), .val (.int (0 : Int32)), .val (.ref a1), .val (.int (1 : Int32))] [(.int (1 : Int32))]))
    refine own_Goes.st ?_ (fun _ k => XS.goto X14.here hx rfl (pc0 := 175) (pc' := 179) rfl (hb hby at_175) (by decide) (by decide) k)
    show own_Goes p.tables e below P (T14.setTop (mkF m 179 #[.val (.int p0), .val (.int p1), .val (.int p2), .val (.int p3), .val (.int p4), .val (.int (0 : Int32)), .val (.ref a1), .val (.int (1 : Int32))] [(.int (1 : Int32))]))
    obtain ⟨fs, hr, hrun, hended, hW, hsame⟩ := X14.leave (v := some (.int (1 : Int32))) (fun h => by rw [Bd.returns] at h; cases h)
    exact own_Goes.fin _ _ (retOut X14 hx (t := .boolean) Bd.returns rfl (Or.inl ⟨rfl, Or.inr (Or.inl rfl), _, rfl⟩) (hb hby at_179) hr) (hPP _ _ ⟨hrun, hended, _, _, rfl, (by show Q_law n0 _ _; exact ⟨rfl, N14⟩), ⟨_, rfl⟩, hW, hsame.mono (by decide) (by decide)⟩)
  · skip
    show own_Goes p.tables e below P (s₁.setTop (mkF m 8 #[.val (.int p0), .val (.int p1), .val (.int p2), .val (.int p3), .val (.int p4), .val (.int (1 : Int32)), .unset, .unset] []))
    obtain ⟨T15, h15, X15, e15, E15, A15, D15, -, st15⟩ := newO X0 hx hZ hown (hw _ (List.mem_of_getElem? (i := 1) rfl)) (hw _ (List.mem_of_getElem? (i := 2) rfl)) (hw _ (List.mem_of_getElem? (i := 3) rfl)) e0 (g := (mkF m 8 #[.val (.int p0), .val (.int p1), .val (.int p2), .val (.int p3), .val (.int p4), .val (.int (1 : Int32)), .unset, .unset] [])) rfl (hb hby at_8) (by decide) (by decide)
    obtain ⟨a15, g15⟩ : ∃ z, z = h0.size := ⟨_, rfl⟩
    rw [← g15] at A15 D15 st15
    have ge_a15 : n0 ≤ a15 := Nat.le_trans Z0 (Nat.le_of_eq g15.symm)
    refine own_Goes.st ?_ st15
    have Z16 : n0 ≤ h15.size := Nat.le_trans Z0 E15.1
    have F17 : Fld Z h15 a15 "com/example/taxodelta/taxodelta/taxonomy/IntList" "values" "[I" .null := D15 (Or.inl (hw _ (List.mem_of_getElem? (i := 12) rfl))) (ty := (.array .int)) (by decide)
    have F18 : Fld Z h15 a15 "com/example/taxodelta/taxodelta/taxonomy/IntList" "size" "I" (.int (0 : Int32)) := D15 (Or.inl (hw _ (List.mem_of_getElem? (i := 19) rfl))) (ty := .int) (by decide)
    show own_Goes p.tables e below P (T15.setTop (mkF m 11 #[.val (.int p0), .val (.int p1), .val (.int p2), .val (.int p3), .val (.int p4), .val (.int (1 : Int32)), .unset, .unset] [(.ref a15)]))
    refine own_Goes.st ?_ (fun _ k => XS.dup X15.here hx rfl (hb hby at_11) rfl rfl k)
    show own_Goes p.tables e below P (T15.setTop (mkF m 12 #[.val (.int p0), .val (.int p1), .val (.int p2), .val (.int p3), .val (.int p4), .val (.int (1 : Int32)), .unset, .unset] [(.ref a15), (.ref a15)]))
    obtain ⟨_, _, ⟨T19, L19, k19, n19⟩, -, X19, ⟨Lc19, hQ19, l19, y19, z19⟩, st19⟩ := X15.specialBack hx (y := (⟨"com/example/taxodelta/taxodelta/taxonomy/IntList", "<init>", "()V"⟩ : MethodName)) rfl hown (mvT hZ (hw _ (List.mem_of_getElem? (i := 4) rfl))) (mvT hZ (hw _ (List.mem_of_getElem? (i := 5) rfl))) (mvT hZ (hw _ (List.mem_of_getElem? (i := 6) rfl))) (by decide) (backOf (W := 1) (rm_ctor l Z a0 hw [] a15 .null h15 n0 Z16 A15 F17 F18 ge_a15) hZ (hw _ (List.mem_of_getElem? (i := 6) rfl)) (hw _ (List.mem_of_getElem? (i := 3) rfl)) (by decide) (by decide)) (g := (mkF m 12 #[.val (.int p0), .val (.int p1), .val (.int p2), .val (.int p3), .val (.int p4), .val (.int (1 : Int32)), .unset, .unset] [(.ref a15), (.ref a15)])) rfl (by rw [hml]; rfl) (Steps.refl _) (a := a15) (argsL := []) (rest := [(.ref a15)]) (lenOf own_pd__28__29_V rfl) rfl (by show 2 * 0 + _ ≤ _; exact Nat.le_of_eq rfl) (hb hby at_12) (fun _ _ => ⟨rfl, e15, (by decide : 1 + 1 ≤ _), (by decide : 2 + 2 ≤ _)⟩)
    dsimp only [Pt.U, Pt.locs, Pt.cells, Pt.slots] at X19 l19 y19 z19 st19 hQ19
    subst l19 y19 z19
    obtain ⟨b19, k19, rfl, Nq19, K19, f20, f21, f22, f23, f24, f25⟩ := hQ19
    have N19 := Fr.app N0 Nq19
    refine own_Goes.tr st19 ?_
    have ne26 : a15 ≠ b19 := Nat.ne_of_lt (Nat.lt_of_lt_of_le A15.lt f23)
    have ge_b19 : n0 ≤ b19 := Nat.le_trans Z16 f23
    have Z27 : n0 ≤ T19.heap.size := Nat.le_trans Z16 K19.1
    show own_Goes p.tables e below P (T19.setTop (mkF m 15 #[.val (.int p0), .val (.int p1), .val (.int p2), .val (.int p3), .val (.int p4), .val (.int (1 : Int32)), .unset, .unset] [(.ref a15)]))
    refine own_Goes.st ?_ (fun _ k => XS.astore X19.here hx rfl (hb hby at_15) rfl rfl (l' := #[.val (.int p0), .val (.int p1), .val (.int p2), .val (.int p3), .val (.int p4), .val (.int (1 : Int32)), .val (.ref a15), .unset]) rfl k)
    show own_Goes p.tables e below P (T19.setTop (mkF m 17 #[.val (.int p0), .val (.int p1), .val (.int p2), .val (.int p3), .val (.int p4), .val (.int (1 : Int32)), .val (.ref a15), .unset] []))
    refine own_Goes.st ?_ (fun _ k => XS.iload X19.here hx rfl (hb hby at_17) rfl k)
    show own_Goes p.tables e below P (T19.setTop (mkF m 19 #[.val (.int p0), .val (.int p1), .val (.int p2), .val (.int p3), .val (.int p4), .val (.int (1 : Int32)), .val (.ref a15), .unset] [(.int (1 : Int32))]))
    refine own_Goes.st ?_ (fun _ k => XS.iconst X19.here hx rfl (hb hby at_19) k)
    show own_Goes p.tables e below P (T19.setTop (mkF m 20 #[.val (.int p0), .val (.int p1), .val (.int p2), .val (.int p3), .val (.int p4), .val (.int (1 : Int32)), .val (.ref a15), .unset] [(.int (1 : Int32)), (.int (1 : Int32))]))
    refine own_Goes.st ?_ (fun _ k => XS.icmpNo X19.here hx rfl (hb hby at_20) rfl (flt (by decide : ¬ ((1 : Int32) < (1 : Int32)))).1 k)
    show own_Goes p.tables e below P (T19.setTop (mkF m 23 #[.val (.int p0), .val (.int p1), .val (.int p2), .val (.int p3), .val (.int p4), .val (.int (1 : Int32)), .val (.ref a15), .unset] []))
    refine own_Goes.st ?_ (fun _ k => XS.aload X19.here hx rfl (hb hby at_23) rfl rfl k)
    show own_Goes p.tables e below P (T19.setTop (mkF m 25 #[.val (.int p0), .val (.int p1), .val (.int p2), .val (.int p3), .val (.int p4), .val (.int (1 : Int32)), .val (.ref a15), .unset] [(.ref a15)]))
    refine own_Goes.st ?_ (fun _ k => XS.iloadN X19.here hx rfl (hb hby at_25) rfl k)
    show own_Goes p.tables e below P (T19.setTop (mkF m 26 #[.val (.int p0), .val (.int p1), .val (.int p2), .val (.int p3), .val (.int p4), .val (.int (1 : Int32)), .val (.ref a15), .unset] [(.int p1), (.ref a15)]))
    obtain ⟨cq28, kq28, q28a, q28b, q28c⟩ := isOf hZ rfl f20
    obtain ⟨_, _, ⟨T28, L28, k28, n28⟩, -, X28, ⟨Lc28, hQ28, l28, y28, z28⟩, st28⟩ := X19.virtualBack hx (y := (⟨"com/example/taxodelta/taxodelta/taxonomy/IntList", "add", "(I)V"⟩ : MethodName)) (z := (⟨"com/example/taxodelta/taxodelta/taxonomy/IntList", "add", "(I)V"⟩ : MethodName)) hown (mvT hZ (hw _ (List.mem_of_getElem? (i := 20) rfl))) (mvT hZ (hw _ (List.mem_of_getElem? (i := 21) rfl))) (notFace_of_selects (args := #[]) (mvT hZ (hw _ (List.mem_of_getElem? (i := 23) rfl)))) (mvT hZ (hw _ (List.mem_of_getElem? (i := 23) rfl))) (mvT hZ (hw _ (List.mem_of_getElem? (i := 22) rfl))) (by decide) (backOf (W := 0) (rm_add_0 l Z a0 hw [] a15 p1 b19 k19 T19.heap n0 Z27 f20 f21 f22 f24 f25 ge_a15 ge_b19 ne26) hZ (hw _ (List.mem_of_getElem? (i := 24) rfl)) (hw _ (List.mem_of_getElem? (i := 3) rfl)) (by decide) (by decide)) q28a q28c (g := (mkF m 26 #[.val (.int p0), .val (.int p1), .val (.int p2), .val (.int p3), .val (.int p4), .val (.int (1 : Int32)), .val (.ref a15), .unset] [(.int p1), (.ref a15)])) rfl (by rw [hml]; rfl) (Steps.refl _) (argsL := [(.int p1)]) (rest := []) (lenOf own_pd__28_I_29_V rfl) rfl (by show 2 * 0 + _ ≤ _; exact Nat.le_of_eq rfl) (hb hby at_26) (fun _ _ => ⟨rfl, rfl, (by decide : 2 + 0 ≤ _), (by decide : 4 + 0 ≤ _)⟩)
    dsimp only [Pt.U, Pt.locs, Pt.cells, Pt.slots] at X28 l28 y28 z28 st28 hQ28
    subst l28 y28 z28
    obtain ⟨rfl, Nq28, K28, f29, f30, f31, f32, f33⟩ := hQ28
    have N28 := Fr.app N19 Nq28
    refine own_Goes.tr st28 ?_
    have Z34 : n0 ≤ T28.heap.size := Nat.le_trans Z27 K28.1
    show own_Goes p.tables e below P (T28.setTop (mkF m 29 #[.val (.int p0), .val (.int p1), .val (.int p2), .val (.int p3), .val (.int p4), .val (.int (1 : Int32)), .val (.ref a15), .unset] []))
    refine own_Goes.st ?_ (fun _ k => XS.iload X28.here hx rfl (hb hby at_29) rfl k)
    show own_Goes p.tables e below P (T28.setTop (mkF m 31 #[.val (.int p0), .val (.int p1), .val (.int p2), .val (.int p3), .val (.int p4), .val (.int (1 : Int32)), .val (.ref a15), .unset] [(.int (1 : Int32))]))
    refine own_Goes.st ?_ (fun _ k => XS.iconst X28.here hx rfl (hb hby at_31) k)
    show own_Goes p.tables e below P (T28.setTop (mkF m 32 #[.val (.int p0), .val (.int p1), .val (.int p2), .val (.int p3), .val (.int p4), .val (.int (1 : Int32)), .val (.ref a15), .unset] [(.int (2 : Int32)), (.int (1 : Int32))]))
    refine own_Goes.st ?_ (fun _ k => XS.icmpYes X28.here hx rfl (pc0 := 32) (pc' := 41) rfl (hb hby at_32) rfl (tlt (by decide : (1 : Int32) < (2 : Int32))).1 (by decide) (by decide) k)
    show own_Goes p.tables e below P (T28.setTop (mkF m 41 #[.val (.int p0), .val (.int p1), .val (.int p2), .val (.int p3), .val (.int p4), .val (.int (1 : Int32)), .val (.ref a15), .unset] []))
    refine own_Goes.st ?_ (fun _ k => XS.iload X28.here hx rfl (hb hby at_41) rfl k)
    show own_Goes p.tables e below P (T28.setTop (mkF m 43 #[.val (.int p0), .val (.int p1), .val (.int p2), .val (.int p3), .val (.int p4), .val (.int (1 : Int32)), .val (.ref a15), .unset] [(.int (1 : Int32))]))
    refine own_Goes.st ?_ (fun _ k => XS.iconst X28.here hx rfl (hb hby at_43) k)
    show own_Goes p.tables e below P (T28.setTop (mkF m 44 #[.val (.int p0), .val (.int p1), .val (.int p2), .val (.int p3), .val (.int p4), .val (.int (1 : Int32)), .val (.ref a15), .unset] [(.int (3 : Int32)), (.int (1 : Int32))]))
    refine own_Goes.st ?_ (fun _ k => XS.icmpYes X28.here hx rfl (pc0 := 44) (pc' := 53) rfl (hb hby at_44) rfl (tlt (by decide : (1 : Int32) < (3 : Int32))).1 (by decide) (by decide) k)
    show own_Goes p.tables e below P (T28.setTop (mkF m 53 #[.val (.int p0), .val (.int p1), .val (.int p2), .val (.int p3), .val (.int p4), .val (.int (1 : Int32)), .val (.ref a15), .unset] []))
    refine own_Goes.st ?_ (fun _ k => XS.iload X28.here hx rfl (hb hby at_53) rfl k)
    show own_Goes p.tables e below P (T28.setTop (mkF m 55 #[.val (.int p0), .val (.int p1), .val (.int p2), .val (.int p3), .val (.int p4), .val (.int (1 : Int32)), .val (.ref a15), .unset] [(.int (1 : Int32))]))
    refine own_Goes.st ?_ (fun _ k => XS.iconst X28.here hx rfl (hb hby at_55) k)
    show own_Goes p.tables e below P (T28.setTop (mkF m 56 #[.val (.int p0), .val (.int p1), .val (.int p2), .val (.int p3), .val (.int p4), .val (.int (1 : Int32)), .val (.ref a15), .unset] [(.int (4 : Int32)), (.int (1 : Int32))]))
    refine own_Goes.st ?_ (fun _ k => XS.icmpYes X28.here hx rfl (pc0 := 56) (pc' := 66) rfl (hb hby at_56) rfl (tlt (by decide : (1 : Int32) < (4 : Int32))).1 (by decide) (by decide) k)
    show own_Goes p.tables e below P (T28.setTop (mkF m 66 #[.val (.int p0), .val (.int p1), .val (.int p2), .val (.int p3), .val (.int p4), .val (.int (1 : Int32)), .val (.ref a15), .unset] []))
    refine own_Goes.st ?_ (fun _ k => XS.iload X28.here hx rfl (hb hby at_66) rfl k)
    show own_Goes p.tables e below P (T28.setTop (mkF m 68 #[.val (.int p0), .val (.int p1), .val (.int p2), .val (.int p3), .val (.int p4), .val (.int (1 : Int32)), .val (.ref a15), .unset] [(.int (1 : Int32))]))
    refine own_Goes.st ?_ (fun _ k => XS.ifYes X28.here hx rfl (pc0 := 68) (pc' := 77) rfl (hb hby at_68) rfl ((if0 _ _).trans (feq (by decide : ¬ ((1 : Int32) = (0 : Int32)))).2) (by decide) (by decide) k)
    show own_Goes p.tables e below P (T28.setTop (mkF m 77 #[.val (.int p0), .val (.int p1), .val (.int p2), .val (.int p3), .val (.int p4), .val (.int (1 : Int32)), .val (.ref a15), .unset] []))
    refine own_Goes.st ?_ (fun _ k => XS.iload X28.here hx rfl (hb hby at_77) rfl k)
    show own_Goes p.tables e below P (T28.setTop (mkF m 79 #[.val (.int p0), .val (.int p1), .val (.int p2), .val (.int p3), .val (.int p4), .val (.int (1 : Int32)), .val (.ref a15), .unset] [(.int (1 : Int32))]))
    refine own_Goes.st ?_ (fun _ k => XS.iconst X28.here hx rfl (hb hby at_79) k)
    show own_Goes p.tables e below P (T28.setTop (mkF m 80 #[.val (.int p0), .val (.int p1), .val (.int p2), .val (.int p3), .val (.int p4), .val (.int (1 : Int32)), .val (.ref a15), .unset] [(.int (1 : Int32)), (.int (1 : Int32))]))
    refine own_Goes.st ?_ (fun _ k => XS.icmpNo X28.here hx rfl (hb hby at_80) rfl (teq (by decide : (1 : Int32) = (1 : Int32))).2 k)
    show own_Goes p.tables e below P (T28.setTop (mkF m 83 #[.val (.int p0), .val (.int p1), .val (.int p2), .val (.int p3), .val (.int p4), .val (.int (1 : Int32)), .val (.ref a15), .unset] []))
    refine own_Goes.st ?_ (fun _ k => XS.bipush X28.here hx rfl (hb hby at_83) k)
    show own_Goes p.tables e below P (T28.setTop (mkF m 85 #[.val (.int p0), .val (.int p1), .val (.int p2), .val (.int p3), .val (.int p4), .val (.int (1 : Int32)), .val (.ref a15), .unset] [(.int (31 : Int32))]))
    refine own_Goes.st ?_ (fun _ k => XS.iloadN X28.here hx rfl (hb hby at_85) rfl k)
    show own_Goes p.tables e below P (T28.setTop (mkF m 86 #[.val (.int p0), .val (.int p1), .val (.int p2), .val (.int p3), .val (.int p4), .val (.int (1 : Int32)), .val (.ref a15), .unset] [(.int p1), (.int (31 : Int32))]))
    refine own_Goes.st ?_ (fun _ k => XS.iadd X28.here hx rfl (hb hby at_86) rfl k)
    show own_Goes p.tables e below P (T28.setTop (mkF m 87 #[.val (.int p0), .val (.int p1), .val (.int p2), .val (.int p3), .val (.int p4), .val (.int (1 : Int32)), .val (.ref a15), .unset] [(.int ((31 : Int32) + p1))]))
    refine own_Goes.st ?_ (fun _ k => XS.istore X28.here hx rfl (hb hby at_87) rfl (l' := #[.val (.int p0), .val (.int p1), .val (.int p2), .val (.int p3), .val (.int p4), .val (.int (1 : Int32)), .val (.ref a15), .val (.int ((31 : Int32) + p1))]) rfl k)
    show own_Goes p.tables e below P (T28.setTop (mkF m 89 #[.val (.int p0), .val (.int p1), .val (.int p2), .val (.int p3), .val (.int p4), .val (.int (1 : Int32)), .val (.ref a15), .val (.int ((31 : Int32) + p1))] []))
    refine own_Goes.st ?_ (fun _ k => XS.goto X28.here hx rfl (pc0 := 89) (pc' := 164) rfl (hb hby at_89) (by decide) (by decide) k)
    show own_Goes p.tables e below P (T28.setTop (mkF m 164 #[.val (.int p0), .val (.int p1), .val (.int p2), .val (.int p3), .val (.int p4), .val (.int (1 : Int32)), .val (.ref a15), .val (.int ((31 : Int32) + p1))] []))
    refine own_Goes.st ?_ (fun _ k => XS.aload X28.here hx rfl (hb hby at_164) rfl rfl k)
    show own_Goes p.tables e below P (T28.setTop (mkF m 166 #[.val (.int p0), .val (.int p1), .val (.int p2), .val (.int p3), .val (.int p4), .val (.int (1 : Int32)), .val (.ref a15), .val (.int ((31 : Int32) + p1))] [(.ref a15)]))
    obtain ⟨cq35, kq35, q35a, q35b, q35c⟩ := isOf hZ rfl f29
    obtain ⟨_, _, ⟨T35, L35, k35, n35⟩, -, X35, ⟨Lc35, hQ35, l35, y35, z35⟩, st35⟩ := X28.virtualBack hx (y := (⟨"com/example/taxodelta/taxodelta/taxonomy/IntList", "hashCode", "()I"⟩ : MethodName)) (z := (⟨"com/example/taxodelta/taxodelta/taxonomy/IntList", "hashCode", "()I"⟩ : MethodName)) hown (mvT hZ (hw _ (List.mem_of_getElem? (i := 13) rfl))) (mvT hZ (hw _ (List.mem_of_getElem? (i := 14) rfl))) (notFace_of_selects (args := #[]) (mvT hZ (hw _ (List.mem_of_getElem? (i := 16) rfl)))) (mvT hZ (hw _ (List.mem_of_getElem? (i := 16) rfl))) (mvT hZ (hw _ (List.mem_of_getElem? (i := 15) rfl))) (by decide) (backOf (W := 0) (rm_hash_1 l Z a0 hw [] a15 b19 k19 p1 T28.heap n0 Z34 f30 f31 f32) hZ (hw _ (List.mem_of_getElem? (i := 17) rfl)) (hw _ (List.mem_of_getElem? (i := 3) rfl)) (by decide) (by decide)) q35a q35c (g := (mkF m 166 #[.val (.int p0), .val (.int p1), .val (.int p2), .val (.int p3), .val (.int p4), .val (.int (1 : Int32)), .val (.ref a15), .val (.int ((31 : Int32) + p1))] [(.ref a15)])) rfl (by rw [hml]; rfl) (Steps.refl _) (argsL := []) (rest := []) (lenOf own_pd__28__29_I rfl) rfl (by show 2 * 0 + _ ≤ _; exact Nat.le_of_eq rfl) (hb hby at_166) (fun _ _ => ⟨rfl, rfl, (by decide : 2 + 0 ≤ _), (by decide : 4 + 0 ≤ _)⟩)
    dsimp only [Pt.U, Pt.locs, Pt.cells, Pt.slots] at X35 l35 y35 z35 st35 hQ35
    subst l35 y35 z35
    obtain ⟨rfl, Nq35, e35⟩ := hQ35
    have N35 := Fr.app N28 Nq35
    refine own_Goes.tr st35 ?_
    show own_Goes p.tables e below P (T35.setTop (mkF m 169 #[.val (.int p0), .val (.int p1), .val (.int p2), .val (.int p3), .val (.int p4), .val (.int (1 : Int32)), .val (.ref a15), .val (.int ((31 : Int32) + p1))] [(.int ((31 : Int32) + p1))]))
    refine own_Goes.st ?_ (fun _ k => XS.iload X35.here hx rfl (hb hby at_169) rfl k)
    show own_Goes p.tables e below P (T35.setTop (mkF m 171 #[.val (.int p0), .val (.int p1), .val (.int p2), .val (.int p3), .val (.int p4), .val (.int (1 : Int32)), .val (.ref a15), .val (.int ((31 : Int32) + p1))] [(.int ((31 : Int32) + p1)), (.int ((31 : Int32) + p1))]))
    refine own_Goes.st ?_ (fun _ k => XS.icmpNo X35.here hx rfl (hb hby at_171) rfl (teq rfl).2 k)
    show own_Goes p.tables e below P (T35.setTop (mkF m 174 #[.val (.int p0), .val (.int p1), .val (.int p2), .val (.int p3), .val (.int p4), .val (.int (1 : Int32)), .val (.ref a15), .val (.int ((31 : Int32) + p1))] []))
    refine own_Goes.st ?_ (fun _ k => XS.iconst X35.here hx rfl (hb hby at_174) k)
    show own_Goes p.tables e below P (T35.setTop (mkF m 175 #[.val (.int p0), .val (.int p1), .val (.int p2), .val (.int p3), .val (.int p4), .val (.int (1 : Int32)), .val (.ref a15), .val (.int ((31 : Int32) + p1))] [(.int (1 : Int32))]))
    refine own_Goes.st ?_ (fun _ k => XS.goto X35.here hx rfl (pc0 := 175) (pc' := 179) rfl (hb hby at_175) (by decide) (by decide) k)
    show own_Goes p.tables e below P (T35.setTop (mkF m 179 #[.val (.int p0), .val (.int p1), .val (.int p2), .val (.int p3), .val (.int p4), .val (.int (1 : Int32)), .val (.ref a15), .val (.int ((31 : Int32) + p1))] [(.int (1 : Int32))]))
    obtain ⟨fs, hr, hrun, hended, hW, hsame⟩ := X35.leave (v := some (.int (1 : Int32))) (fun h => by rw [Bd.returns] at h; cases h)
    exact own_Goes.fin _ _ (retOut X35 hx (t := .boolean) Bd.returns rfl (Or.inl ⟨rfl, Or.inr (Or.inl rfl), _, rfl⟩) (hb hby at_179) hr) (hPP _ _ ⟨hrun, hended, _, _, rfl, (by show Q_law n0 _ _; exact ⟨rfl, N35⟩), ⟨_, rfl⟩, hW, hsame.mono (by decide) (by decide)⟩)
  · skip
    show own_Goes p.tables e below P (s₁.setTop (mkF m 8 #[.val (.int p0), .val (.int p1), .val (.int p2), .val (.int p3), .val (.int p4), .val (.int (2 : Int32)), .unset, .unset] []))
    obtain ⟨T36, h36, X36, e36, E36, A36, D36, -, st36⟩ := newO X0 hx hZ hown (hw _ (List.mem_of_getElem? (i := 1) rfl)) (hw _ (List.mem_of_getElem? (i := 2) rfl)) (hw _ (List.mem_of_getElem? (i := 3) rfl)) e0 (g := (mkF m 8 #[.val (.int p0), .val (.int p1), .val (.int p2), .val (.int p3), .val (.int p4), .val (.int (2 : Int32)), .unset, .unset] [])) rfl (hb hby at_8) (by decide) (by decide)
    obtain ⟨a36, g36⟩ : ∃ z, z = h0.size := ⟨_, rfl⟩
    rw [← g36] at A36 D36 st36
    have ge_a36 : n0 ≤ a36 := Nat.le_trans Z0 (Nat.le_of_eq g36.symm)
    refine own_Goes.st ?_ st36
    have Z37 : n0 ≤ h36.size := Nat.le_trans Z0 E36.1
    have F38 : Fld Z h36 a36 "com/example/taxodelta/taxodelta/taxonomy/IntList" "values" "[I" .null := D36 (Or.inl (hw _ (List.mem_of_getElem? (i := 12) rfl))) (ty := (.array .int)) (by decide)
    have F39 : Fld Z h36 a36 "com/example/taxodelta/taxodelta/taxonomy/IntList" "size" "I" (.int (0 : Int32)) := D36 (Or.inl (hw _ (List.mem_of_getElem? (i := 19) rfl))) (ty := .int) (by decide)
    show own_Goes p.tables e below P (T36.setTop (mkF m 11 #[.val (.int p0), .val (.int p1), .val (.int p2), .val (.int p3), .val (.int p4), .val (.int (2 : Int32)), .unset, .unset] [(.ref a36)]))
    refine own_Goes.st ?_ (fun _ k => XS.dup X36.here hx rfl (hb hby at_11) rfl rfl k)
    show own_Goes p.tables e below P (T36.setTop (mkF m 12 #[.val (.int p0), .val (.int p1), .val (.int p2), .val (.int p3), .val (.int p4), .val (.int (2 : Int32)), .unset, .unset] [(.ref a36), (.ref a36)]))
    obtain ⟨_, _, ⟨T40, L40, k40, n40⟩, -, X40, ⟨Lc40, hQ40, l40, y40, z40⟩, st40⟩ := X36.specialBack hx (y := (⟨"com/example/taxodelta/taxodelta/taxonomy/IntList", "<init>", "()V"⟩ : MethodName)) rfl hown (mvT hZ (hw _ (List.mem_of_getElem? (i := 4) rfl))) (mvT hZ (hw _ (List.mem_of_getElem? (i := 5) rfl))) (mvT hZ (hw _ (List.mem_of_getElem? (i := 6) rfl))) (by decide) (backOf (W := 1) (rm_ctor l Z a0 hw [] a36 .null h36 n0 Z37 A36 F38 F39 ge_a36) hZ (hw _ (List.mem_of_getElem? (i := 6) rfl)) (hw _ (List.mem_of_getElem? (i := 3) rfl)) (by decide) (by decide)) (g := (mkF m 12 #[.val (.int p0), .val (.int p1), .val (.int p2), .val (.int p3), .val (.int p4), .val (.int (2 : Int32)), .unset, .unset] [(.ref a36), (.ref a36)])) rfl (by rw [hml]; rfl) (Steps.refl _) (a := a36) (argsL := []) (rest := [(.ref a36)]) (lenOf own_pd__28__29_V rfl) rfl (by show 2 * 0 + _ ≤ _; exact Nat.le_of_eq rfl) (hb hby at_12) (fun _ _ => ⟨rfl, e36, (by decide : 1 + 1 ≤ _), (by decide : 2 + 2 ≤ _)⟩)
    dsimp only [Pt.U, Pt.locs, Pt.cells, Pt.slots] at X40 l40 y40 z40 st40 hQ40
    subst l40 y40 z40
    obtain ⟨b40, k40, rfl, Nq40, K40, f41, f42, f43, f44, f45, f46⟩ := hQ40
    have N40 := Fr.app N0 Nq40
    refine own_Goes.tr st40 ?_
    have ne47 : a36 ≠ b40 := Nat.ne_of_lt (Nat.lt_of_lt_of_le A36.lt f44)
    have ge_b40 : n0 ≤ b40 := Nat.le_trans Z37 f44
    have Z48 : n0 ≤ T40.heap.size := Nat.le_trans Z37 K40.1
    show own_Goes p.tables e below P (T40.setTop (mkF m 15 #[.val (.int p0), .val (.int p1), .val (.int p2), .val (.int p3), .val (.int p4), .val (.int (2 : Int32)), .unset, .unset] [(.ref a36)]))
    refine own_Goes.st ?_ (fun _ k => XS.astore X40.here hx rfl (hb hby at_15) rfl rfl (l' := #[.val (.int p0), .val (.int p1), .val (.int p2), .val (.int p3), .val (.int p4), .val (.int (2 : Int32)), .val (.ref a36), .unset]) rfl k)
    show own_Goes p.tables e below P (T40.setTop (mkF m 17 #[.val (.int p0), .val (.int p1), .val (.int p2), .val (.int p3), .val (.int p4), .val (.int (2 : Int32)), .val (.ref a36), .unset] []))
    refine own_Goes.st ?_ (fun _ k => XS.iload X40.here hx rfl (hb hby at_17) rfl k)
    show own_Goes p.tables e below P (T40.setTop (mkF m 19 #[.val (.int p0), .val (.int p1), .val (.int p2), .val (.int p3), .val (.int p4), .val (.int (2 : Int32)), .val (.ref a36), .unset] [(.int (2 : Int32))]))
    refine own_Goes.st ?_ (fun _ k => XS.iconst X40.here hx rfl (hb hby at_19) k)
    show own_Goes p.tables e below P (T40.setTop (mkF m 20 #[.val (.int p0), .val (.int p1), .val (.int p2), .val (.int p3), .val (.int p4), .val (.int (2 : Int32)), .val (.ref a36), .unset] [(.int (1 : Int32)), (.int (2 : Int32))]))
    refine own_Goes.st ?_ (fun _ k => XS.icmpNo X40.here hx rfl (hb hby at_20) rfl (flt (by decide : ¬ ((2 : Int32) < (1 : Int32)))).1 k)
    show own_Goes p.tables e below P (T40.setTop (mkF m 23 #[.val (.int p0), .val (.int p1), .val (.int p2), .val (.int p3), .val (.int p4), .val (.int (2 : Int32)), .val (.ref a36), .unset] []))
    refine own_Goes.st ?_ (fun _ k => XS.aload X40.here hx rfl (hb hby at_23) rfl rfl k)
    show own_Goes p.tables e below P (T40.setTop (mkF m 25 #[.val (.int p0), .val (.int p1), .val (.int p2), .val (.int p3), .val (.int p4), .val (.int (2 : Int32)), .val (.ref a36), .unset] [(.ref a36)]))
    refine own_Goes.st ?_ (fun _ k => XS.iloadN X40.here hx rfl (hb hby at_25) rfl k)
    show own_Goes p.tables e below P (T40.setTop (mkF m 26 #[.val (.int p0), .val (.int p1), .val (.int p2), .val (.int p3), .val (.int p4), .val (.int (2 : Int32)), .val (.ref a36), .unset] [(.int p1), (.ref a36)]))
    obtain ⟨cq49, kq49, q49a, q49b, q49c⟩ := isOf hZ rfl f41
    obtain ⟨_, _, ⟨T49, L49, k49, n49⟩, -, X49, ⟨Lc49, hQ49, l49, y49, z49⟩, st49⟩ := X40.virtualBack hx (y := (⟨"com/example/taxodelta/taxodelta/taxonomy/IntList", "add", "(I)V"⟩ : MethodName)) (z := (⟨"com/example/taxodelta/taxodelta/taxonomy/IntList", "add", "(I)V"⟩ : MethodName)) hown (mvT hZ (hw _ (List.mem_of_getElem? (i := 20) rfl))) (mvT hZ (hw _ (List.mem_of_getElem? (i := 21) rfl))) (notFace_of_selects (args := #[]) (mvT hZ (hw _ (List.mem_of_getElem? (i := 23) rfl)))) (mvT hZ (hw _ (List.mem_of_getElem? (i := 23) rfl))) (mvT hZ (hw _ (List.mem_of_getElem? (i := 22) rfl))) (by decide) (backOf (W := 0) (rm_add_0 l Z a0 hw [] a36 p1 b40 k40 T40.heap n0 Z48 f41 f42 f43 f45 f46 ge_a36 ge_b40 ne47) hZ (hw _ (List.mem_of_getElem? (i := 24) rfl)) (hw _ (List.mem_of_getElem? (i := 3) rfl)) (by decide) (by decide)) q49a q49c (g := (mkF m 26 #[.val (.int p0), .val (.int p1), .val (.int p2), .val (.int p3), .val (.int p4), .val (.int (2 : Int32)), .val (.ref a36), .unset] [(.int p1), (.ref a36)])) rfl (by rw [hml]; rfl) (Steps.refl _) (argsL := [(.int p1)]) (rest := []) (lenOf own_pd__28_I_29_V rfl) rfl (by show 2 * 0 + _ ≤ _; exact Nat.le_of_eq rfl) (hb hby at_26) (fun _ _ => ⟨rfl, rfl, (by decide : 2 + 0 ≤ _), (by decide : 4 + 0 ≤ _)⟩)
    dsimp only [Pt.U, Pt.locs, Pt.cells, Pt.slots] at X49 l49 y49 z49 st49 hQ49
    subst l49 y49 z49
    obtain ⟨rfl, Nq49, K49, f50, f51, f52, f53, f54⟩ := hQ49
    have N49 := Fr.app N40 Nq49
    refine own_Goes.tr st49 ?_
    have Z55 : n0 ≤ T49.heap.size := Nat.le_trans Z48 K49.1
    show own_Goes p.tables e below P (T49.setTop (mkF m 29 #[.val (.int p0), .val (.int p1), .val (.int p2), .val (.int p3), .val (.int p4), .val (.int (2 : Int32)), .val (.ref a36), .unset] []))
    refine own_Goes.st ?_ (fun _ k => XS.iload X49.here hx rfl (hb hby at_29) rfl k)
    show own_Goes p.tables e below P (T49.setTop (mkF m 31 #[.val (.int p0), .val (.int p1), .val (.int p2), .val (.int p3), .val (.int p4), .val (.int (2 : Int32)), .val (.ref a36), .unset] [(.int (2 : Int32))]))
    refine own_Goes.st ?_ (fun _ k => XS.iconst X49.here hx rfl (hb hby at_31) k)
    show own_Goes p.tables e below P (T49.setTop (mkF m 32 #[.val (.int p0), .val (.int p1), .val (.int p2), .val (.int p3), .val (.int p4), .val (.int (2 : Int32)), .val (.ref a36), .unset] [(.int (2 : Int32)), (.int (2 : Int32))]))
    refine own_Goes.st ?_ (fun _ k => XS.icmpNo X49.here hx rfl (hb hby at_32) rfl (flt (by decide : ¬ ((2 : Int32) < (2 : Int32)))).1 k)
    show own_Goes p.tables e below P (T49.setTop (mkF m 35 #[.val (.int p0), .val (.int p1), .val (.int p2), .val (.int p3), .val (.int p4), .val (.int (2 : Int32)), .val (.ref a36), .unset] []))
    refine own_Goes.st ?_ (fun _ k => XS.aload X49.here hx rfl (hb hby at_35) rfl rfl k)
    show own_Goes p.tables e below P (T49.setTop (mkF m 37 #[.val (.int p0), .val (.int p1), .val (.int p2), .val (.int p3), .val (.int p4), .val (.int (2 : Int32)), .val (.ref a36), .unset] [(.ref a36)]))
    refine own_Goes.st ?_ (fun _ k => XS.iloadN X49.here hx rfl (hb hby at_37) rfl k)
    show own_Goes p.tables e below P (T49.setTop (mkF m 38 #[.val (.int p0), .val (.int p1), .val (.int p2), .val (.int p3), .val (.int p4), .val (.int (2 : Int32)), .val (.ref a36), .unset] [(.int p2), (.ref a36)]))
    obtain ⟨cq56, kq56, q56a, q56b, q56c⟩ := isOf hZ rfl f50
    obtain ⟨_, _, ⟨T56, L56, k56, n56⟩, -, X56, ⟨Lc56, hQ56, l56, y56, z56⟩, st56⟩ := X49.virtualBack hx (y := (⟨"com/example/taxodelta/taxodelta/taxonomy/IntList", "add", "(I)V"⟩ : MethodName)) (z := (⟨"com/example/taxodelta/taxodelta/taxonomy/IntList", "add", "(I)V"⟩ : MethodName)) hown (mvT hZ (hw _ (List.mem_of_getElem? (i := 20) rfl))) (mvT hZ (hw _ (List.mem_of_getElem? (i := 21) rfl))) (notFace_of_selects (args := #[]) (mvT hZ (hw _ (List.mem_of_getElem? (i := 23) rfl)))) (mvT hZ (hw _ (List.mem_of_getElem? (i := 23) rfl))) (mvT hZ (hw _ (List.mem_of_getElem? (i := 22) rfl))) (by decide) (backOf (W := 0) (rm_add_1 l Z a0 hw [] a36 p2 b40 k40 p1 T49.heap n0 Z55 f50 f51 f52 f53 f54 ge_a36 ge_b40 ne47) hZ (hw _ (List.mem_of_getElem? (i := 24) rfl)) (hw _ (List.mem_of_getElem? (i := 3) rfl)) (by decide) (by decide)) q56a q56c (g := (mkF m 38 #[.val (.int p0), .val (.int p1), .val (.int p2), .val (.int p3), .val (.int p4), .val (.int (2 : Int32)), .val (.ref a36), .unset] [(.int p2), (.ref a36)])) rfl (by rw [hml]; rfl) (Steps.refl _) (argsL := [(.int p2)]) (rest := []) (lenOf own_pd__28_I_29_V rfl) rfl (by show 2 * 0 + _ ≤ _; exact Nat.le_of_eq rfl) (hb hby at_38) (fun _ _ => ⟨rfl, rfl, (by decide : 2 + 0 ≤ _), (by decide : 4 + 0 ≤ _)⟩)
    dsimp only [Pt.U, Pt.locs, Pt.cells, Pt.slots] at X56 l56 y56 z56 st56 hQ56
    subst l56 y56 z56
    obtain ⟨rfl, Nq56, K56, f57, f58, f59, f60, f61⟩ := hQ56
    have N56 := Fr.app N49 Nq56
    refine own_Goes.tr st56 ?_
    have Z62 : n0 ≤ T56.heap.size := Nat.le_trans Z55 K56.1
    show own_Goes p.tables e below P (T56.setTop (mkF m 41 #[.val (.int p0), .val (.int p1), .val (.int p2), .val (.int p3), .val (.int p4), .val (.int (2 : Int32)), .val (.ref a36), .unset] []))
    refine own_Goes.st ?_ (fun _ k => XS.iload X56.here hx rfl (hb hby at_41) rfl k)
    show own_Goes p.tables e below P (T56.setTop (mkF m 43 #[.val (.int p0), .val (.int p1), .val (.int p2), .val (.int p3), .val (.int p4), .val (.int (2 : Int32)), .val (.ref a36), .unset] [(.int (2 : Int32))]))
    refine own_Goes.st ?_ (fun _ k => XS.iconst X56.here hx rfl (hb hby at_43) k)
    show own_Goes p.tables e below P (T56.setTop (mkF m 44 #[.val (.int p0), .val (.int p1), .val (.int p2), .val (.int p3), .val (.int p4), .val (.int (2 : Int32)), .val (.ref a36), .unset] [(.int (3 : Int32)), (.int (2 : Int32))]))
    refine own_Goes.st ?_ (fun _ k => XS.icmpYes X56.here hx rfl (pc0 := 44) (pc' := 53) rfl (hb hby at_44) rfl (tlt (by decide : (2 : Int32) < (3 : Int32))).1 (by decide) (by decide) k)
    show own_Goes p.tables e below P (T56.setTop (mkF m 53 #[.val (.int p0), .val (.int p1), .val (.int p2), .val (.int p3), .val (.int p4), .val (.int (2 : Int32)), .val (.ref a36), .unset] []))
    refine own_Goes.st ?_ (fun _ k => XS.iload X56.here hx rfl (hb hby at_53) rfl k)
    show own_Goes p.tables e below P (T56.setTop (mkF m 55 #[.val (.int p0), .val (.int p1), .val (.int p2), .val (.int p3), .val (.int p4), .val (.int (2 : Int32)), .val (.ref a36), .unset] [(.int (2 : Int32))]))
    refine own_Goes.st ?_ (fun _ k => XS.iconst X56.here hx rfl (hb hby at_55) k)
    show own_Goes p.tables e below P (T56.setTop (mkF m 56 #[.val (.int p0), .val (.int p1), .val (.int p2), .val (.int p3), .val (.int p4), .val (.int (2 : Int32)), .val (.ref a36), .unset] [(.int (4 : Int32)), (.int (2 : Int32))]))
    refine own_Goes.st ?_ (fun _ k => XS.icmpYes X56.here hx rfl (pc0 := 56) (pc' := 66) rfl (hb hby at_56) rfl (tlt (by decide : (2 : Int32) < (4 : Int32))).1 (by decide) (by decide) k)
    show own_Goes p.tables e below P (T56.setTop (mkF m 66 #[.val (.int p0), .val (.int p1), .val (.int p2), .val (.int p3), .val (.int p4), .val (.int (2 : Int32)), .val (.ref a36), .unset] []))
    refine own_Goes.st ?_ (fun _ k => XS.iload X56.here hx rfl (hb hby at_66) rfl k)
    show own_Goes p.tables e below P (T56.setTop (mkF m 68 #[.val (.int p0), .val (.int p1), .val (.int p2), .val (.int p3), .val (.int p4), .val (.int (2 : Int32)), .val (.ref a36), .unset] [(.int (2 : Int32))]))
    refine own_Goes.st ?_ (fun _ k => XS.ifYes X56.here hx rfl (pc0 := 68) (pc' := 77) rfl (hb hby at_68) rfl ((if0 _ _).trans (feq (by decide : ¬ ((2 : Int32) = (0 : Int32)))).2) (by decide) (by decide) k)
    show own_Goes p.tables e below P (T56.setTop (mkF m 77 #[.val (.int p0), .val (.int p1), .val (.int p2), .val (.int p3), .val (.int p4), .val (.int (2 : Int32)), .val (.ref a36), .unset] []))
    refine own_Goes.st ?_ (fun _ k => XS.iload X56.here hx rfl (hb hby at_77) rfl k)
    show own_Goes p.tables e below P (T56.setTop (mkF m 79 #[.val (.int p0), .val (.int p1), .val (.int p2), .val (.int p3), .val (.int p4), .val (.int (2 : Int32)), .val (.ref a36), .unset] [(.int (2 : Int32))]))
    refine own_Goes.st ?_ (fun _ k => XS.iconst X56.here hx rfl (hb hby at_79) k)
    show own_Goes p.tables e below P (T56.setTop (mkF m 80 #[.val (.int p0), .val (.int p1), .val (.int p2), .val (.int p3), .val (.int p4), .val (.int (2 : Int32)), .val (.ref a36), .unset] [(.int (1 : Int32)), (.int (2 : Int32))]))
    refine own_Goes.st ?_ (fun _ k => XS.icmpYes X56.here hx rfl (pc0 := 80) (pc' := 92) rfl (hb hby at_80) rfl (feq (by decide : ¬ ((2 : Int32) = (1 : Int32)))).2 (by decide) (by decide) k)
    show own_Goes p.tables e below P (T56.setTop (mkF m 92 #[.val (.int p0), .val (.int p1), .val (.int p2), .val (.int p3), .val (.int p4), .val (.int (2 : Int32)), .val (.ref a36), .unset] []))
    refine own_Goes.st ?_ (fun _ k => XS.iload X56.here hx rfl (hb hby at_92) rfl k)
    show own_Goes p.tables e below P (T56.setTop (mkF m 94 #[.val (.int p0), .val (.int p1), .val (.int p2), .val (.int p3), .val (.int p4), .val (.int (2 : Int32)), .val (.ref a36), .unset] [(.int (2 : Int32))]))
    refine own_Goes.st ?_ (fun _ k => XS.iconst X56.here hx rfl (hb hby at_94) k)
    show own_Goes p.tables e below P (T56.setTop (mkF m 95 #[.val (.int p0), .val (.int p1), .val (.int p2), .val (.int p3), .val (.int p4), .val (.int (2 : Int32)), .val (.ref a36), .unset] [(.int (2 : Int32)), (.int (2 : Int32))]))
    refine own_Goes.st ?_ (fun _ k => XS.icmpNo X56.here hx rfl (hb hby at_95) rfl (teq (by decide : (2 : Int32) = (2 : Int32))).2 k)
    show own_Goes p.tables e below P (T56.setTop (mkF m 98 #[.val (.int p0), .val (.int p1), .val (.int p2), .val (.int p3), .val (.int p4), .val (.int (2 : Int32)), .val (.ref a36), .unset] []))
    refine own_Goes.st ?_ (fun _ k => XS.sipush X56.here hx rfl (hb hby at_98) k)
    show own_Goes p.tables e below P (T56.setTop (mkF m 101 #[.val (.int p0), .val (.int p1), .val (.int p2), .val (.int p3), .val (.int p4), .val (.int (2 : Int32)), .val (.ref a36), .unset] [(.int (961 : Int32))]))
    refine own_Goes.st ?_ (fun _ k => XS.bipush X56.here hx rfl (hb hby at_101) k)
    show own_Goes p.tables e below P (T56.setTop (mkF m 103 #[.val (.int p0), .val (.int p1), .val (.int p2), .val (.int p3), .val (.int p4), .val (.int (2 : Int32)), .val (.ref a36), .unset] [(.int (31 : Int32)), (.int (961 : Int32))]))
    refine own_Goes.st ?_ (fun _ k => XS.iloadN X56.here hx rfl (hb hby at_103) rfl k)
    show own_Goes p.tables e below P (T56.setTop (mkF m 104 #[.val (.int p0), .val (.int p1), .val (.int p2), .val (.int p3), .val (.int p4), .val (.int (2 : Int32)), .val (.ref a36), .unset] [(.int p1), (.int (31 : Int32)), (.int (961 : Int32))]))
    refine own_Goes.st ?_ (fun _ k => XS.imul X56.here hx rfl (hb hby at_104) rfl k)
    show own_Goes p.tables e below P (T56.setTop (mkF m 105 #[.val (.int p0), .val (.int p1), .val (.int p2), .val (.int p3), .val (.int p4), .val (.int (2 : Int32)), .val (.ref a36), .unset] [(.int ((31 : Int32) * p1)), (.int (961 : Int32))]))
    refine own_Goes.st ?_ (fun _ k => XS.iadd X56.here hx rfl (hb hby at_105) rfl k)
    show own_Goes p.tables e below P (T56.setTop (mkF m 106 #[.val (.int p0), .val (.int p1), .val (.int p2), .val (.int p3), .val (.int p4), .val (.int (2 : Int32)), .val (.ref a36), .unset] [(.int ((961 : Int32) + ((31 : Int32) * p1)))]))
    refine own_Goes.st ?_ (fun _ k => XS.iloadN X56.here hx rfl (hb hby at_106) rfl k)
    show own_Goes p.tables e below P (T56.setTop (mkF m 107 #[.val (.int p0), .val (.int p1), .val (.int p2), .val (.int p3), .val (.int p4), .val (.int (2 : Int32)), .val (.ref a36), .unset] [(.int p2), (.int ((961 : Int32) + ((31 : Int32) * p1)))]))
    refine own_Goes.st ?_ (fun _ k => XS.iadd X56.here hx rfl (hb hby at_107) rfl k)
    show own_Goes p.tables e below P (T56.setTop (mkF m 108 #[.val (.int p0), .val (.int p1), .val (.int p2), .val (.int p3), .val (.int p4), .val (.int (2 : Int32)), .val (.ref a36), .unset] [(.int (((961 : Int32) + ((31 : Int32) * p1)) + p2))]))
    refine own_Goes.st ?_ (fun _ k => XS.istore X56.here hx rfl (hb hby at_108) rfl (l' := #[.val (.int p0), .val (.int p1), .val (.int p2), .val (.int p3), .val (.int p4), .val (.int (2 : Int32)), .val (.ref a36), .val (.int (((961 : Int32) + ((31 : Int32) * p1)) + p2))]) rfl k)
    show own_Goes p.tables e below P (T56.setTop (mkF m 110 #[.val (.int p0), .val (.int p1), .val (.int p2), .val (.int p3), .val (.int p4), .val (.int (2 : Int32)), .val (.ref a36), .val (.int (((961 : Int32) + ((31 : Int32) * p1)) + p2))] []))
    refine own_Goes.st ?_ (fun _ k => XS.goto X56.here hx rfl (pc0 := 110) (pc' := 164) rfl (hb hby at_110) (by decide) (by decide) k)
    show own_Goes p.tables e below P (T56.setTop (mkF m 164 #[.val (.int p0), .val (.int p1), .val (.int p2), .val (.int p3), .val (.int p4), .val (.int (2 : Int32)), .val (.ref a36), .val (.int (((961 : Int32) + ((31 : Int32) * p1)) + p2))] []))
    refine own_Goes.st ?_ (fun _ k => XS.aload X56.here hx rfl (hb hby at_164) rfl rfl k)
    show own_Goes p.tables e below P (T56.setTop (mkF m 166 #[.val (.int p0), .val (.int p1), .val (.int p2), .val (.int p3), .val (.int p4), .val (.int (2 : Int32)), .val (.ref a36), .val (.int (((961 : Int32) + ((31 : Int32) * p1)) + p2))] [(.ref a36)]))
    obtain ⟨cq63, kq63, q63a, q63b, q63c⟩ := isOf hZ rfl f57
    obtain ⟨_, _, ⟨T63, L63, k63, n63⟩, -, X63, ⟨Lc63, hQ63, l63, y63, z63⟩, st63⟩ := X56.virtualBack hx (y := (⟨"com/example/taxodelta/taxodelta/taxonomy/IntList", "hashCode", "()I"⟩ : MethodName)) (z := (⟨"com/example/taxodelta/taxodelta/taxonomy/IntList", "hashCode", "()I"⟩ : MethodName)) hown (mvT hZ (hw _ (List.mem_of_getElem? (i := 13) rfl))) (mvT hZ (hw _ (List.mem_of_getElem? (i := 14) rfl))) (notFace_of_selects (args := #[]) (mvT hZ (hw _ (List.mem_of_getElem? (i := 16) rfl)))) (mvT hZ (hw _ (List.mem_of_getElem? (i := 16) rfl))) (mvT hZ (hw _ (List.mem_of_getElem? (i := 15) rfl))) (by decide) (backOf (W := 0) (rm_hash_2 l Z a0 hw [] a36 b40 k40 p1 p2 T56.heap n0 Z62 f58 f59 f60) hZ (hw _ (List.mem_of_getElem? (i := 17) rfl)) (hw _ (List.mem_of_getElem? (i := 3) rfl)) (by decide) (by decide)) q63a q63c (g := (mkF m 166 #[.val (.int p0), .val (.int p1), .val (.int p2), .val (.int p3), .val (.int p4), .val (.int (2 : Int32)), .val (.ref a36), .val (.int (((961 : Int32) + ((31 : Int32) * p1)) + p2))] [(.ref a36)])) rfl (by rw [hml]; rfl) (Steps.refl _) (argsL := []) (rest := []) (lenOf own_pd__28__29_I rfl) rfl (by show 2 * 0 + _ ≤ _; exact Nat.le_of_eq rfl) (hb hby at_166) (fun _ _ => ⟨rfl, rfl, (by decide : 2 + 0 ≤ _), (by decide : 4 + 0 ≤ _)⟩)
    dsimp only [Pt.U, Pt.locs, Pt.cells, Pt.slots] at X63 l63 y63 z63 st63 hQ63
    subst l63 y63 z63
    obtain ⟨rfl, Nq63, e63⟩ := hQ63
    have N63 := Fr.app N56 Nq63
    refine own_Goes.tr st63 ?_
    show own_Goes p.tables e below P (T63.setTop (mkF m 169 #[.val (.int p0), .val (.int p1), .val (.int p2), .val (.int p3), .val (.int p4), .val (.int (2 : Int32)), .val (.ref a36), .val (.int (((961 : Int32) + ((31 : Int32) * p1)) + p2))] [(.int ((31 : Int32) * ((31 : Int32) + p1) + p2))]))
    refine own_Goes.st ?_ (fun _ k => XS.iload X63.here hx rfl (hb hby at_169) rfl k)
    show own_Goes p.tables e below P (T63.setTop (mkF m 171 #[.val (.int p0), .val (.int p1), .val (.int p2), .val (.int p3), .val (.int p4), .val (.int (2 : Int32)), .val (.ref a36), .val (.int (((961 : Int32) + ((31 : Int32) * p1)) + p2))] [(.int (((961 : Int32) + ((31 : Int32) * p1)) + p2)), (.int ((31 : Int32) * ((31 : Int32) + p1) + p2))]))
    refine own_Goes.st ?_ (fun _ k => XS.icmpNo X63.here hx rfl (hb hby at_171) rfl (teq (own_h2 p1 p2)).2 k)
    show own_Goes p.tables e below P (T63.setTop (mkF m 174 #[.val (.int p0), .val (.int p1), .val (.int p2), .val (.int p3), .val (.int p4), .val (.int (2 : Int32)), .val (.ref a36), .val (.int (((961 : Int32) + ((31 : Int32) * p1)) + p2))] []))
    refine own_Goes.st ?_ (fun _ k => XS.iconst X63.here hx rfl (hb hby at_174) k)
    show own_Goes p.tables e below P (T63.setTop (mkF m 175 #[.val (.int p0), .val (.int p1), .val (.int p2), .val (.int p3), .val (.int p4), .val (.int (2 : Int32)), .val (.ref a36), .val (.int (((961 : Int32) + ((31 : Int32) * p1)) + p2))] [(.int (1 : Int32))]))
    refine own_Goes.st ?_ (fun _ k => XS.goto X63.here hx rfl (pc0 := 175) (pc' := 179) rfl (hb hby at_175) (by decide) (by decide) k)
    show own_Goes p.tables e below P (T63.setTop (mkF m 179 #[.val (.int p0), .val (.int p1), .val (.int p2), .val (.int p3), .val (.int p4), .val (.int (2 : Int32)), .val (.ref a36), .val (.int (((961 : Int32) + ((31 : Int32) * p1)) + p2))] [(.int (1 : Int32))]))
    obtain ⟨fs, hr, hrun, hended, hW, hsame⟩ := X63.leave (v := some (.int (1 : Int32))) (fun h => by rw [Bd.returns] at h; cases h)
    exact own_Goes.fin _ _ (retOut X63 hx (t := .boolean) Bd.returns rfl (Or.inl ⟨rfl, Or.inr (Or.inl rfl), _, rfl⟩) (hb hby at_179) hr) (hPP _ _ ⟨hrun, hended, _, _, rfl, (by show Q_law n0 _ _; exact ⟨rfl, N63⟩), ⟨_, rfl⟩, hW, hsame.mono (by decide) (by decide)⟩)
  · skip
    show own_Goes p.tables e below P (s₁.setTop (mkF m 8 #[.val (.int p0), .val (.int p1), .val (.int p2), .val (.int p3), .val (.int p4), .val (.int (3 : Int32)), .unset, .unset] []))
    obtain ⟨T64, h64, X64, e64, E64, A64, D64, -, st64⟩ := newO X0 hx hZ hown (hw _ (List.mem_of_getElem? (i := 1) rfl)) (hw _ (List.mem_of_getElem? (i := 2) rfl)) (hw _ (List.mem_of_getElem? (i := 3) rfl)) e0 (g := (mkF m 8 #[.val (.int p0), .val (.int p1), .val (.int p2), .val (.int p3), .val (.int p4), .val (.int (3 : Int32)), .unset, .unset] [])) rfl (hb hby at_8) (by decide) (by decide)
    obtain ⟨a64, g64⟩ : ∃ z, z = h0.size := ⟨_, rfl⟩
    rw [← g64] at A64 D64 st64
    have ge_a64 : n0 ≤ a64 := Nat.le_trans Z0 (Nat.le_of_eq g64.symm)
    refine own_Goes.st ?_ st64
    have Z65 : n0 ≤ h64.size := Nat.le_trans Z0 E64.1
    have F66 : Fld Z h64 a64 "com/example/taxodelta/taxodelta/taxonomy/IntList" "values" "[I" .null := D64 (Or.inl (hw _ (List.mem_of_getElem? (i := 12) rfl))) (ty := (.array .int)) (by decide)
    have F67 : Fld Z h64 a64 "com/example/taxodelta/taxodelta/taxonomy/IntList" "size" "I" (.int (0 : Int32)) := D64 (Or.inl (hw _ (List.mem_of_getElem? (i := 19) rfl))) (ty := .int) (by decide)
    show own_Goes p.tables e below P (T64.setTop (mkF m 11 #[.val (.int p0), .val (.int p1), .val (.int p2), .val (.int p3), .val (.int p4), .val (.int (3 : Int32)), .unset, .unset] [(.ref a64)]))
    refine own_Goes.st ?_ (fun _ k => XS.dup X64.here hx rfl (hb hby at_11) rfl rfl k)
    show own_Goes p.tables e below P (T64.setTop (mkF m 12 #[.val (.int p0), .val (.int p1), .val (.int p2), .val (.int p3), .val (.int p4), .val (.int (3 : Int32)), .unset, .unset] [(.ref a64), (.ref a64)]))
    obtain ⟨_, _, ⟨T68, L68, k68, n68⟩, -, X68, ⟨Lc68, hQ68, l68, y68, z68⟩, st68⟩ := X64.specialBack hx (y := (⟨"com/example/taxodelta/taxodelta/taxonomy/IntList", "<init>", "()V"⟩ : MethodName)) rfl hown (mvT hZ (hw _ (List.mem_of_getElem? (i := 4) rfl))) (mvT hZ (hw _ (List.mem_of_getElem? (i := 5) rfl))) (mvT hZ (hw _ (List.mem_of_getElem? (i := 6) rfl))) (by decide) (backOf (W := 1) (rm_ctor l Z a0 hw [] a64 .null h64 n0 Z65 A64 F66 F67 ge_a64) hZ (hw _ (List.mem_of_getElem? (i := 6) rfl)) (hw _ (List.mem_of_getElem? (i := 3) rfl)) (by decide) (by decide)) (g := (mkF m 12 #[.val (.int p0), .val (.int p1), .val (.int p2), .val (.int p3), .val (.int p4), .val (.int (3 : Int32)), .unset, .unset] [(.ref a64), (.ref a64)])) rfl (by rw [hml]; rfl) (Steps.refl _) (a := a64) (argsL := []) (rest := [(.ref a64)]) (lenOf own_pd__28__29_V rfl) rfl (by show 2 * 0 + _ ≤ _; exact Nat.le_of_eq rfl) (hb hby at_12) (fun _ _ => ⟨rfl, e64, (by decide : 1 + 1 ≤ _), (by decide : 2 + 2 ≤ _)⟩)
    dsimp only [Pt.U, Pt.locs, Pt.cells, Pt.slots] at X68 l68 y68 z68 st68 hQ68
    subst l68 y68 z68
    obtain ⟨b68, k68, rfl, Nq68, K68, f69, f70, f71, f72, f73, f74⟩ := hQ68
    have N68 := Fr.app N0 Nq68
    refine own_Goes.tr st68 ?_
    have ne75 : a64 ≠ b68 := Nat.ne_of_lt (Nat.lt_of_lt_of_le A64.lt f72)
    have ge_b68 : n0 ≤ b68 := Nat.le_trans Z65 f72
    have Z76 : n0 ≤ T68.heap.size := Nat.le_trans Z65 K68.1
    show own_Goes p.tables e below P (T68.setTop (mkF m 15 #[.val (.int p0), .val (.int p1), .val (.int p2), .val (.int p3), .val (.int p4), .val (.int (3 : Int32)), .unset, .unset] [(.ref a64)]))
    refine own_Goes.st ?_ (fun _ k => XS.astore X68.here hx rfl (hb hby at_15) rfl rfl (l' := #[.val (.int p0), .val (.int p1), .val (.int p2), .val (.int p3), .val (.int p4), .val (.int (3 : Int32)), .val (.ref a64), .unset]) rfl k)
    show own_Goes p.tables e below P (T68.setTop (mkF m 17 #[.val (.int p0), .val (.int p1), .val (.int p2), .val (.int p3), .val (.int p4), .val (.int (3 : Int32)), .val (.ref a64), .unset] []))
    refine own_Goes.st ?_ (fun _ k => XS.iload X68.here hx rfl (hb hby at_17) rfl k)
    show own_Goes p.tables e below P (T68.setTop (mkF m 19 #[.val (.int p0), .val (.int p1), .val (.int p2), .val (.int p3), .val (.int p4), .val (.int (3 : Int32)), .val (.ref a64), .unset] [(.int (3 : Int32))]))
    refine own_Goes.st ?_ (fun _ k => XS.iconst X68.here hx rfl (hb hby at_19) k)
    show own_Goes p.tables e below P (T68.setTop (mkF m 20 #[.val (.int p0), .val (.int p1), .val (.int p2), .val (.int p3), .val (.int p4), .val (.int (3 : Int32)), .val (.ref a64), .unset] [(.int (1 : Int32)), (.int (3 : Int32))]))
    refine own_Goes.st ?_ (fun _ k => XS.icmpNo X68.here hx rfl (hb hby at_20) rfl (flt (by decide : ¬ ((3 : Int32) < (1 : Int32)))).1 k)
    show own_Goes p.tables e below P (T68.setTop (mkF m 23 #[.val (.int p0), .val (.int p1), .val (.int p2), .val (.int p3), .val (.int p4), .val (.int (3 : Int32)), .val (.ref a64), .unset] []))
    refine own_Goes.st ?_ (fun _ k => XS.aload X68.here hx rfl (hb hby at_23) rfl rfl k)
    show own_Goes p.tables e below P (T68.setTop (mkF m 25 #[.val (.int p0), .val (.int p1), .val (.int p2), .val (.int p3), .val (.int p4), .val (.int (3 : Int32)), .val (.ref a64), .unset] [(.ref a64)]))
    refine own_Goes.st ?_ (fun _ k => XS.iloadN X68.here hx rfl (hb hby at_25) rfl k)
    show own_Goes p.tables e below P (T68.setTop (mkF m 26 #[.val (.int p0), .val (.int p1), .val (.int p2), .val (.int p3), .val (.int p4), .val (.int (3 : Int32)), .val (.ref a64), .unset] [(.int p1), (.ref a64)]))
    obtain ⟨cq77, kq77, q77a, q77b, q77c⟩ := isOf hZ rfl f69
    obtain ⟨_, _, ⟨T77, L77, k77, n77⟩, -, X77, ⟨Lc77, hQ77, l77, y77, z77⟩, st77⟩ := X68.virtualBack hx (y := (⟨"com/example/taxodelta/taxodelta/taxonomy/IntList", "add", "(I)V"⟩ : MethodName)) (z := (⟨"com/example/taxodelta/taxodelta/taxonomy/IntList", "add", "(I)V"⟩ : MethodName)) hown (mvT hZ (hw _ (List.mem_of_getElem? (i := 20) rfl))) (mvT hZ (hw _ (List.mem_of_getElem? (i := 21) rfl))) (notFace_of_selects (args := #[]) (mvT hZ (hw _ (List.mem_of_getElem? (i := 23) rfl)))) (mvT hZ (hw _ (List.mem_of_getElem? (i := 23) rfl))) (mvT hZ (hw _ (List.mem_of_getElem? (i := 22) rfl))) (by decide) (backOf (W := 0) (rm_add_0 l Z a0 hw [] a64 p1 b68 k68 T68.heap n0 Z76 f69 f70 f71 f73 f74 ge_a64 ge_b68 ne75) hZ (hw _ (List.mem_of_getElem? (i := 24) rfl)) (hw _ (List.mem_of_getElem? (i := 3) rfl)) (by decide) (by decide)) q77a q77c (g := (mkF m 26 #[.val (.int p0), .val (.int p1), .val (.int p2), .val (.int p3), .val (.int p4), .val (.int (3 : Int32)), .val (.ref a64), .unset] [(.int p1), (.ref a64)])) rfl (by rw [hml]; rfl) (Steps.refl _) (argsL := [(.int p1)]) (rest := []) (lenOf own_pd__28_I_29_V rfl) rfl (by show 2 * 0 + _ ≤ _; exact Nat.le_of_eq rfl) (hb hby at_26) (fun _ _ => ⟨rfl, rfl, (by decide : 2 + 0 ≤ _), (by decide : 4 + 0 ≤ _)⟩)
    dsimp only [Pt.U, Pt.locs, Pt.cells, Pt.slots] at X77 l77 y77 z77 st77 hQ77
    subst l77 y77 z77
    obtain ⟨rfl, Nq77, K77, f78, f79, f80, f81, f82⟩ := hQ77
    have N77 := Fr.app N68 Nq77
    refine own_Goes.tr st77 ?_
    have Z83 : n0 ≤ T77.heap.size := Nat.le_trans Z76 K77.1
    show own_Goes p.tables e below P (T77.setTop (mkF m 29 #[.val (.int p0), .val (.int p1), .val (.int p2), .val (.int p3), .val (.int p4), .val (.int (3 : Int32)), .val (.ref a64), .unset] []))
    refine own_Goes.st ?_ (fun _ k => XS.iload X77.here hx rfl (hb hby at_29) rfl k)
    show own_Goes p.tables e below P (T77.setTop (mkF m 31 #[.val (.int p0), .val (.int p1), .val (.int p2), .val (.int p3), .val (.int p4), .val (.int (3 : Int32)), .val (.ref a64), .unset] [(.int (3 : Int32))]))
    refine own_Goes.st ?_ (fun _ k => XS.iconst X77.here hx rfl (hb hby at_31) k)
    show own_Goes p.tables e below P (T77.setTop (mkF m 32 #[.val (.int p0), .val (.int p1), .val (.int p2), .val (.int p3), .val (.int p4), .val (.int (3 : Int32)), .val (.ref a64), .unset] [(.int (2 : Int32)), (.int (3 : Int32))]))
    refine own_Goes.st ?_ (fun _ k => XS.icmpNo X77.here hx rfl (hb hby at_32) rfl (flt (by decide : ¬ ((3 : Int32) < (2 : Int32)))).1 k)
    show own_Goes p.tables e below P (T77.setTop (mkF m 35 #[.val (.int p0), .val (.int p1), .val (.int p2), .val (.int p3), .val (.int p4), .val (.int (3 : Int32)), .val (.ref a64), .unset] []))
    refine own_Goes.st ?_ (fun _ k => XS.aload X77.here hx rfl (hb hby at_35) rfl rfl k)
    show own_Goes p.tables e below P (T77.setTop (mkF m 37 #[.val (.int p0), .val (.int p1), .val (.int p2), .val (.int p3), .val (.int p4), .val (.int (3 : Int32)), .val (.ref a64), .unset] [(.ref a64)]))
    refine own_Goes.st ?_ (fun _ k => XS.iloadN X77.here hx rfl (hb hby at_37) rfl k)
    show own_Goes p.tables e below P (T77.setTop (mkF m 38 #[.val (.int p0), .val (.int p1), .val (.int p2), .val (.int p3), .val (.int p4), .val (.int (3 : Int32)), .val (.ref a64), .unset] [(.int p2), (.ref a64)]))
    obtain ⟨cq84, kq84, q84a, q84b, q84c⟩ := isOf hZ rfl f78
    obtain ⟨_, _, ⟨T84, L84, k84, n84⟩, -, X84, ⟨Lc84, hQ84, l84, y84, z84⟩, st84⟩ := X77.virtualBack hx (y := (⟨"com/example/taxodelta/taxodelta/taxonomy/IntList", "add", "(I)V"⟩ : MethodName)) (z := (⟨"com/example/taxodelta/taxodelta/taxonomy/IntList", "add", "(I)V"⟩ : MethodName)) hown (mvT hZ (hw _ (List.mem_of_getElem? (i := 20) rfl))) (mvT hZ (hw _ (List.mem_of_getElem? (i := 21) rfl))) (notFace_of_selects (args := #[]) (mvT hZ (hw _ (List.mem_of_getElem? (i := 23) rfl)))) (mvT hZ (hw _ (List.mem_of_getElem? (i := 23) rfl))) (mvT hZ (hw _ (List.mem_of_getElem? (i := 22) rfl))) (by decide) (backOf (W := 0) (rm_add_1 l Z a0 hw [] a64 p2 b68 k68 p1 T77.heap n0 Z83 f78 f79 f80 f81 f82 ge_a64 ge_b68 ne75) hZ (hw _ (List.mem_of_getElem? (i := 24) rfl)) (hw _ (List.mem_of_getElem? (i := 3) rfl)) (by decide) (by decide)) q84a q84c (g := (mkF m 38 #[.val (.int p0), .val (.int p1), .val (.int p2), .val (.int p3), .val (.int p4), .val (.int (3 : Int32)), .val (.ref a64), .unset] [(.int p2), (.ref a64)])) rfl (by rw [hml]; rfl) (Steps.refl _) (argsL := [(.int p2)]) (rest := []) (lenOf own_pd__28_I_29_V rfl) rfl (by show 2 * 0 + _ ≤ _; exact Nat.le_of_eq rfl) (hb hby at_38) (fun _ _ => ⟨rfl, rfl, (by decide : 2 + 0 ≤ _), (by decide : 4 + 0 ≤ _)⟩)
    dsimp only [Pt.U, Pt.locs, Pt.cells, Pt.slots] at X84 l84 y84 z84 st84 hQ84
    subst l84 y84 z84
    obtain ⟨rfl, Nq84, K84, f85, f86, f87, f88, f89⟩ := hQ84
    have N84 := Fr.app N77 Nq84
    refine own_Goes.tr st84 ?_
    have Z90 : n0 ≤ T84.heap.size := Nat.le_trans Z83 K84.1
    show own_Goes p.tables e below P (T84.setTop (mkF m 41 #[.val (.int p0), .val (.int p1), .val (.int p2), .val (.int p3), .val (.int p4), .val (.int (3 : Int32)), .val (.ref a64), .unset] []))
    refine own_Goes.st ?_ (fun _ k => XS.iload X84.here hx rfl (hb hby at_41) rfl k)
    show own_Goes p.tables e below P (T84.setTop (mkF m 43 #[.val (.int p0), .val (.int p1), .val (.int p2), .val (.int p3), .val (.int p4), .val (.int (3 : Int32)), .val (.ref a64), .unset] [(.int (3 : Int32))]))
    refine own_Goes.st ?_ (fun _ k => XS.iconst X84.here hx rfl (hb hby at_43) k)
    show own_Goes p.tables e below P (T84.setTop (mkF m 44 #[.val (.int p0), .val (.int p1), .val (.int p2), .val (.int p3), .val (.int p4), .val (.int (3 : Int32)), .val (.ref a64), .unset] [(.int (3 : Int32)), (.int (3 : Int32))]))
    refine own_Goes.st ?_ (fun _ k => XS.icmpNo X84.here hx rfl (hb hby at_44) rfl (flt (by decide : ¬ ((3 : Int32) < (3 : Int32)))).1 k)
    show own_Goes p.tables e below P (T84.setTop (mkF m 47 #[.val (.int p0), .val (.int p1), .val (.int p2), .val (.int p3), .val (.int p4), .val (.int (3 : Int32)), .val (.ref a64), .unset] []))
    refine own_Goes.st ?_ (fun _ k => XS.aload X84.here hx rfl (hb hby at_47) rfl rfl k)
    show own_Goes p.tables e below P (T84.setTop (mkF m 49 #[.val (.int p0), .val (.int p1), .val (.int p2), .val (.int p3), .val (.int p4), .val (.int (3 : Int32)), .val (.ref a64), .unset] [(.ref a64)]))
    refine own_Goes.st ?_ (fun _ k => XS.iloadN X84.here hx rfl (hb hby at_49) rfl k)
    show own_Goes p.tables e below P (T84.setTop (mkF m 50 #[.val (.int p0), .val (.int p1), .val (.int p2), .val (.int p3), .val (.int p4), .val (.int (3 : Int32)), .val (.ref a64), .unset] [(.int p3), (.ref a64)]))
    obtain ⟨cq91, kq91, q91a, q91b, q91c⟩ := isOf hZ rfl f85
    obtain ⟨_, _, ⟨T91, L91, k91, n91⟩, -, X91, ⟨Lc91, hQ91, l91, y91, z91⟩, st91⟩ := X84.virtualBack hx (y := (⟨"com/example/taxodelta/taxodelta/taxonomy/IntList", "add", "(I)V"⟩ : MethodName)) (z := (⟨"com/example/taxodelta/taxodelta/taxonomy/IntList", "add", "(I)V"⟩ : MethodName)) hown (mvT hZ (hw _ (List.mem_of_getElem? (i := 20) rfl))) (mvT hZ (hw _ (List.mem_of_getElem? (i := 21) rfl))) (notFace_of_selects (args := #[]) (mvT hZ (hw _ (List.mem_of_getElem? (i := 23) rfl)))) (mvT hZ (hw _ (List.mem_of_getElem? (i := 23) rfl))) (mvT hZ (hw _ (List.mem_of_getElem? (i := 22) rfl))) (by decide) (backOf (W := 0) (rm_add_2 l Z a0 hw [] a64 p3 b68 k68 p1 p2 T84.heap n0 Z90 f85 f86 f87 f88 f89 ge_a64 ge_b68 ne75) hZ (hw _ (List.mem_of_getElem? (i := 24) rfl)) (hw _ (List.mem_of_getElem? (i := 3) rfl)) (by decide) (by decide)) q91a q91c (g := (mkF m 50 #[.val (.int p0), .val (.int p1), .val (.int p2), .val (.int p3), .val (.int p4), .val (.int (3 : Int32)), .val (.ref a64), .unset] [(.int p3), (.ref a64)])) rfl (by rw [hml]; rfl) (Steps.refl _) (argsL := [(.int p3)]) (rest := []) (lenOf own_pd__28_I_29_V rfl) rfl (by show 2 * 0 + _ ≤ _; exact Nat.le_of_eq rfl) (hb hby at_50) (fun _ _ => ⟨rfl, rfl, (by decide : 2 + 1 ≤ _), (by decide : 4 + 4 ≤ _)⟩)
    dsimp only [Pt.U, Pt.locs, Pt.cells, Pt.slots] at X91 l91 y91 z91 st91 hQ91
    subst l91 y91 z91
    obtain ⟨b291, k291, rfl, Nq91, K91, f92, f93, f94, f95, f96, f97⟩ := hQ91
    have N91 := Fr.app N84 Nq91
    refine own_Goes.tr st91 ?_
    have ne98 : a64 ≠ b291 := Nat.ne_of_lt (Nat.lt_of_lt_of_le f85.lt f95)
    have ne99 : b68 ≠ b291 := Nat.ne_of_lt (Nat.lt_of_lt_of_le f89.lt f95)
    have ge_b291 : n0 ≤ b291 := Nat.le_trans Z90 f95
    have Z100 : n0 ≤ T91.heap.size := Nat.le_trans Z90 K91.1
    show own_Goes p.tables e below P (T91.setTop (mkF m 53 #[.val (.int p0), .val (.int p1), .val (.int p2), .val (.int p3), .val (.int p4), .val (.int (3 : Int32)), .val (.ref a64), .unset] []))
    refine own_Goes.st ?_ (fun _ k => XS.iload X91.here hx rfl (hb hby at_53) rfl k)
    show own_Goes p.tables e below P (T91.setTop (mkF m 55 #[.val (.int p0), .val (.int p1), .val (.int p2), .val (.int p3), .val (.int p4), .val (.int (3 : Int32)), .val (.ref a64), .unset] [(.int (3 : Int32))]))
    refine own_Goes.st ?_ (fun _ k => XS.iconst X91.here hx rfl (hb hby at_55) k)
    show own_Goes p.tables e below P (T91.setTop (mkF m 56 #[.val (.int p0), .val (.int p1), .val (.int p2), .val (.int p3), .val (.int p4), .val (.int (3 : Int32)), .val (.ref a64), .unset] [(.int (4 : Int32)), (.int (3 : Int32))]))
    refine own_Goes.st ?_ (fun _ k => XS.icmpYes X91.here hx rfl (pc0 := 56) (pc' := 66) rfl (hb hby at_56) rfl (tlt (by decide : (3 : Int32) < (4 : Int32))).1 (by decide) (by decide) k)
    show own_Goes p.tables e below P (T91.setTop (mkF m 66 #[.val (.int p0), .val (.int p1), .val (.int p2), .val (.int p3), .val (.int p4), .val (.int (3 : Int32)), .val (.ref a64), .unset] []))
    refine own_Goes.st ?_ (fun _ k => XS.iload X91.here hx rfl (hb hby at_66) rfl k)
    show own_Goes p.tables e below P (T91.setTop (mkF m 68 #[.val (.int p0), .val (.int p1), .val (.int p2), .val (.int p3), .val (.int p4), .val (.int (3 : Int32)), .val (.ref a64), .unset] [(.int (3 : Int32))]))
    refine own_Goes.st ?_ (fun _ k => XS.ifYes X91.here hx rfl (pc0 := 68) (pc' := 77) rfl (hb hby at_68) rfl ((if0 _ _).trans (feq (by decide : ¬ ((3 : Int32) = (0 : Int32)))).2) (by decide) (by decide) k)
    show own_Goes p.tables e below P (T91.setTop (mkF m 77 #[.val (.int p0), .val (.int p1), .val (.int p2), .val (.int p3), .val (.int p4), .val (.int (3 : Int32)), .val (.ref a64), .unset] []))
    refine own_Goes.st ?_ (fun _ k => XS.iload X91.here hx rfl (hb hby at_77) rfl k)
    show own_Goes p.tables e below P (T91.setTop (mkF m 79 #[.val (.int p0), .val (.int p1), .val (.int p2), .val (.int p3), .val (.int p4), .val (.int (3 : Int32)), .val (.ref a64), .unset] [(.int (3 : Int32))]))
    refine own_Goes.st ?_ (fun _ k => XS.iconst X91.here hx rfl (hb hby at_79) k)
    show own_Goes p.tables e below P (T91.setTop (mkF m 80 #[.val (.int p0), .val (.int p1), .val (.int p2), .val (.int p3), .val (.int p4), .val (.int (3 : Int32)), .val (.ref a64), .unset] [(.int (1 : Int32)), (.int (3 : Int32))]))
    refine own_Goes.st ?_ (fun _ k => XS.icmpYes X91.here hx rfl (pc0 := 80) (pc' := 92) rfl (hb hby at_80) rfl (feq (by decide : ¬ ((3 : Int32) = (1 : Int32)))).2 (by decide) (by decide) k)
    show own_Goes p.tables e below P (T91.setTop (mkF m 92 #[.val (.int p0), .val (.int p1), .val (.int p2), .val (.int p3), .val (.int p4), .val (.int (3 : Int32)), .val (.ref a64), .unset] []))
    refine own_Goes.st ?_ (fun _ k => XS.iload X91.here hx rfl (hb hby at_92) rfl k)
    show own_Goes p.tables e below P (T91.setTop (mkF m 94 #[.val (.int p0), .val (.int p1), .val (.int p2), .val (.int p3), .val (.int p4), .val (.int (3 : Int32)), .val (.ref a64), .unset] [(.int (3 : Int32))]))
    refine own_Goes.st ?_ (fun _ k => XS.iconst X91.here hx rfl (hb hby at_94) k)
    show own_Goes p.tables e below P (T91.setTop (mkF m 95 #[.val (.int p0), .val (.int p1), .val (.int p2), .val (.int p3), .val (.int p4), .val (.int (3 : Int32)), .val (.ref a64), .unset] [(.int (2 : Int32)), (.int (3 : Int32))]))
    refine own_Goes.st ?_ (fun _ k => XS.icmpYes X91.here hx rfl (pc0 := 95) (pc' := 113) rfl (hb hby at_95) rfl (feq (by decide : ¬ ((3 : Int32) = (2 : Int32)))).2 (by decide) (by decide) k)
    show own_Goes p.tables e below P (T91.setTop (mkF m 113 #[.val (.int p0), .val (.int p1), .val (.int p2), .val (.int p3), .val (.int p4), .val (.int (3 : Int32)), .val (.ref a64), .unset] []))
    refine own_Goes.st ?_ (fun _ k => XS.iload X91.here hx rfl (hb hby at_113) rfl k)
    show own_Goes p.tables e below P (T91.setTop (mkF m 115 #[.val (.int p0), .val (.int p1), .val (.int p2), .val (.int p3), .val (.int p4), .val (.int (3 : Int32)), .val (.ref a64), .unset] [(.int (3 : Int32))]))
    refine own_Goes.st ?_ (fun _ k => XS.iconst X91.here hx rfl (hb hby at_115) k)
    show own_Goes p.tables e below P (T91.setTop (mkF m 116 #[.val (.int p0), .val (.int p1), .val (.int p2), .val (.int p3), .val (.int p4), .val (.int (3 : Int32)), .val (.ref a64), .unset] [(.int (3 : Int32)), (.int (3 : Int32))]))
    refine own_Goes.st ?_ (fun _ k => XS.icmpNo X91.here hx rfl (hb hby at_116) rfl (teq (by decide : (3 : Int32) = (3 : Int32))).2 k)
    show own_Goes p.tables e below P (T91.setTop (mkF m 119 #[.val (.int p0), .val (.int p1), .val (.int p2), .val (.int p3), .val (.int p4), .val (.int (3 : Int32)), .val (.ref a64), .unset] []))
    refine own_Goes.st ?_ (fun _ k => XS.sipush X91.here hx rfl (hb hby at_119) k)
    show own_Goes p.tables e below P (T91.setTop (mkF m 122 #[.val (.int p0), .val (.int p1), .val (.int p2), .val (.int p3), .val (.int p4), .val (.int (3 : Int32)), .val (.ref a64), .unset] [(.int (29791 : Int32))]))
    refine own_Goes.st ?_ (fun _ k => XS.sipush X91.here hx rfl (hb hby at_122) k)
    show own_Goes p.tables e below P (T91.setTop (mkF m 125 #[.val (.int p0), .val (.int p1), .val (.int p2), .val (.int p3), .val (.int p4), .val (.int (3 : Int32)), .val (.ref a64), .unset] [(.int (961 : Int32)), (.int (29791 : Int32))]))
    refine own_Goes.st ?_ (fun _ k => XS.iloadN X91.here hx rfl (hb hby at_125) rfl k)
    show own_Goes p.tables e below P (T91.setTop (mkF m 126 #[.val (.int p0), .val (.int p1), .val (.int p2), .val (.int p3), .val (.int p4), .val (.int (3 : Int32)), .val (.ref a64), .unset] [(.int p1), (.int (961 : Int32)), (.int (29791 : Int32))]))
    refine own_Goes.st ?_ (fun _ k => XS.imul X91.here hx rfl (hb hby at_126) rfl k)
    show own_Goes p.tables e below P (T91.setTop (mkF m 127 #[.val (.int p0), .val (.int p1), .val (.int p2), .val (.int p3), .val (.int p4), .val (.int (3 : Int32)), .val (.ref a64), .unset] [(.int ((961 : Int32) * p1)), (.int (29791 : Int32))]))
    refine own_Goes.st ?_ (fun _ k => XS.iadd X91.here hx rfl (hb hby at_127) rfl k)
    show own_Goes p.tables e below P (T91.setTop (mkF m 128 #[.val (.int p0), .val (.int p1), .val (.int p2), .val (.int p3), .val (.int p4), .val (.int (3 : Int32)), .val (.ref a64), .unset] [(.int ((29791 : Int32) + ((961 : Int32) * p1)))]))
    refine own_Goes.st ?_ (fun _ k => XS.bipush X91.here hx rfl (hb hby at_128) k)
    show own_Goes p.tables e below P (T91.setTop (mkF m 130 #[.val (.int p0), .val (.int p1), .val (.int p2), .val (.int p3), .val (.int p4), .val (.int (3 : Int32)), .val (.ref a64), .unset] [(.int (31 : Int32)), (.int ((29791 : Int32) + ((961 : Int32) * p1)))]))
    refine own_Goes.st ?_ (fun _ k => XS.iloadN X91.here hx rfl (hb hby at_130) rfl k)
    show own_Goes p.tables e below P (T91.setTop (mkF m 131 #[.val (.int p0), .val (.int p1), .val (.int p2), .val (.int p3), .val (.int p4), .val (.int (3 : Int32)), .val (.ref a64), .unset] [(.int p2), (.int (31 : Int32)), (.int ((29791 : Int32) + ((961 : Int32) * p1)))]))
    refine own_Goes.st ?_ (fun _ k => XS.imul X91.here hx rfl (hb hby at_131) rfl k)
    show own_Goes p.tables e below P (T91.setTop (mkF m 132 #[.val (.int p0), .val (.int p1), .val (.int p2), .val (.int p3), .val (.int p4), .val (.int (3 : Int32)), .val (.ref a64), .unset] [(.int ((31 : Int32) * p2)), (.int ((29791 : Int32) + ((961 : Int32) * p1)))]))
    refine own_Goes.st ?_ (fun _ k => XS.iadd X91.here hx rfl (hb hby at_132) rfl k)
    show own_Goes p.tables e below P (T91.setTop (mkF m 133 #[.val (.int p0), .val (.int p1), .val (.int p2), .val (.int p3), .val (.int p4), .val (.int (3 : Int32)), .val (.ref a64), .unset] [(.int (((29791 : Int32) + ((961 : Int32) * p1)) + ((31 : Int32) * p2)))]))
    refine own_Goes.st ?_ (fun _ k => XS.iloadN X91.here hx rfl (hb hby at_133) rfl k)
    show own_Goes p.tables e below P (T91.setTop (mkF m 134 #[.val (.int p0), .val (.int p1), .val (.int p2), .val (.int p3), .val (.int p4), .val (.int (3 : Int32)), .val (.ref a64), .unset] [(.int p3), (.int (((29791 : Int32) + ((961 : Int32) * p1)) + ((31 : Int32) * p2)))]))
    refine own_Goes.st ?_ (fun _ k => XS.iadd X91.here hx rfl (hb hby at_134) rfl k)
    show own_Goes p.tables e below P (T91.setTop (mkF m 135 #[.val (.int p0), .val (.int p1), .val (.int p2), .val (.int p3), .val (.int p4), .val (.int (3 : Int32)), .val (.ref a64), .unset] [(.int ((((29791 : Int32) + ((961 : Int32) * p1)) + ((31 : Int32) * p2)) + p3))]))
    refine own_Goes.st ?_ (fun _ k => XS.istore X91.here hx rfl (hb hby at_135) rfl (l' := #[.val (.int p0), .val (.int p1), .val (.int p2), .val (.int p3), .val (.int p4), .val (.int (3 : Int32)), .val (.ref a64), .val (.int ((((29791 : Int32) + ((961 : Int32) * p1)) + ((31 : Int32) * p2)) + p3))]) rfl k)
    show own_Goes p.tables e below P (T91.setTop (mkF m 137 #[.val (.int p0), .val (.int p1), .val (.int p2), .val (.int p3), .val (.int p4), .val (.int (3 : Int32)), .val (.ref a64), .val (.int ((((29791 : Int32) + ((961 : Int32) * p1)) + ((31 : Int32) * p2)) + p3))] []))
    refine own_Goes.st ?_ (fun _ k => XS.goto X91.here hx rfl (pc0 := 137) (pc' := 164) rfl (hb hby at_137) (by decide) (by decide) k)
    show own_Goes p.tables e below P (T91.setTop (mkF m 164 #[.val (.int p0), .val (.int p1), .val (.int p2), .val (.int p3), .val (.int p4), .val (.int (3 : Int32)), .val (.ref a64), .val (.int ((((29791 : Int32) + ((961 : Int32) * p1)) + ((31 : Int32) * p2)) + p3))] []))
    refine own_Goes.st ?_ (fun _ k => XS.aload X91.here hx rfl (hb hby at_164) rfl rfl k)
    show own_Goes p.tables e below P (T91.setTop (mkF m 166 #[.val (.int p0), .val (.int p1), .val (.int p2), .val (.int p3), .val (.int p4), .val (.int (3 : Int32)), .val (.ref a64), .val (.int ((((29791 : Int32) + ((961 : Int32) * p1)) + ((31 : Int32) * p2)) + p3))] [(.ref a64)]))
    obtain ⟨cq101, kq101, q101a, q101b, q101c⟩ := isOf hZ rfl f92
    obtain ⟨_, _, ⟨T101, L101, k101, n101⟩, -, X101, ⟨Lc101, hQ101, l101, y101, z101⟩, st101⟩ := X91.virtualBack hx (y := (⟨"com/example/taxodelta/taxodelta/taxonomy/IntList", "hashCode", "()I"⟩ : MethodName)) (z := (⟨"com/example/taxodelta/taxodelta/taxonomy/IntList", "hashCode", "()I"⟩ : MethodName)) hown (mvT hZ (hw _ (List.mem_of_getElem? (i := 13) rfl))) (mvT hZ (hw _ (List.mem_of_getElem? (i := 14) rfl))) (notFace_of_selects (args := #[]) (mvT hZ (hw _ (List.mem_of_getElem? (i := 16) rfl)))) (mvT hZ (hw _ (List.mem_of_getElem? (i := 16) rfl))) (mvT hZ (hw _ (List.mem_of_getElem? (i := 15) rfl))) (by decide) (backOf (W := 0) (rm_hash_3 l Z a0 hw [] a64 b291 k291 p1 p2 p3 T91.heap n0 Z100 f93 f94 f96) hZ (hw _ (List.mem_of_getElem? (i := 17) rfl)) (hw _ (List.mem_of_getElem? (i := 3) rfl)) (by decide) (by decide)) q101a q101c (g := (mkF m 166 #[.val (.int p0), .val (.int p1), .val (.int p2), .val (.int p3), .val (.int p4), .val (.int (3 : Int32)), .val (.ref a64), .val (.int ((((29791 : Int32) + ((961 : Int32) * p1)) + ((31 : Int32) * p2)) + p3))] [(.ref a64)])) rfl (by rw [hml]; rfl) (Steps.refl _) (argsL := []) (rest := []) (lenOf own_pd__28__29_I rfl) rfl (by show 2 * 0 + _ ≤ _; exact Nat.le_of_eq rfl) (hb hby at_166) (fun _ _ => ⟨rfl, rfl, (by decide : 3 + 0 ≤ _), (by decide : 8 + 0 ≤ _)⟩)
    dsimp only [Pt.U, Pt.locs, Pt.cells, Pt.slots] at X101 l101 y101 z101 st101 hQ101
    subst l101 y101 z101
    obtain ⟨rfl, Nq101, e101⟩ := hQ101
    have N101 := Fr.app N91 Nq101
    refine own_Goes.tr st101 ?_
    show own_Goes p.tables e below P (T101.setTop (mkF m 169 #[.val (.int p0), .val (.int p1), .val (.int p2), .val (.int p3), .val (.int p4), .val (.int (3 : Int32)), .val (.ref a64), .val (.int ((((29791 : Int32) + ((961 : Int32) * p1)) + ((31 : Int32) * p2)) + p3))] [(.int ((31 : Int32) * ((31 : Int32) * ((31 : Int32) + p1) + p2) + p3))]))
    refine own_Goes.st ?_ (fun _ k => XS.iload X101.here hx rfl (hb hby at_169) rfl k)
    show own_Goes p.tables e below P (T101.setTop (mkF m 171 #[.val (.int p0), .val (.int p1), .val (.int p2), .val (.int p3), .val (.int p4), .val (.int (3 : Int32)), .val (.ref a64), .val (.int ((((29791 : Int32) + ((961 : Int32) * p1)) + ((31 : Int32) * p2)) + p3))] [(.int ((((29791 : Int32) + ((961 : Int32) * p1)) + ((31 : Int32) * p2)) + p3)), (.int ((31 : Int32) * ((31 : Int32) * ((31 : Int32) + p1) + p2) + p3))]))
    refine own_Goes.st ?_ (fun _ k => XS.icmpNo X101.here hx rfl (hb hby at_171) rfl (teq (own_h3 p1 p2 p3)).2 k)
    show own_Goes p.tables e below P (T101.setTop (mkF m 174 #[.val (.int p0), .val (.int p1), .val (.int p2), .val (.int p3), .val (.int p4), .val (.int (3 : Int32)), .val (.ref a64), .val (.int ((((29791 : Int32) + ((961 : Int32) * p1)) + ((31 : Int32) * p2)) + p3))] []))
    refine own_Goes.st ?_ (fun _ k => XS.iconst X101.here hx rfl (hb hby at_174) k)
    show own_Goes p.tables e below P (T101.setTop (mkF m 175 #[.val (.int p0), .val (.int p1), .val (.int p2), .val (.int p3), .val (.int p4), .val (.int (3 : Int32)), .val (.ref a64), .val (.int ((((29791 : Int32) + ((961 : Int32) * p1)) + ((31 : Int32) * p2)) + p3))] [(.int (1 : Int32))]))
    refine own_Goes.st ?_ (fun _ k => XS.goto X101.here hx rfl (pc0 := 175) (pc' := 179) rfl (hb hby at_175) (by decide) (by decide) k)
    show own_Goes p.tables e below P (T101.setTop (mkF m 179 #[.val (.int p0), .val (.int p1), .val (.int p2), .val (.int p3), .val (.int p4), .val (.int (3 : Int32)), .val (.ref a64), .val (.int ((((29791 : Int32) + ((961 : Int32) * p1)) + ((31 : Int32) * p2)) + p3))] [(.int (1 : Int32))]))
    obtain ⟨fs, hr, hrun, hended, hW, hsame⟩ := X101.leave (v := some (.int (1 : Int32))) (fun h => by rw [Bd.returns] at h; cases h)
    exact own_Goes.fin _ _ (retOut X101 hx (t := .boolean) Bd.returns rfl (Or.inl ⟨rfl, Or.inr (Or.inl rfl), _, rfl⟩) (hb hby at_179) hr) (hPP _ _ ⟨hrun, hended, _, _, rfl, (by show Q_law n0 _ _; exact ⟨rfl, N101⟩), ⟨_, rfl⟩, hW, hsame.mono (by decide) (by decide)⟩)
  · skip
    show own_Goes p.tables e below P (s₁.setTop (mkF m 8 #[.val (.int p0), .val (.int p1), .val (.int p2), .val (.int p3), .val (.int p4), .val (.int (4 : Int32)), .unset, .unset] []))
    obtain ⟨T102, h102, X102, e102, E102, A102, D102, -, st102⟩ := newO X0 hx hZ hown (hw _ (List.mem_of_getElem? (i := 1) rfl)) (hw _ (List.mem_of_getElem? (i := 2) rfl)) (hw _ (List.mem_of_getElem? (i := 3) rfl)) e0 (g := (mkF m 8 #[.val (.int p0), .val (.int p1), .val (.int p2), .val (.int p3), .val (.int p4), .val (.int (4 : Int32)), .unset, .unset] [])) rfl (hb hby at_8) (by decide) (by decide)
    obtain ⟨a102, g102⟩ : ∃ z, z = h0.size := ⟨_, rfl⟩
    rw [← g102] at A102 D102 st102
    have ge_a102 : n0 ≤ a102 := Nat.le_trans Z0 (Nat.le_of_eq g102.symm)
    refine own_Goes.st ?_ st102
    have Z103 : n0 ≤ h102.size := Nat.le_trans Z0 E102.1
    have F104 : Fld Z h102 a102 "com/example/taxodelta/taxodelta/taxonomy/IntList" "values" "[I" .null := D102 (Or.inl (hw _ (List.mem_of_getElem? (i := 12) rfl))) (ty := (.array .int)) (by decide)
    have F105 : Fld Z h102 a102 "com/example/taxodelta/taxodelta/taxonomy/IntList" "size" "I" (.int (0 : Int32)) := D102 (Or.inl (hw _ (List.mem_of_getElem? (i := 19) rfl))) (ty := .int) (by decide)
    show own_Goes p.tables e below P (T102.setTop (mkF m 11 #[.val (.int p0), .val (.int p1), .val (.int p2), .val (.int p3), .val (.int p4), .val (.int (4 : Int32)), .unset, .unset] [(.ref a102)]))
    refine own_Goes.st ?_ (fun _ k => XS.dup X102.here hx rfl (hb hby at_11) rfl rfl k)
    show own_Goes p.tables e below P (T102.setTop (mkF m 12 #[.val (.int p0), .val (.int p1), .val (.int p2), .val (.int p3), .val (.int p4), .val (.int (4 : Int32)), .unset, .unset] [(.ref a102), (.ref a102)]))
    obtain ⟨_, _, ⟨T106, L106, k106, n106⟩, -, X106, ⟨Lc106, hQ106, l106, y106, z106⟩, st106⟩ := X102.specialBack hx (y := (⟨"com/example/taxodelta/taxodelta/taxonomy/IntList", "<init>", "()V"⟩ : MethodName)) rfl hown (mvT hZ (hw _ (List.mem_of_getElem? (i := 4) rfl))) (mvT hZ (hw _ (List.mem_of_getElem? (i := 5) rfl))) (mvT hZ (hw _ (List.mem_of_getElem? (i := 6) rfl))) (by decide) (backOf (W := 1) (rm_ctor l Z a0 hw [] a102 .null h102 n0 Z103 A102 F104 F105 ge_a102) hZ (hw _ (List.mem_of_getElem? (i := 6) rfl)) (hw _ (List.mem_of_getElem? (i := 3) rfl)) (by decide) (by decide)) (g := (mkF m 12 #[.val (.int p0), .val (.int p1), .val (.int p2), .val (.int p3), .val (.int p4), .val (.int (4 : Int32)), .unset, .unset] [(.ref a102), (.ref a102)])) rfl (by rw [hml]; rfl) (Steps.refl _) (a := a102) (argsL := []) (rest := [(.ref a102)]) (lenOf own_pd__28__29_V rfl) rfl (by show 2 * 0 + _ ≤ _; exact Nat.le_of_eq rfl) (hb hby at_12) (fun _ _ => ⟨rfl, e102, (by decide : 1 + 1 ≤ _), (by decide : 2 + 2 ≤ _)⟩)
    dsimp only [Pt.U, Pt.locs, Pt.cells, Pt.slots] at X106 l106 y106 z106 st106 hQ106
    subst l106 y106 z106
    obtain ⟨b106, k106, rfl, Nq106, K106, f107, f108, f109, f110, f111, f112⟩ := hQ106
    have N106 := Fr.app N0 Nq106
    refine own_Goes.tr st106 ?_
    have ne113 : a102 ≠ b106 := Nat.ne_of_lt (Nat.lt_of_lt_of_le A102.lt f110)
    have ge_b106 : n0 ≤ b106 := Nat.le_trans Z103 f110
    have Z114 : n0 ≤ T106.heap.size := Nat.le_trans Z103 K106.1
    show own_Goes p.tables e below P (T106.setTop (mkF m 15 #[.val (.int p0), .val (.int p1), .val (.int p2), .val (.int p3), .val (.int p4), .val (.int (4 : Int32)), .unset, .unset] [(.ref a102)]))
    refine own_Goes.st ?_ (fun _ k => XS.astore X106.here hx rfl (hb hby at_15) rfl rfl (l' := #[.val (.int p0), .val (.int p1), .val (.int p2), .val (.int p3), .val (.int p4), .val (.int (4 : Int32)), .val (.ref a102), .unset]) rfl k)
    show own_Goes p.tables e below P (T106.setTop (mkF m 17 #[.val (.int p0), .val (.int p1), .val (.int p2), .val (.int p3), .val (.int p4), .val (.int (4 : Int32)), .val (.ref a102), .unset] []))
    refine own_Goes.st ?_ (fun _ k => XS.iload X106.here hx rfl (hb hby at_17) rfl k)
    show own_Goes p.tables e below P (T106.setTop (mkF m 19 #[.val (.int p0), .val (.int p1), .val (.int p2), .val (.int p3), .val (.int p4), .val (.int (4 : Int32)), .val (.ref a102), .unset] [(.int (4 : Int32))]))
    refine own_Goes.st ?_ (fun _ k => XS.iconst X106.here hx rfl (hb hby at_19) k)
    show own_Goes p.tables e below P (T106.setTop (mkF m 20 #[.val (.int p0), .val (.int p1), .val (.int p2), .val (.int p3), .val (.int p4), .val (.int (4 : Int32)), .val (.ref a102), .unset] [(.int (1 : Int32)), (.int (4 : Int32))]))
    refine own_Goes.st ?_ (fun _ k => XS.icmpNo X106.here hx rfl (hb hby at_20) rfl (flt (by decide : ¬ ((4 : Int32) < (1 : Int32)))).1 k)
    show own_Goes p.tables e below P (T106.setTop (mkF m 23 #[.val (.int p0), .val (.int p1), .val (.int p2), .val (.int p3), .val (.int p4), .val (.int (4 : Int32)), .val (.ref a102), .unset] []))
    refine own_Goes.st ?_ (fun _ k => XS.aload X106.here hx rfl (hb hby at_23) rfl rfl k)
    show own_Goes p.tables e below P (T106.setTop (mkF m 25 #[.val (.int p0), .val (.int p1), .val (.int p2), .val (.int p3), .val (.int p4), .val (.int (4 : Int32)), .val (.ref a102), .unset] [(.ref a102)]))
    refine own_Goes.st ?_ (fun _ k => XS.iloadN X106.here hx rfl (hb hby at_25) rfl k)
    show own_Goes p.tables e below P (T106.setTop (mkF m 26 #[.val (.int p0), .val (.int p1), .val (.int p2), .val (.int p3), .val (.int p4), .val (.int (4 : Int32)), .val (.ref a102), .unset] [(.int p1), (.ref a102)]))
    obtain ⟨cq115, kq115, q115a, q115b, q115c⟩ := isOf hZ rfl f107
    obtain ⟨_, _, ⟨T115, L115, k115, n115⟩, -, X115, ⟨Lc115, hQ115, l115, y115, z115⟩, st115⟩ := X106.virtualBack hx (y := (⟨"com/example/taxodelta/taxodelta/taxonomy/IntList", "add", "(I)V"⟩ : MethodName)) (z := (⟨"com/example/taxodelta/taxodelta/taxonomy/IntList", "add", "(I)V"⟩ : MethodName)) hown (mvT hZ (hw _ (List.mem_of_getElem? (i := 20) rfl))) (mvT hZ (hw _ (List.mem_of_getElem? (i := 21) rfl))) (notFace_of_selects (args := #[]) (mvT hZ (hw _ (List.mem_of_getElem? (i := 23) rfl)))) (mvT hZ (hw _ (List.mem_of_getElem? (i := 23) rfl))) (mvT hZ (hw _ (List.mem_of_getElem? (i := 22) rfl))) (by decide) (backOf (W := 0) (rm_add_0 l Z a0 hw [] a102 p1 b106 k106 T106.heap n0 Z114 f107 f108 f109 f111 f112 ge_a102 ge_b106 ne113) hZ (hw _ (List.mem_of_getElem? (i := 24) rfl)) (hw _ (List.mem_of_getElem? (i := 3) rfl)) (by decide) (by decide)) q115a q115c (g := (mkF m 26 #[.val (.int p0), .val (.int p1), .val (.int p2), .val (.int p3), .val (.int p4), .val (.int (4 : Int32)), .val (.ref a102), .unset] [(.int p1), (.ref a102)])) rfl (by rw [hml]; rfl) (Steps.refl _) (argsL := [(.int p1)]) (rest := []) (lenOf own_pd__28_I_29_V rfl) rfl (by show 2 * 0 + _ ≤ _; exact Nat.le_of_eq rfl) (hb hby at_26) (fun _ _ => ⟨rfl, rfl, (by decide : 2 + 0 ≤ _), (by decide : 4 + 0 ≤ _)⟩)
    dsimp only [Pt.U, Pt.locs, Pt.cells, Pt.slots] at X115 l115 y115 z115 st115 hQ115
    subst l115 y115 z115
    obtain ⟨rfl, Nq115, K115, f116, f117, f118, f119, f120⟩ := hQ115
    have N115 := Fr.app N106 Nq115
    refine own_Goes.tr st115 ?_
    have Z121 : n0 ≤ T115.heap.size := Nat.le_trans Z114 K115.1
    show own_Goes p.tables e below P (T115.setTop (mkF m 29 #[.val (.int p0), .val (.int p1), .val (.int p2), .val (.int p3), .val (.int p4), .val (.int (4 : Int32)), .val (.ref a102), .unset] []))
    refine own_Goes.st ?_ (fun _ k => XS.iload X115.here hx rfl (hb hby at_29) rfl k)
    show own_Goes p.tables e below P (T115.setTop (mkF m 31 #[.val (.int p0), .val (.int p1), .val (.int p2), .val (.int p3), .val (.int p4), .val (.int (4 : Int32)), .val (.ref a102), .unset] [(.int (4 : Int32))]))
    refine own_Goes.st ?_ (fun _ k => XS.iconst X115.here hx rfl (hb hby at_31) k)
    show own_Goes p.tables e below P (T115.setTop (mkF m 32 #[.val (.int p0), .val (.int p1), .val (.int p2), .val (.int p3), .val (.int p4), .val (.int (4 : Int32)), .val (.ref a102), .unset] [(.int (2 : Int32)), (.int (4 : Int32))]))
    refine own_Goes.st ?_ (fun _ k => XS.icmpNo X115.here hx rfl (hb hby at_32) rfl (flt (by decide : ¬ ((4 : Int32) < (2 : Int32)))).1 k)
    show own_Goes p.tables e below P (T115.setTop (mkF m 35 #[.val (.int p0), .val (.int p1), .val (.int p2), .val (.int p3), .val (.int p4), .val (.int (4 : Int32)), .val (.ref a102), .unset] []))
    refine own_Goes.st ?_ (fun _ k => XS.aload X115.here hx rfl (hb hby at_35) rfl rfl k)
    show own_Goes p.tables e below P (T115.setTop (mkF m 37 #[.val (.int p0), .val (.int p1), .val (.int p2), .val (.int p3), .val (.int p4), .val (.int (4 : Int32)), .val (.ref a102), .unset] [(.ref a102)]))
    refine own_Goes.st ?_ (fun _ k => XS.iloadN X115.here hx rfl (hb hby at_37) rfl k)
    show own_Goes p.tables e below P (T115.setTop (mkF m 38 #[.val (.int p0), .val (.int p1), .val (.int p2), .val (.int p3), .val (.int p4), .val (.int (4 : Int32)), .val (.ref a102), .unset] [(.int p2), (.ref a102)]))
    obtain ⟨cq122, kq122, q122a, q122b, q122c⟩ := isOf hZ rfl f116
    obtain ⟨_, _, ⟨T122, L122, k122, n122⟩, -, X122, ⟨Lc122, hQ122, l122, y122, z122⟩, st122⟩ := X115.virtualBack hx (y := (⟨"com/example/taxodelta/taxodelta/taxonomy/IntList", "add", "(I)V"⟩ : MethodName)) (z := (⟨"com/example/taxodelta/taxodelta/taxonomy/IntList", "add", "(I)V"⟩ : MethodName)) hown (mvT hZ (hw _ (List.mem_of_getElem? (i := 20) rfl))) (mvT hZ (hw _ (List.mem_of_getElem? (i := 21) rfl))) (notFace_of_selects (args := #[]) (mvT hZ (hw _ (List.mem_of_getElem? (i := 23) rfl)))) (mvT hZ (hw _ (List.mem_of_getElem? (i := 23) rfl))) (mvT hZ (hw _ (List.mem_of_getElem? (i := 22) rfl))) (by decide) (backOf (W := 0) (rm_add_1 l Z a0 hw [] a102 p2 b106 k106 p1 T115.heap n0 Z121 f116 f117 f118 f119 f120 ge_a102 ge_b106 ne113) hZ (hw _ (List.mem_of_getElem? (i := 24) rfl)) (hw _ (List.mem_of_getElem? (i := 3) rfl)) (by decide) (by decide)) q122a q122c (g := (mkF m 38 #[.val (.int p0), .val (.int p1), .val (.int p2), .val (.int p3), .val (.int p4), .val (.int (4 : Int32)), .val (.ref a102), .unset] [(.int p2), (.ref a102)])) rfl (by rw [hml]; rfl) (Steps.refl _) (argsL := [(.int p2)]) (rest := []) (lenOf own_pd__28_I_29_V rfl) rfl (by show 2 * 0 + _ ≤ _; exact Nat.le_of_eq rfl) (hb hby at_38) (fun _ _ => ⟨rfl, rfl, (by decide : 2 + 0 ≤ _), (by decide : 4 + 0 ≤ _)⟩)
    dsimp only [Pt.U, Pt.locs, Pt.cells, Pt.slots] at X122 l122 y122 z122 st122 hQ122
    subst l122 y122 z122
    obtain ⟨rfl, Nq122, K122, f123, f124, f125, f126, f127⟩ := hQ122
    have N122 := Fr.app N115 Nq122
    refine own_Goes.tr st122 ?_
    have Z128 : n0 ≤ T122.heap.size := Nat.le_trans Z121 K122.1
    show own_Goes p.tables e below P (T122.setTop (mkF m 41 #[.val (.int p0), .val (.int p1), .val (.int p2), .val (.int p3), .val (.int p4), .val (.int (4 : Int32)), .val (.ref a102), .unset] []))
    refine own_Goes.st ?_ (fun _ k => XS.iload X122.here hx rfl (hb hby at_41) rfl k)
    show own_Goes p.tables e below P (T122.setTop (mkF m 43 #[.val (.int p0), .val (.int p1), .val (.int p2), .val (.int p3), .val (.int p4), .val (.int (4 : Int32)), .val (.ref a102), .unset] [(.int (4 : Int32))]))
    refine own_Goes.st ?_ (fun _ k => XS.iconst X122.here hx rfl (hb hby at_43) k)
    show own_Goes p.tables e below P (T122.setTop (mkF m 44 #[.val (.int p0), .val (.int p1), .val (.int p2), .val (.int p3), .val (.int p4), .val (.int (4 : Int32)), .val (.ref a102), .unset] [(.int (3 : Int32)), (.int (4 : Int32))]))
    refine own_Goes.st ?_ (fun _ k => XS.icmpNo X122.here hx rfl (hb hby at_44) rfl (flt (by decide : ¬ ((4 : Int32) < (3 : Int32)))).1 k)
    show own_Goes p.tables e below P (T122.setTop (mkF m 47 #[.val (.int p0), .val (.int p1), .val (.int p2), .val (.int p3), .val (.int p4), .val (.int (4 : Int32)), .val (.ref a102), .unset] []))
    refine own_Goes.st ?_ (fun _ k => XS.aload X122.here hx rfl (hb hby at_47) rfl rfl k)
    show own_Goes p.tables e below P (T122.setTop (mkF m 49 #[.val (.int p0), .val (.int p1), .val (.int p2), .val (.int p3), .val (.int p4), .val (.int (4 : Int32)), .val (.ref a102), .unset] [(.ref a102)]))
    refine own_Goes.st ?_ (fun _ k => XS.iloadN X122.here hx rfl (hb hby at_49) rfl k)
    show own_Goes p.tables e below P (T122.setTop (mkF m 50 #[.val (.int p0), .val (.int p1), .val (.int p2), .val (.int p3), .val (.int p4), .val (.int (4 : Int32)), .val (.ref a102), .unset] [(.int p3), (.ref a102)]))
    obtain ⟨cq129, kq129, q129a, q129b, q129c⟩ := isOf hZ rfl f123
    obtain ⟨_, _, ⟨T129, L129, k129, n129⟩, -, X129, ⟨Lc129, hQ129, l129, y129, z129⟩, st129⟩ := X122.virtualBack hx (y := (⟨"com/example/taxodelta/taxodelta/taxonomy/IntList", "add", "(I)V"⟩ : MethodName)) (z := (⟨"com/example/taxodelta/taxodelta/taxonomy/IntList", "add", "(I)V"⟩ : MethodName)) hown (mvT hZ (hw _ (List.mem_of_getElem? (i := 20) rfl))) (mvT hZ (hw _ (List.mem_of_getElem? (i := 21) rfl))) (notFace_of_selects (args := #[]) (mvT hZ (hw _ (List.mem_of_getElem? (i := 23) rfl)))) (mvT hZ (hw _ (List.mem_of_getElem? (i := 23) rfl))) (mvT hZ (hw _ (List.mem_of_getElem? (i := 22) rfl))) (by decide) (backOf (W := 0) (rm_add_2 l Z a0 hw [] a102 p3 b106 k106 p1 p2 T122.heap n0 Z128 f123 f124 f125 f126 f127 ge_a102 ge_b106 ne113) hZ (hw _ (List.mem_of_getElem? (i := 24) rfl)) (hw _ (List.mem_of_getElem? (i := 3) rfl)) (by decide) (by decide)) q129a q129c (g := (mkF m 50 #[.val (.int p0), .val (.int p1), .val (.int p2), .val (.int p3), .val (.int p4), .val (.int (4 : Int32)), .val (.ref a102), .unset] [(.int p3), (.ref a102)])) rfl (by rw [hml]; rfl) (Steps.refl _) (argsL := [(.int p3)]) (rest := []) (lenOf own_pd__28_I_29_V rfl) rfl (by show 2 * 0 + _ ≤ _; exact Nat.le_of_eq rfl) (hb hby at_50) (fun _ _ => ⟨rfl, rfl, (by decide : 2 + 1 ≤ _), (by decide : 4 + 4 ≤ _)⟩)
    dsimp only [Pt.U, Pt.locs, Pt.cells, Pt.slots] at X129 l129 y129 z129 st129 hQ129
    subst l129 y129 z129
    obtain ⟨b2129, k2129, rfl, Nq129, K129, f130, f131, f132, f133, f134, f135⟩ := hQ129
    have N129 := Fr.app N122 Nq129
    refine own_Goes.tr st129 ?_
    have ne136 : a102 ≠ b2129 := Nat.ne_of_lt (Nat.lt_of_lt_of_le f123.lt f133)
    have ne137 : b106 ≠ b2129 := Nat.ne_of_lt (Nat.lt_of_lt_of_le f127.lt f133)
    have ge_b2129 : n0 ≤ b2129 := Nat.le_trans Z128 f133
    have Z138 : n0 ≤ T129.heap.size := Nat.le_trans Z128 K129.1
    show own_Goes p.tables e below P (T129.setTop (mkF m 53 #[.val (.int p0), .val (.int p1), .val (.int p2), .val (.int p3), .val (.int p4), .val (.int (4 : Int32)), .val (.ref a102), .unset] []))
    refine own_Goes.st ?_ (fun _ k => XS.iload X129.here hx rfl (hb hby at_53) rfl k)
    show own_Goes p.tables e below P (T129.setTop (mkF m 55 #[.val (.int p0), .val (.int p1), .val (.int p2), .val (.int p3), .val (.int p4), .val (.int (4 : Int32)), .val (.ref a102), .unset] [(.int (4 : Int32))]))
    refine own_Goes.st ?_ (fun _ k => XS.iconst X129.here hx rfl (hb hby at_55) k)
    show own_Goes p.tables e below P (T129.setTop (mkF m 56 #[.val (.int p0), .val (.int p1), .val (.int p2), .val (.int p3), .val (.int p4), .val (.int (4 : Int32)), .val (.ref a102), .unset] [(.int (4 : Int32)), (.int (4 : Int32))]))
    refine own_Goes.st ?_ (fun _ k => XS.icmpNo X129.here hx rfl (hb hby at_56) rfl (flt (by decide : ¬ ((4 : Int32) < (4 : Int32)))).1 k)
    show own_Goes p.tables e below P (T129.setTop (mkF m 59 #[.val (.int p0), .val (.int p1), .val (.int p2), .val (.int p3), .val (.int p4), .val (.int (4 : Int32)), .val (.ref a102), .unset] []))
    refine own_Goes.st ?_ (fun _ k => XS.aload X129.here hx rfl (hb hby at_59) rfl rfl k)
    show own_Goes p.tables e below P (T129.setTop (mkF m 61 #[.val (.int p0), .val (.int p1), .val (.int p2), .val (.int p3), .val (.int p4), .val (.int (4 : Int32)), .val (.ref a102), .unset] [(.ref a102)]))
    refine own_Goes.st ?_ (fun _ k => XS.iload X129.here hx rfl (hb hby at_61) rfl k)
    show own_Goes p.tables e below P (T129.setTop (mkF m 63 #[.val (.int p0), .val (.int p1), .val (.int p2), .val (.int p3), .val (.int p4), .val (.int (4 : Int32)), .val (.ref a102), .unset] [(.int p4), (.ref a102)]))
    obtain ⟨cq139, kq139, q139a, q139b, q139c⟩ := isOf hZ rfl f130
    obtain ⟨_, _, ⟨T139, L139, k139, n139⟩, -, X139, ⟨Lc139, hQ139, l139, y139, z139⟩, st139⟩ := X129.virtualBack hx (y := (⟨"com/example/taxodelta/taxodelta/taxonomy/IntList", "add", "(I)V"⟩ : MethodName)) (z := (⟨"com/example/taxodelta/taxodelta/taxonomy/IntList", "add", "(I)V"⟩ : MethodName)) hown (mvT hZ (hw _ (List.mem_of_getElem? (i := 20) rfl))) (mvT hZ (hw _ (List.mem_of_getElem? (i := 21) rfl))) (notFace_of_selects (args := #[]) (mvT hZ (hw _ (List.mem_of_getElem? (i := 23) rfl)))) (mvT hZ (hw _ (List.mem_of_getElem? (i := 23) rfl))) (mvT hZ (hw _ (List.mem_of_getElem? (i := 22) rfl))) (by decide) (backOf (W := 0) (rm_add_3 l Z a0 hw [] a102 p4 b2129 k2129 p1 p2 p3 T129.heap n0 Z138 f130 f131 f132 f134 f135 ge_a102 ge_b2129 ne136) hZ (hw _ (List.mem_of_getElem? (i := 24) rfl)) (hw _ (List.mem_of_getElem? (i := 3) rfl)) (by decide) (by decide)) q139a q139c (g := (mkF m 63 #[.val (.int p0), .val (.int p1), .val (.int p2), .val (.int p3), .val (.int p4), .val (.int (4 : Int32)), .val (.ref a102), .unset] [(.int p4), (.ref a102)])) rfl (by rw [hml]; rfl) (Steps.refl _) (argsL := [(.int p4)]) (rest := []) (lenOf own_pd__28_I_29_V rfl) rfl (by show 2 * 0 + _ ≤ _; exact Nat.le_of_eq rfl) (hb hby at_63) (fun _ _ => ⟨rfl, rfl, (by decide : 3 + 0 ≤ _), (by decide : 8 + 0 ≤ _)⟩)
    dsimp only [Pt.U, Pt.locs, Pt.cells, Pt.slots] at X139 l139 y139 z139 st139 hQ139
    subst l139 y139 z139
    obtain ⟨rfl, Nq139, K139, f140, f141, f142, f143, f144⟩ := hQ139
    have N139 := Fr.app N129 Nq139
    refine own_Goes.tr st139 ?_
    have Z145 : n0 ≤ T139.heap.size := Nat.le_trans Z138 K139.1
    show own_Goes p.tables e below P (T139.setTop (mkF m 66 #[.val (.int p0), .val (.int p1), .val (.int p2), .val (.int p3), .val (.int p4), .val (.int (4 : Int32)), .val (.ref a102), .unset] []))
    refine own_Goes.st ?_ (fun _ k => XS.iload X139.here hx rfl (hb hby at_66) rfl k)
    show own_Goes p.tables e below P (T139.setTop (mkF m 68 #[.val (.int p0), .val (.int p1), .val (.int p2), .val (.int p3), .val (.int p4), .val (.int (4 : Int32)), .val (.ref a102), .unset] [(.int (4 : Int32))]))
    refine own_Goes.st ?_ (fun _ k => XS.ifYes X139.here hx rfl (pc0 := 68) (pc' := 77) rfl (hb hby at_68) rfl ((if0 _ _).trans (feq (by decide : ¬ ((4 : Int32) = (0 : Int32)))).2) (by decide) (by decide) k)
    show own_Goes p.tables e below P (T139.setTop (mkF m 77 #[.val (.int p0), .val (.int p1), .val (.int p2), .val (.int p3), .val (.int p4), .val (.int (4 : Int32)), .val (.ref a102), .unset] []))
    refine own_Goes.st ?_ (fun _ k => XS.iload X139.here hx rfl (hb hby at_77) rfl k)
    show own_Goes p.tables e below P (T139.setTop (mkF m 79 #[.val (.int p0), .val (.int p1), .val (.int p2), .val (.int p3), .val (.int p4), .val (.int (4 : Int32)), .val (.ref a102), .unset] [(.int (4 : Int32))]))
    refine own_Goes.st ?_ (fun _ k => XS.iconst X139.here hx rfl (hb hby at_79) k)
    show own_Goes p.tables e below P (T139.setTop (mkF m 80 #[.val (.int p0), .val (.int p1), .val (.int p2), .val (.int p3), .val (.int p4), .val (.int (4 : Int32)), .val (.ref a102), .unset] [(.int (1 : Int32)), (.int (4 : Int32))]))
    refine own_Goes.st ?_ (fun _ k => XS.icmpYes X139.here hx rfl (pc0 := 80) (pc' := 92) rfl (hb hby at_80) rfl (feq (by decide : ¬ ((4 : Int32) = (1 : Int32)))).2 (by decide) (by decide) k)
    show own_Goes p.tables e below P (T139.setTop (mkF m 92 #[.val (.int p0), .val (.int p1), .val (.int p2), .val (.int p3), .val (.int p4), .val (.int (4 : Int32)), .val (.ref a102), .unset] []))
    refine own_Goes.st ?_ (fun _ k => XS.iload X139.here hx rfl (hb hby at_92) rfl k)
    show own_Goes p.tables e below P (T139.setTop (mkF m 94 #[.val (.int p0), .val (.int p1), .val (.int p2), .val (.int p3), .val (.int p4), .val (.int (4 : Int32)), .val (.ref a102), .unset] [(.int (4 : Int32))]))
    refine own_Goes.st ?_ (fun _ k => XS.iconst X139.here hx rfl (hb hby at_94) k)
    show own_Goes p.tables e below P (T139.setTop (mkF m 95 #[.val (.int p0), .val (.int p1), .val (.int p2), .val (.int p3), .val (.int p4), .val (.int (4 : Int32)), .val (.ref a102), .unset] [(.int (2 : Int32)), (.int (4 : Int32))]))
    refine own_Goes.st ?_ (fun _ k => XS.icmpYes X139.here hx rfl (pc0 := 95) (pc' := 113) rfl (hb hby at_95) rfl (feq (by decide : ¬ ((4 : Int32) = (2 : Int32)))).2 (by decide) (by decide) k)
    show own_Goes p.tables e below P (T139.setTop (mkF m 113 #[.val (.int p0), .val (.int p1), .val (.int p2), .val (.int p3), .val (.int p4), .val (.int (4 : Int32)), .val (.ref a102), .unset] []))
    refine own_Goes.st ?_ (fun _ k => XS.iload X139.here hx rfl (hb hby at_113) rfl k)
    show own_Goes p.tables e below P (T139.setTop (mkF m 115 #[.val (.int p0), .val (.int p1), .val (.int p2), .val (.int p3), .val (.int p4), .val (.int (4 : Int32)), .val (.ref a102), .unset] [(.int (4 : Int32))]))
    refine own_Goes.st ?_ (fun _ k => XS.iconst X139.here hx rfl (hb hby at_115) k)
    show own_Goes p.tables e below P (T139.setTop (mkF m 116 #[.val (.int p0), .val (.int p1), .val (.int p2), .val (.int p3), .val (.int p4), .val (.int (4 : Int32)), .val (.ref a102), .unset] [(.int (3 : Int32)), (.int (4 : Int32))]))
    refine own_Goes.st ?_ (fun _ k => XS.icmpYes X139.here hx rfl (pc0 := 116) (pc' := 140) rfl (hb hby at_116) rfl (feq (by decide : ¬ ((4 : Int32) = (3 : Int32)))).2 (by decide) (by decide) k)
    show own_Goes p.tables e below P (T139.setTop (mkF m 140 #[.val (.int p0), .val (.int p1), .val (.int p2), .val (.int p3), .val (.int p4), .val (.int (4 : Int32)), .val (.ref a102), .unset] []))
    refine own_Goes.st ?_ (X139.ldcInt hx hown (mvT hZ (hw _ (List.mem_of_getElem? (i := 37) rfl))) (g := (mkF m 140 #[.val (.int p0), .val (.int p1), .val (.int p2), .val (.int p3), .val (.int p4), .val (.int (4 : Int32)), .val (.ref a102), .unset] [])) rfl (hb hby at_140))
    show own_Goes p.tables e below P (T139.setTop (mkF m 142 #[.val (.int p0), .val (.int p1), .val (.int p2), .val (.int p3), .val (.int p4), .val (.int (4 : Int32)), .val (.ref a102), .unset] [(.int (923521 : Int32))]))
    refine own_Goes.st ?_ (fun _ k => XS.sipush X139.here hx rfl (hb hby at_142) k)
    show own_Goes p.tables e below P (T139.setTop (mkF m 145 #[.val (.int p0), .val (.int p1), .val (.int p2), .val (.int p3), .val (.int p4), .val (.int (4 : Int32)), .val (.ref a102), .unset] [(.int (29791 : Int32)), (.int (923521 : Int32))]))
    refine own_Goes.st ?_ (fun _ k => XS.iloadN X139.here hx rfl (hb hby at_145) rfl k)
    show own_Goes p.tables e below P (T139.setTop (mkF m 146 #[.val (.int p0), .val (.int p1), .val (.int p2), .val (.int p3), .val (.int p4), .val (.int (4 : Int32)), .val (.ref a102), .unset] [(.int p1), (.int (29791 : Int32)), (.int (923521 : Int32))]))
    refine own_Goes.st ?_ (fun _ k => XS.imul X139.here hx rfl (hb hby at_146) rfl k)
    show own_Goes p.tables e below P (T139.setTop (mkF m 147 #[.val (.int p0), .val (.int p1), .val (.int p2), .val (.int p3), .val (.int p4), .val (.int (4 : Int32)), .val (.ref a102), .unset] [(.int ((29791 : Int32) * p1)), (.int (923521 : Int32))]))
    refine own_Goes.st ?_ (fun _ k => XS.iadd X139.here hx rfl (hb hby at_147) rfl k)
    show own_Goes p.tables e below P (T139.setTop (mkF m 148 #[.val (.int p0), .val (.int p1), .val (.int p2), .val (.int p3), .val (.int p4), .val (.int (4 : Int32)), .val (.ref a102), .unset] [(.int ((923521 : Int32) + ((29791 : Int32) * p1)))]))
    refine own_Goes.st ?_ (fun _ k => XS.sipush X139.here hx rfl (hb hby at_148) k)
    show own_Goes p.tables e below P (T139.setTop (mkF m 151 #[.val (.int p0), .val (.int p1), .val (.int p2), .val (.int p3), .val (.int p4), .val (.int (4 : Int32)), .val (.ref a102), .unset] [(.int (961 : Int32)), (.int ((923521 : Int32) + ((29791 : Int32) * p1)))]))
    refine own_Goes.st ?_ (fun _ k => XS.iloadN X139.here hx rfl (hb hby at_151) rfl k)
    show own_Goes p.tables e below P (T139.setTop (mkF m 152 #[.val (.int p0), .val (.int p1), .val (.int p2), .val (.int p3), .val (.int p4), .val (.int (4 : Int32)), .val (.ref a102), .unset] [(.int p2), (.int (961 : Int32)), (.int ((923521 : Int32) + ((29791 : Int32) * p1)))]))
    refine own_Goes.st ?_ (fun _ k => XS.imul X139.here hx rfl (hb hby at_152) rfl k)
    show own_Goes p.tables e below P (T139.setTop (mkF m 153 #[.val (.int p0), .val (.int p1), .val (.int p2), .val (.int p3), .val (.int p4), .val (.int (4 : Int32)), .val (.ref a102), .unset] [(.int ((961 : Int32) * p2)), (.int ((923521 : Int32) + ((29791 : Int32) * p1)))]))
    refine own_Goes.st ?_ (fun _ k => XS.iadd X139.here hx rfl (hb hby at_153) rfl k)
    show own_Goes p.tables e below P (T139.setTop (mkF m 154 #[.val (.int p0), .val (.int p1), .val (.int p2), .val (.int p3), .val (.int p4), .val (.int (4 : Int32)), .val (.ref a102), .unset] [(.int (((923521 : Int32) + ((29791 : Int32) * p1)) + ((961 : Int32) * p2)))]))
    refine own_Goes.st ?_ (fun _ k => XS.bipush X139.here hx rfl (hb hby at_154) k)
    show own_Goes p.tables e below P (T139.setTop (mkF m 156 #[.val (.int p0), .val (.int p1), .val (.int p2), .val (.int p3), .val (.int p4), .val (.int (4 : Int32)), .val (.ref a102), .unset] [(.int (31 : Int32)), (.int (((923521 : Int32) + ((29791 : Int32) * p1)) + ((961 : Int32) * p2)))]))
    refine own_Goes.st ?_ (fun _ k => XS.iloadN X139.here hx rfl (hb hby at_156) rfl k)
    show own_Goes p.tables e below P (T139.setTop (mkF m 157 #[.val (.int p0), .val (.int p1), .val (.int p2), .val (.int p3), .val (.int p4), .val (.int (4 : Int32)), .val (.ref a102), .unset] [(.int p3), (.int (31 : Int32)), (.int (((923521 : Int32) + ((29791 : Int32) * p1)) + ((961 : Int32) * p2)))]))
    refine own_Goes.st ?_ (fun _ k => XS.imul X139.here hx rfl (hb hby at_157) rfl k)
    show own_Goes p.tables e below P (T139.setTop (mkF m 158 #[.val (.int p0), .val (.int p1), .val (.int p2), .val (.int p3), .val (.int p4), .val (.int (4 : Int32)), .val (.ref a102), .unset] [(.int ((31 : Int32) * p3)), (.int (((923521 : Int32) + ((29791 : Int32) * p1)) + ((961 : Int32) * p2)))]))
    refine own_Goes.st ?_ (fun _ k => XS.iadd X139.here hx rfl (hb hby at_158) rfl k)
    show own_Goes p.tables e below P (T139.setTop (mkF m 159 #[.val (.int p0), .val (.int p1), .val (.int p2), .val (.int p3), .val (.int p4), .val (.int (4 : Int32)), .val (.ref a102), .unset] [(.int ((((923521 : Int32) + ((29791 : Int32) * p1)) + ((961 : Int32) * p2)) + ((31 : Int32) * p3)))]))
    refine own_Goes.st ?_ (fun _ k => XS.iload X139.here hx rfl (hb hby at_159) rfl k)
    show own_Goes p.tables e below P (T139.setTop (mkF m 161 #[.val (.int p0), .val (.int p1), .val (.int p2), .val (.int p3), .val (.int p4), .val (.int (4 : Int32)), .val (.ref a102), .unset] [(.int p4), (.int ((((923521 : Int32) + ((29791 : Int32) * p1)) + ((961 : Int32) * p2)) + ((31 : Int32) * p3)))]))
    refine own_Goes.st ?_ (fun _ k => XS.iadd X139.here hx rfl (hb hby at_161) rfl k)
    show own_Goes p.tables e below P (T139.setTop (mkF m 162 #[.val (.int p0), .val (.int p1), .val (.int p2), .val (.int p3), .val (.int p4), .val (.int (4 : Int32)), .val (.ref a102), .unset] [(.int (((((923521 : Int32) + ((29791 : Int32) * p1)) + ((961 : Int32) * p2)) + ((31 : Int32) * p3)) + p4))]))
    refine own_Goes.st ?_ (fun _ k => XS.istore X139.here hx rfl (hb hby at_162) rfl (l' := #[.val (.int p0), .val (.int p1), .val (.int p2), .val (.int p3), .val (.int p4), .val (.int (4 : Int32)), .val (.ref a102), .val (.int (((((923521 : Int32) + ((29791 : Int32) * p1)) + ((961 : Int32) * p2)) + ((31 : Int32) * p3)) + p4))]) rfl k)
    show own_Goes p.tables e below P (T139.setTop (mkF m 164 #[.val (.int p0), .val (.int p1), .val (.int p2), .val (.int p3), .val (.int p4), .val (.int (4 : Int32)), .val (.ref a102), .val (.int (((((923521 : Int32) + ((29791 : Int32) * p1)) + ((961 : Int32) * p2)) + ((31 : Int32) * p3)) + p4))] []))
    refine own_Goes.st ?_ (fun _ k => XS.aload X139.here hx rfl (hb hby at_164) rfl rfl k)
    show own_Goes p.tables e below P (T139.setTop (mkF m 166 #[.val (.int p0), .val (.int p1), .val (.int p2), .val (.int p3), .val (.int p4), .val (.int (4 : Int32)), .val (.ref a102), .val (.int (((((923521 : Int32) + ((29791 : Int32) * p1)) + ((961 : Int32) * p2)) + ((31 : Int32) * p3)) + p4))] [(.ref a102)]))
    obtain ⟨cq146, kq146, q146a, q146b, q146c⟩ := isOf hZ rfl f140
    obtain ⟨_, _, ⟨T146, L146, k146, n146⟩, -, X146, ⟨Lc146, hQ146, l146, y146, z146⟩, st146⟩ := X139.virtualBack hx (y := (⟨"com/example/taxodelta/taxodelta/taxonomy/IntList", "hashCode", "()I"⟩ : MethodName)) (z := (⟨"com/example/taxodelta/taxodelta/taxonomy/IntList", "hashCode", "()I"⟩ : MethodName)) hown (mvT hZ (hw _ (List.mem_of_getElem? (i := 13) rfl))) (mvT hZ (hw _ (List.mem_of_getElem? (i := 14) rfl))) (notFace_of_selects (args := #[]) (mvT hZ (hw _ (List.mem_of_getElem? (i := 16) rfl)))) (mvT hZ (hw _ (List.mem_of_getElem? (i := 16) rfl))) (mvT hZ (hw _ (List.mem_of_getElem? (i := 15) rfl))) (by decide) (backOf (W := 0) (rm_hash_4 l Z a0 hw [] a102 b2129 k2129 p1 p2 p3 p4 T139.heap n0 Z145 f141 f142 f143) hZ (hw _ (List.mem_of_getElem? (i := 17) rfl)) (hw _ (List.mem_of_getElem? (i := 3) rfl)) (by decide) (by decide)) q146a q146c (g := (mkF m 166 #[.val (.int p0), .val (.int p1), .val (.int p2), .val (.int p3), .val (.int p4), .val (.int (4 : Int32)), .val (.ref a102), .val (.int (((((923521 : Int32) + ((29791 : Int32) * p1)) + ((961 : Int32) * p2)) + ((31 : Int32) * p3)) + p4))] [(.ref a102)])) rfl (by rw [hml]; rfl) (Steps.refl _) (argsL := []) (rest := []) (lenOf own_pd__28__29_I rfl) rfl (by show 2 * 0 + _ ≤ _; exact Nat.le_of_eq rfl) (hb hby at_166) (fun _ _ => ⟨rfl, rfl, (by decide : 3 + 0 ≤ _), (by decide : 8 + 0 ≤ _)⟩)
    dsimp only [Pt.U, Pt.locs, Pt.cells, Pt.slots] at X146 l146 y146 z146 st146 hQ146
    subst l146 y146 z146
    obtain ⟨rfl, Nq146, e146⟩ := hQ146
    have N146 := Fr.app N139 Nq146
    refine own_Goes.tr st146 ?_
    show own_Goes p.tables e below P (T146.setTop (mkF m 169 #[.val (.int p0), .val (.int p1), .val (.int p2), .val (.int p3), .val (.int p4), .val (.int (4 : Int32)), .val (.ref a102), .val (.int (((((923521 : Int32) + ((29791 : Int32) * p1)) + ((961 : Int32) * p2)) + ((31 : Int32) * p3)) + p4))] [(.int ((31 : Int32) * ((31 : Int32) * ((31 : Int32) * ((31 : Int32) + p1) + p2) + p3) + p4))]))
    refine own_Goes.st ?_ (fun _ k => XS.iload X146.here hx rfl (hb hby at_169) rfl k)
    show own_Goes p.tables e below P (T146.setTop (mkF m 171 #[.val (.int p0), .val (.int p1), .val (.int p2), .val (.int p3), .val (.int p4), .val (.int (4 : Int32)), .val (.ref a102), .val (.int (((((923521 : Int32) + ((29791 : Int32) * p1)) + ((961 : Int32) * p2)) + ((31 : Int32) * p3)) + p4))] [(.int (((((923521 : Int32) + ((29791 : Int32) * p1)) + ((961 : Int32) * p2)) + ((31 : Int32) * p3)) + p4)), (.int ((31 : Int32) * ((31 : Int32) * ((31 : Int32) * ((31 : Int32) + p1) + p2) + p3) + p4))]))
    refine own_Goes.st ?_ (fun _ k => XS.icmpNo X146.here hx rfl (hb hby at_171) rfl (teq (own_h4 p1 p2 p3 p4)).2 k)
    show own_Goes p.tables e below P (T146.setTop (mkF m 174 #[.val (.int p0), .val (.int p1), .val (.int p2), .val (.int p3), .val (.int p4), .val (.int (4 : Int32)), .val (.ref a102), .val (.int (((((923521 : Int32) + ((29791 : Int32) * p1)) + ((961 : Int32) * p2)) + ((31 : Int32) * p3)) + p4))] []))
    refine own_Goes.st ?_ (fun _ k => XS.iconst X146.here hx rfl (hb hby at_174) k)
    show own_Goes p.tables e below P (T146.setTop (mkF m 175 #[.val (.int p0), .val (.int p1), .val (.int p2), .val (.int p3), .val (.int p4), .val (.int (4 : Int32)), .val (.ref a102), .val (.int (((((923521 : Int32) + ((29791 : Int32) * p1)) + ((961 : Int32) * p2)) + ((31 : Int32) * p3)) + p4))] [(.int (1 : Int32))]))
    refine own_Goes.st ?_ (fun _ k => XS.goto X146.here hx rfl (pc0 := 175) (pc' := 179) rfl (hb hby at_175) (by decide) (by decide) k)
    show own_Goes p.tables e below P (T146.setTop (mkF m 179 #[.val (.int p0), .val (.int p1), .val (.int p2), .val (.int p3), .val (.int p4), .val (.int (4 : Int32)), .val (.ref a102), .val (.int (((((923521 : Int32) + ((29791 : Int32) * p1)) + ((961 : Int32) * p2)) + ((31 : Int32) * p3)) + p4))] [(.int (1 : Int32))]))
    obtain ⟨fs, hr, hrun, hended, hW, hsame⟩ := X146.leave (v := some (.int (1 : Int32))) (fun h => by rw [Bd.returns] at h; cases h)
    exact own_Goes.fin _ _ (retOut X146 hx (t := .boolean) Bd.returns rfl (Or.inl ⟨rfl, Or.inr (Or.inl rfl), _, rfl⟩) (hb hby at_179) hr) (hPP _ _ ⟨hrun, hended, _, _, rfl, (by show Q_law n0 _ _; exact ⟨rfl, N146⟩), ⟨_, rfl⟩, hW, hsame.mono (by decide) (by decide)⟩)
set_option maxRecDepth 65536 in
set_option maxHeartbeats 40000000 in
theorem comes_1 {Post : Tables → Env → Array Value → State → Outcome → State → Prop} (hpost : ∀ tb e args s v u, (limb_1_1.after args s (.returned v) u = true ∧ limb_1_2.after args s (.returned v) u = true ∧ True) → FrameEnd s (.returned v) u (Jvm.fieldLocs frame_1_writes args s ++ Jvm.arrayLocs frame_1_arrays args s ++ Jvm.staticLocs frame_1_statics s) 16 128 → Post tb e args s (.returned v) u) :
    ArmFor flags0 classFile x code maxLocals ret World_1 tables_1 room_1 Calls_1 rest_1 Pre_1 Post := by
  intro l hfl _ _ p e ha hc hk s m args below hf hA hF happ hP
  obtain ⟨hcalls, hrest, hpre⟩ := hP
  obtain ⟨-, -, -, hnamed, -, -, -, hat⟩ := (Spec.applies_iff hf).mp happ
  obtain ⟨hg, hn⟩ := and_e (Cond.before_iff.mp (show (Jvm.Cond.and given_1 narrow_1).before args s = true from hpre))
  obtain ⟨hg0, hg1⟩ := and_e hg
  obtain ⟨hv0, hr0⟩ := and_e hg1
  obtain ⟨hv1, hr1⟩ := and_e hr0
  obtain ⟨hv2, hr2⟩ := and_e hr1
  obtain ⟨hv3, hr3⟩ := and_e hr2
  obtain ⟨w0, w1, w2, w3, w4, rfl⟩ : ∃ w0 w1 w2 w3 w4 : Value, args = #[w0, w1, w2, w3, w4] := by
    have hs : args.size = 5 := by simpa [Cond.value, given_1] using hg0
    obtain ⟨L⟩ := args
    match L, hs with
    | [w0, w1, w2, w3, w4], _ => exact ⟨w0, w1, w2, w3, w4, rfl⟩
  have hw := fun d (hd : d ∈ tables_1) => atoms_spec (ws := Jvm.Cond.code x code maxLocals ret :: tables_1) hat d (List.mem_cons_of_mem _ hd)
  have hfit : Fit s := fun {y c} hc i hi => by
    obtain ⟨ha, rfl⟩ := Array.getElem?_eq_some_iff.mp hc
    have q := List.all_eq_true.mp ((Array.all_eq_true_iff_forall_mem.mp hF) _ (Array.getElem_mem ha)) i (List.mem_range.mpr hi)
    simpa [Array.getElem?_eq_getElem hi] using q
  obtain ⟨i0, ei0⟩ := is_v hv0
  obtain rfl : w0 = (.int i0) := Option.some.inj ei0
  obtain ⟨i1, ei1⟩ := is_v hv1
  obtain rfl : w1 = (.int i1) := Option.some.inj ei1
  obtain ⟨i2, ei2⟩ := is_v hv2
  obtain rfl : w2 = (.int i2) := Option.some.inj ei2
  obtain ⟨i3, ei3⟩ := is_v hv3
  obtain rfl : w3 = (.int i3) := Option.some.inj ei3
  obtain ⟨i4, ei4⟩ := is_v hr3
  obtain rfl : w4 = (.int i4) := Option.some.inj ei4
  obtain ⟨n, o, h1, h2, h3, _, L, rfl, ⟨rfl, N⟩, hq⟩ := rm_law l s _ hw tables_1 i0 i1 i2 i3 i4  s.heap s.heap.size (Nat.le_refl _)  p e ha hc hk s m _ below hf ((Spec.applies_iff_loose hf).mp happ).1 ⟨rfl, State.Warmed39.refl s, rfl⟩ trivial
  refine ⟨n, _, h1, h2, h3, hpost _ _ _ _ _ _ ⟨Cond.after_iff.mpr rfl, Cond.after_iff.mpr (eq_i res_at (Term.int_eval (1)) rfl), trivial⟩ ⟨hq.1, hq.2.1, (hq.2.2.sift fun y hy => Or.inr (N y hy)).mono (by decide) (by decide)⟩⟩
theorem main_1_1 : Claimed_1_1 := comes_1 fun _ _ _ _ _ _ h hF => ⟨h.1, hF⟩
theorem main_1_2 : Claimed_1_2 := comes_1 fun _ _ _ _ _ _ h hF => ⟨h.2.1, hF⟩
end Jvm.Pilot.@@N@@
namespace Jvm.Pilot.@@N@@
open Jvm Jvm.ClassFile Sem Op Lib Jvm.Free Jvm.Stand Jvm.Pilot.@@N@@.Jvm.D
/-! MADE BY PROGRAM (witnessworld.py) out of the Statement's table words and the real class files: 12 classes; the members and pool entries that the words name. The judged class is class 1, her method 1. -/
namespace start1
open Jvm.ClassFile
def u (s : String) : CpInfo := .utf8 (stringToUtf16 s)
/-- a pool by its gaps: so many unusable entries, then the entry; so many at the end -/
def gap : Nat → List CpInfo → List CpInfo
  | 0, r => r
  | n + 1, r => .unusable :: gap n r
def poolList (es : List (Nat × CpInfo)) (last : Nat) : List CpInfo := es.foldr (fun e r => gap e.1 (e.2 :: r)) (gap last [])
def pool (es : List (Nat × CpInfo)) (last : Nat) : Array CpInfo := ⟨poolList es last⟩
def fileOf (pool : Array CpInfo) (this : Nat) (attrs : Array Attribute := #[]) (ms : Array MethodInfo := #[]) (fl : Nat := 33) (sup : Nat := 0) (ifs : Array Nat := #[]) (fds : Array FieldInfo := #[]) : ClassFile where
  minorVersion := 0
  majorVersion := 65
  constantPool := pool
  accessFlags := fl
  thisClass := this
  superClass := sup
  interfaces := ifs
  fields := fds
  methods := ms
  attributes := attrs
def plain (name : String) (sup : Option ClassId) : Class where
  name := name
  kind := .ordinary
  loader := none
  accessFlags := 33
  super := sup
  interfaces := #[]
  cf := none
  fields := #[]
  methods := #[]
  instanceTypes := #[]
  staticTypes := #[]
  resolved := #[]
  callSites := []
  init := .initialized
  statics := none
  mirror := none

def pool0 : Array CpInfo := pool [(5, u "<init>"), (0, u "()V"), (1, .class_ 10), (1, u "java/lang/Object")] 113

def k0c0 : Code := { maxStack := 0, maxLocals := 1, code := object_method_1_code, exceptionTable := #[], attributes := #[] }
def k0m0 : Method := { name := "<init>", desc := "()V", sig := { parameters := [], returnType := none }, accessFlags := 1, code := some k0c0 }
/-- java/lang/Object -/
def k0 : Class := { plain "java/lang/Object" none with
  accessFlags := 33
  interfaces := #[]
  cf := some (fileOf pool0 8 #[] #[{ accessFlags := 1, nameIndex := 5, descriptorIndex := 6, attributes := #[] }] 33 0 #[] #[])
  fields := #[]
  methods := #[k0m0]
  instanceTypes := #[]
  staticTypes := #[]
  resolved := Array.replicate 124 none
  statics := none }

def pool1 : Array CpInfo := pool [(2, .class_ 4), (0, .nameAndType 5 6), (0, u "java/lang/Object"), (0, u "<init>"), (0, u "()V"), (0, .integer 2147483647), (0, .class_ 9), (0, u "com/example/taxodelta/taxodelta/taxonomy/IntList"), (0, .methodref 8 3), (0, .methodref 8 12), (0, .nameAndType 13 14), (0, u "add"), (0, u "(I)V"), (0, .integer 923521), (0, .methodref 8 17), (0, .nameAndType 18 19), (0, u "hashCode"), (0, u "()I"), (0, .class_ 21), (0, u "com/example/taxodelta/taxodelta/taxonomy/IntListHashCodePinLaw"), (2, u "law"), (0, u "(IIIII)Z")] 3

def k1m0 : Method := { name := "<init>", desc := "()V", sig := { parameters := [], returnType := none }, accessFlags := 1, code := none }
def k1c1 : Code := { maxStack := 3, maxLocals := 8, code := code, exceptionTable := #[], attributes := #[] }
def k1m1 : Method := { name := "law", desc := "(IIIII)Z", sig := { parameters := [.int, .int, .int, .int, .int], returnType := some .boolean }, accessFlags := 9, code := some k1c1 }
/-- com/example/taxodelta/taxodelta/taxonomy/IntListHashCodePinLaw -/
def k1 : Class := { plain "com/example/taxodelta/taxodelta/taxonomy/IntListHashCodePinLaw" (some 0) with
  accessFlags := 49
  interfaces := #[]
  cf := some (fileOf pool1 20 #[] #[{ accessFlags := 1, nameIndex := 5, descriptorIndex := 6, attributes := #[] }, { accessFlags := 9, nameIndex := 24, descriptorIndex := 25, attributes := #[] }] 49 2 #[] #[])
  fields := #[]
  methods := #[k1m0, k1m1]
  instanceTypes := #[]
  staticTypes := #[]
  resolved := Array.replicate 29 none
  statics := none }

def pool2 : Array CpInfo := pool [(1, .methodref 2 3), (0, .class_ 4), (0, .nameAndType 5 6), (0, u "java/lang/Object"), (0, u "<init>"), (0, u "()V"), (0, .fieldref 8 9), (0, .class_ 10), (0, .nameAndType 11 12), (0, u "com/example/taxodelta/taxodelta/taxonomy/IntList"), (0, u "values"), (0, u "[I"), (0, .fieldref 8 14), (0, .nameAndType 15 16), (0, u "size"), (0, u "I"), (0, .methodref 18 19), (0, .class_ 20), (0, .nameAndType 21 22), (0, u "java/util/Arrays"), (0, u "copyOf"), (0, u "([II)[I"), (2, u "add"), (0, u "(I)V"), (12, u "()I"), (7, u "hashCode")] 2

def k2c0 : Code := { maxStack := 2, maxLocals := 1, code := prog_40_method_1_code, exceptionTable := #[], attributes := #[] }
def k2m0 : Method := { name := "<init>", desc := "()V", sig := { parameters := [], returnType := none }, accessFlags := 0, code := some k2c0 }
def k2c1 : Code := { maxStack := 5, maxLocals := 2, code := prog_40_method_2_code, exceptionTable := #[], attributes := #[] }
def k2m1 : Method := { name := "add", desc := "(I)V", sig := { parameters := [.int], returnType := none }, accessFlags := 0, code := some k2c1 }
def k2c2 : Code := { maxStack := 3, maxLocals := 3, code := prog_40_method_11_code, exceptionTable := #[], attributes := #[] }
def k2m2 : Method := { name := "hashCode", desc := "()I", sig := { parameters := [], returnType := some .int }, accessFlags := 1, code := some k2c2 }
/-- com/example/taxodelta/taxodelta/taxonomy/IntList -/
def k2 : Class := { plain "com/example/taxodelta/taxodelta/taxonomy/IntList" (some 0) with
  accessFlags := 48
  interfaces := #[]
  cf := some (fileOf pool2 8 #[] #[{ accessFlags := 0, nameIndex := 5, descriptorIndex := 6, attributes := #[] }, { accessFlags := 0, nameIndex := 25, descriptorIndex := 26, attributes := #[] }, { accessFlags := 1, nameIndex := 47, descriptorIndex := 39, attributes := #[] }] 48 2 #[] #[{ accessFlags := 2, nameIndex := 11, descriptorIndex := 12, attributes := #[] }, { accessFlags := 2, nameIndex := 15, descriptorIndex := 16, attributes := #[] }])
  fields := #[{ name := "values", type := (.array .int), accessFlags := 2, slot := 0, constantValue := 0 }, { name := "size", type := .int, accessFlags := 2, slot := 1, constantValue := 0 }]
  methods := #[k2m0, k2m1, k2m2]
  instanceTypes := #[(.array .int), .int]
  staticTypes := #[]
  resolved := Array.replicate 50 none
  statics := none }

def pool3 : Array CpInfo := pool [(2, .class_ 4), (1, u "java/lang/Object"), (0, u "<init>"), (0, u "()V"), (7, .class_ 16), (1, u "java/util/Arrays"), (57, .class_ 76), (1, u "java/util/Arrays$NaturalOrder"), (36, .class_ 115), (1, u "java/util/Arrays$LegacyMergeSort"), (1, u "Z"), (32, .methodref 151 152), (0, .class_ 153), (0, .nameAndType 154 155), (0, u "java/lang/System"), (0, u "arraycopy"), (0, u "(Ljava/lang/Object;ILjava/lang/Object;II)V"), (146, u "copyOf"), (1, .methodref 305 306), (0, .class_ 307), (0, .nameAndType 308 309), (0, u "java/lang/Math"), (0, u "min"), (0, u "(II)I"), (65, .class_ 376), (0, u "java/util/Arrays$ArrayList"), (68, u "$assertionsDisabled"), (269, u "MIN_ARRAY_SORT_GRAN"), (0, u "I"), (2, u "INSERTIONSORT_THRESHOLD"), (151, u "([II)[I"), (103, .class_ 976), (0, u "java/util/Arrays$ArrayItr")] 52

def k3m0 : Method := { name := "<init>", desc := "()V", sig := { parameters := [], returnType := none }, accessFlags := 2, code := none }
def k3c1 : Code := { maxStack := 6, maxLocals := 3, code := jdk_65_method_123_code, exceptionTable := #[], attributes := #[] }
def k3m1 : Method := { name := "copyOf", desc := "([II)[I", sig := { parameters := [(.array .int), .int], returnType := some (.array .int) }, accessFlags := 9, code := some k3c1 }
/-- java/util/Arrays -/
def k3 : Class := { plain "java/util/Arrays" (some 0) with
  accessFlags := 49
  interfaces := #[]
  cf := some (fileOf pool3 14 #[.nestMembers #[975, 375, 113, 74]] #[{ accessFlags := 2, nameIndex := 5, descriptorIndex := 6, attributes := #[] }, { accessFlags := 9, nameIndex := 302, descriptorIndex := 871, attributes := #[] }] 49 2 #[] #[{ accessFlags := 26, nameIndex := 715, descriptorIndex := 716, attributes := #[] }, { accessFlags := 26, nameIndex := 719, descriptorIndex := 716, attributes := #[] }, { accessFlags := 4120, nameIndex := 445, descriptorIndex := 117, attributes := #[] }])
  fields := #[{ name := "MIN_ARRAY_SORT_GRAN", type := .int, accessFlags := 26, slot := 0, constantValue := 0 }, { name := "INSERTIONSORT_THRESHOLD", type := .int, accessFlags := 26, slot := 1, constantValue := 0 }, { name := "$assertionsDisabled", type := .boolean, accessFlags := 4120, slot := 2, constantValue := 0 }]
  methods := #[k3m0, k3m1]
  instanceTypes := #[]
  staticTypes := #[.int, .int, .boolean]
  resolved := Array.replicate 1029 none
  statics := none }

def pool4 : Array CpInfo := pool [(1, .class_ 2), (0, u "java/lang/Math"), (1, .class_ 6), (1, u "java/lang/Object"), (0, u "<init>"), (0, u "()V"), (89, .class_ 100), (1, u "java/lang/Math$RandomNumberGeneratorHolder"), (71, u "negativeZeroFloatBits"), (0, u "J"), (2, u "negativeZeroDoubleBits"), (24, u "min"), (43, u "$assertionsDisabled"), (0, u "Z"), (88, u "(II)I"), (2, u "twoToTheDoubleScaleDown"), (0, u "D"), (4, u "twoToTheDoubleScaleUp"), (9, u "E"), (3, u "PI"), (2, u "TAU"), (2, u "DEGREES_TO_RADIANS"), (0, u "RADIANS_TO_DEGREES")] 94

def k4m0 : Method := { name := "<init>", desc := "()V", sig := { parameters := [], returnType := none }, accessFlags := 2, code := none }
def k4c1 : Code := { maxStack := 2, maxLocals := 2, code := jdk_29_method_69_code, exceptionTable := #[], attributes := #[] }
def k4m1 : Method := { name := "min", desc := "(II)I", sig := { parameters := [.int, .int], returnType := some .int }, accessFlags := 9, code := some k4c1 }
/-- java/lang/Math -/
def k4 : Class := { plain "java/lang/Math" (some 0) with
  accessFlags := 49
  interfaces := #[]
  cf := some (fileOf pool4 1 #[.nestMembers #[98]] #[{ accessFlags := 2, nameIndex := 7, descriptorIndex := 8, attributes := #[] }, { accessFlags := 9, nameIndex := 201, descriptorIndex := 335, attributes := #[] }] 49 4 #[] #[{ accessFlags := 25, nameIndex := 354, descriptorIndex := 339, attributes := #[] }, { accessFlags := 25, nameIndex := 358, descriptorIndex := 339, attributes := #[] }, { accessFlags := 25, nameIndex := 361, descriptorIndex := 339, attributes := #[] }, { accessFlags := 26, nameIndex := 364, descriptorIndex := 339, attributes := #[] }, { accessFlags := 26, nameIndex := 365, descriptorIndex := 339, attributes := #[] }, { accessFlags := 26, nameIndex := 172, descriptorIndex := 173, attributes := #[] }, { accessFlags := 26, nameIndex := 176, descriptorIndex := 173, attributes := #[] }, { accessFlags := 8, nameIndex := 344, descriptorIndex := 339, attributes := #[] }, { accessFlags := 8, nameIndex := 338, descriptorIndex := 339, attributes := #[] }, { accessFlags := 4120, nameIndex := 245, descriptorIndex := 246, attributes := #[] }])
  fields := #[{ name := "E", type := .double, accessFlags := 25, slot := 0, constantValue := 0 }, { name := "PI", type := .double, accessFlags := 25, slot := 1, constantValue := 0 }, { name := "TAU", type := .double, accessFlags := 25, slot := 2, constantValue := 0 }, { name := "DEGREES_TO_RADIANS", type := .double, accessFlags := 26, slot := 3, constantValue := 0 }, { name := "RADIANS_TO_DEGREES", type := .double, accessFlags := 26, slot := 4, constantValue := 0 }, { name := "negativeZeroFloatBits", type := .long, accessFlags := 26, slot := 5, constantValue := 0 }, { name := "negativeZeroDoubleBits", type := .long, accessFlags := 26, slot := 6, constantValue := 0 }, { name := "twoToTheDoubleScaleUp", type := .double, accessFlags := 8, slot := 7, constantValue := 0 }, { name := "twoToTheDoubleScaleDown", type := .double, accessFlags := 8, slot := 8, constantValue := 0 }, { name := "$assertionsDisabled", type := .boolean, accessFlags := 4120, slot := 9, constantValue := 0 }]
  methods := #[k4m0, k4m1]
  instanceTypes := #[]
  staticTypes := #[.double, .double, .double, .double, .double, .long, .long, .double, .double, .boolean]
  resolved := Array.replicate 460 none
  statics := none }

def pool5 : Array CpInfo := pool [(2, .class_ 4), (1, u "java/lang/Object"), (0, u "<init>"), (0, u "()V"), (1, .class_ 10), (1, u "java/lang/System"), (0, u "allowSecurityManager"), (0, u "I"), (16, u "cons"), (0, u "Ljava/io/Console;"), (77, .class_ 110), (1, u "java/lang/System$CallersHolder"), (43, u "initialErrStream"), (0, u "Ljava/io/PrintStream;"), (19, u "security"), (0, u "Ljava/lang/SecurityManager;"), (31, .class_ 209), (0, u "java/lang/System$1"), (7, u "props"), (0, u "Ljava/util/Properties;"), (2, u "lineSeparator"), (0, u "Ljava/lang/String;"), (96, .class_ 321), (1, u "java/lang/System$LoggerFinder"), (5, .class_ 328), (0, u "java/lang/System$Logger"), (67, u "err"), (2, u "out"), (91, u "notSupportedJnuEncoding"), (15, u "in"), (17, u "initialIn"), (0, u "Ljava/io/InputStream;"), (35, u "bootLayer"), (0, u "Ljava/lang/ModuleLayer;"), (99, .class_ 664), (0, u "java/lang/System$2"), (9, u "NEVER"), (2, u "MAYBE"), (49, u "arraycopy"), (0, u "(Ljava/lang/Object;ILjava/lang/Object;II)V"), (72, .class_ 802), (0, u "java/lang/System$Logger$Level")] 31

def k5m0 : Method := { name := "<init>", desc := "()V", sig := { parameters := [], returnType := none }, accessFlags := 2, code := none }
def k5m1 : Method := { name := "arraycopy", desc := "(Ljava/lang/Object;ILjava/lang/Object;II)V", sig := { parameters := [(.object "java/lang/Object"), .int, (.object "java/lang/Object"), .int, .int], returnType := none }, accessFlags := 265, code := none }
/-- java/lang/System -/
def k5 : Class := { plain "java/lang/System" (some 0) with
  accessFlags := 49
  interfaces := #[]
  cf := some (fileOf pool5 8 #[.nestMembers #[319, 327, 801, 108, 663, 208]] #[{ accessFlags := 2, nameIndex := 5, descriptorIndex := 6, attributes := #[] }, { accessFlags := 265, nameIndex := 727, descriptorIndex := 728, attributes := #[] }] 49 2 #[] #[{ accessFlags := 25, nameIndex := 507, descriptorIndex := 526, attributes := #[] }, { accessFlags := 25, nameIndex := 399, descriptorIndex := 155, attributes := #[] }, { accessFlags := 25, nameIndex := 396, descriptorIndex := 155, attributes := #[] }, { accessFlags := 10, nameIndex := 525, descriptorIndex := 526, attributes := #[] }, { accessFlags := 26, nameIndex := 674, descriptorIndex := 12, attributes := #[] }, { accessFlags := 26, nameIndex := 677, descriptorIndex := 12, attributes := #[] }, { accessFlags := 10, nameIndex := 11, descriptorIndex := 12, attributes := #[] }, { accessFlags := 74, nameIndex := 175, descriptorIndex := 176, attributes := #[] }, { accessFlags := 10, nameIndex := 491, descriptorIndex := 222, attributes := #[] }, { accessFlags := 74, nameIndex := 29, descriptorIndex := 30, attributes := #[] }, { accessFlags := 74, nameIndex := 154, descriptorIndex := 155, attributes := #[] }, { accessFlags := 10, nameIndex := 217, descriptorIndex := 218, attributes := #[] }, { accessFlags := 10, nameIndex := 221, descriptorIndex := 222, attributes := #[] }, { accessFlags := 8, nameIndex := 562, descriptorIndex := 563, attributes := #[] }])
  fields := #[{ name := "in", type := (.object "java/io/InputStream"), accessFlags := 25, slot := 0, constantValue := 0 }, { name := "out", type := (.object "java/io/PrintStream"), accessFlags := 25, slot := 1, constantValue := 0 }, { name := "err", type := (.object "java/io/PrintStream"), accessFlags := 25, slot := 2, constantValue := 0 }, { name := "initialIn", type := (.object "java/io/InputStream"), accessFlags := 10, slot := 3, constantValue := 0 }, { name := "NEVER", type := .int, accessFlags := 26, slot := 4, constantValue := 0 }, { name := "MAYBE", type := .int, accessFlags := 26, slot := 5, constantValue := 0 }, { name := "allowSecurityManager", type := .int, accessFlags := 10, slot := 6, constantValue := 0 }, { name := "security", type := (.object "java/lang/SecurityManager"), accessFlags := 74, slot := 7, constantValue := 0 }, { name := "notSupportedJnuEncoding", type := (.object "java/lang/String"), accessFlags := 10, slot := 8, constantValue := 0 }, { name := "cons", type := (.object "java/io/Console"), accessFlags := 74, slot := 9, constantValue := 0 }, { name := "initialErrStream", type := (.object "java/io/PrintStream"), accessFlags := 74, slot := 10, constantValue := 0 }, { name := "props", type := (.object "java/util/Properties"), accessFlags := 10, slot := 11, constantValue := 0 }, { name := "lineSeparator", type := (.object "java/lang/String"), accessFlags := 10, slot := 12, constantValue := 0 }, { name := "bootLayer", type := (.object "java/lang/ModuleLayer"), accessFlags := 8, slot := 13, constantValue := 0 }]
  methods := #[k5m0, k5m1]
  instanceTypes := #[]
  staticTypes := #[(.object "java/io/InputStream"), (.object "java/io/PrintStream"), (.object "java/io/PrintStream"), (.object "java/io/InputStream"), .int, .int, .int, (.object "java/lang/SecurityManager"), (.object "java/lang/String"), (.object "java/io/Console"), (.object "java/io/PrintStream"), (.object "java/util/Properties"), (.object "java/lang/String"), (.object "java/lang/ModuleLayer")]
  resolved := Array.replicate 834 none
  statics := none }

def pool6 : Array CpInfo := pool [(1, u "java/lang/Cloneable"), (0, .class_ 1), (0, u "java/lang/Object"), (0, .class_ 3)] 3

/-- java/lang/Cloneable -/
def k6 : Class := { plain "java/lang/Cloneable" (some 0) with
  accessFlags := 1537
  interfaces := #[]
  cf := some (fileOf pool6 2 #[] #[] 1537 4 #[] #[])
  fields := #[]
  methods := #[]
  instanceTypes := #[]
  staticTypes := #[]
  resolved := Array.replicate 8 none
  statics := none }

def pool7 : Array CpInfo := pool [(1, u "java/io/Serializable"), (0, .class_ 1), (0, u "java/lang/Object"), (0, .class_ 3)] 3

/-- java/io/Serializable -/
def k7 : Class := { plain "java/io/Serializable" (some 0) with
  accessFlags := 1537
  interfaces := #[]
  cf := some (fileOf pool7 2 #[] #[] 1537 4 #[] #[])
  fields := #[]
  methods := #[]
  instanceTypes := #[]
  staticTypes := #[]
  resolved := Array.replicate 8 none
  statics := none }

/-- the primitive byte -/
def k8 : Class := { plain "byte" none with kind := .primitive 'B', accessFlags := 0x411 }
/-- [B -/
def k9 : Class := { plain "[B" (some 0) with kind := .array 8 .byte, interfaces := #[6, 7], accessFlags := 1041 }

/-- the primitive int -/
def k10 : Class := { plain "int" none with kind := .primitive 'I', accessFlags := 0x411 }
/-- [I -/
def k11 : Class := { plain "[I" (some 0) with kind := .array 10 .int, interfaces := #[6, 7], accessFlags := 1041 }

def heap : Heap := #[]
def classes : Array Class := #[k0, k1, k2, k3, k4, k5, k6, k7, k8, k9, k10, k11]
def interned : List (Array UInt16 × Addr) := []
def slotsUsed : Nat := 0
def theMethod : MethodId := ⟨1, 1⟩
def args0 : Array Value := #[.int 3, .int 1, .int 2, .int 3, .int 4]
def aboutOver (below : List Frame) : State where
  vm := { classes := classes, interned := interned.toArray }
  heap := heap
  slotsUsed := slotsUsed
  threads := #[{ frames := .invoking theMethod args0 :: below }]
def below0 : List Frame := [.native { method := ⟨0, 0⟩, args := #[] }]
def about1 : State := aboutOver below0
def p0 : Program := .bare "" "" ""
def e0 : Env := launch0.env 0 0 0
theorem w_frames : about1.frames = Frame.invoking theMethod args0 :: below0 := rfl
set_option maxRecDepth 65536 in
theorem w_args : argsFit about1.vm theMethod args0 = true := by decide +kernel
set_option maxRecDepth 65536 in
theorem w_heap : heapFits about1 = true := by decide +kernel
set_option maxRecDepth 65536 in
theorem w_runnable : about1.curStatus? = some .runnable := by decide +kernel
set_option maxRecDepth 65536 in
theorem w_alone : about1.alone = true := by decide +kernel
set_option maxRecDepth 65536 in
theorem w_named : about1.methodNamed? x = some theMethod := by decide +kernel
set_option maxRecDepth 65536 in
theorem w_hears : about1.hears theMethod below0 = true := by decide +kernel
set_option maxRecDepth 65536 in
theorem w_ripe : about1.ripe theMethod args0 below0 = true := by decide +kernel
theorem w_running : about1.status = .running := rfl
set_option maxRecDepth 65536 in
theorem w_room : about1.hasRoom e0.platform room_1 = true :=
  launch0.hasRoom_least _ room_1 (by decide +kernel) (by decide +kernel) (by decide +kernel) (by decide +kernel) (by decide +kernel) (by decide +kernel)
theorem allAtoms_all (ts : List Jvm.Cond) (a : Array Jvm.Value) (st : Jvm.State) : (allAtoms ts).before a st = ts.all (fun c => c.before a st) := by
  induction ts with
  | nil => rfl
  | cons c t ih =>
    show (Jvm.Cond.and c (allAtoms t)).before a st = _
    rw [Jvm.Cond.before_and, ih, List.all_cons]
def words1 : List Jvm.Cond := Jvm.Cond.code x code maxLocals ret :: tables_1
/-- a 'code' word, met by the world's own term for the bytes: nothing is compared byte by byte -/
theorem code_word {y : MethodName} {bytes : ByteArray} {mx : Nat} {rt : Option FieldType} {a : Array Value} {s : State} {m : MethodId} {meth : Method} {c : Code} (h1 : s.methodNamed? y = some m) (h2 : s.vm.method? m = some meth) (h3 : meth.code = some c) (h4 : c.code = bytes)
    (h5 : (c.maxLocals == mx && c.exceptionTable.isEmpty && decide (c.maxStack ≤ mostOperands) && decide (meth.sig.returnType = rt) && !meth.locks && decide (parseMethodDescriptor y.desc = some meth.sig)) = true) : (Jvm.Cond.code y bytes mx rt).before a s = true := by
  simp only [Bool.and_eq_true, beq_iff_eq, Bool.not_eq_true', decide_eq_true_eq] at h5
  obtain ⟨⟨⟨⟨⟨g1, g2⟩, g3⟩, g4⟩, g5⟩, g6⟩ := h5
  simp [Cond.before, Cond.holds, Cond.value, h1, h2, h3, h4, g1, g2, g3, g4, g5, g6]
def isCode : Jvm.Cond → Bool
  | .code _ _ _ _ => true
  | _ => false
theorem all_split {L : List Jvm.Cond} {P : Jvm.Cond → Bool} (h1 : L.all (fun c => isCode c || P c) = true) (h2 : ∀ c ∈ L.filter isCode, P c = true) : L.all P = true := by
  refine List.all_eq_true.mpr fun c hc => ?_
  have h := List.all_eq_true.mp h1 c hc
  rcases Bool.eq_false_or_eq_true (isCode c) with hi | hi
  · exact h2 c (List.mem_filter.mpr ⟨hc, hi⟩)
  · simpa [hi] using h
set_option maxRecDepth 65536 in
theorem w_c0 : (Jvm.Cond.code x code maxLocals ret).before args0 about1 = true := code_word (m := ⟨1, 1⟩) (meth := k1m1) (c := k1c1) (by decide +kernel) rfl rfl rfl (by decide +kernel)
set_option maxRecDepth 65536 in
theorem w_c1 : (Jvm.Cond.code ({ cls := "com/example/taxodelta/taxodelta/taxonomy/IntList", name := "<init>", desc := "()V" } : Jvm.MethodName) prog_40_method_1_code (1 : Nat) (Option.none : Option Jvm.ClassFile.FieldType)).before args0 about1 = true := code_word (m := ⟨2, 0⟩) (meth := k2m0) (c := k2c0) (by decide +kernel) rfl rfl rfl (by decide +kernel)
set_option maxRecDepth 65536 in
theorem w_c2 : (Jvm.Cond.code ({ cls := "java/lang/Object", name := "<init>", desc := "()V" } : Jvm.MethodName) object_method_1_code (1 : Nat) (Option.none : Option Jvm.ClassFile.FieldType)).before args0 about1 = true := code_word (m := ⟨0, 0⟩) (meth := k0m0) (c := k0c0) (by decide +kernel) rfl rfl rfl (by decide +kernel)
set_option maxRecDepth 65536 in
theorem w_c3 : (Jvm.Cond.code ({ cls := "com/example/taxodelta/taxodelta/taxonomy/IntList", name := "hashCode", desc := "()I" } : Jvm.MethodName) prog_40_method_11_code (3 : Nat) (Option.some Jvm.ClassFile.FieldType.int)).before args0 about1 = true := code_word (m := ⟨2, 2⟩) (meth := k2m2) (c := k2c2) (by decide +kernel) rfl rfl rfl (by decide +kernel)
set_option maxRecDepth 65536 in
theorem w_c4 : (Jvm.Cond.code ({ cls := "com/example/taxodelta/taxodelta/taxonomy/IntList", name := "add", desc := "(I)V" } : Jvm.MethodName) prog_40_method_2_code (2 : Nat) (Option.none : Option Jvm.ClassFile.FieldType)).before args0 about1 = true := code_word (m := ⟨2, 1⟩) (meth := k2m1) (c := k2c1) (by decide +kernel) rfl rfl rfl (by decide +kernel)
set_option maxRecDepth 65536 in
theorem w_c5 : (Jvm.Cond.code ({ cls := "java/util/Arrays", name := "copyOf", desc := "([II)[I" } : Jvm.MethodName) jdk_65_method_123_code (3 : Nat) (Option.some (Jvm.ClassFile.FieldType.array Jvm.ClassFile.FieldType.int))).before args0 about1 = true := code_word (m := ⟨3, 1⟩) (meth := k3m1) (c := k3c1) (by decide +kernel) rfl rfl rfl (by decide +kernel)
set_option maxRecDepth 65536 in
theorem w_c6 : (Jvm.Cond.code ({ cls := "java/lang/Math", name := "min", desc := "(II)I" } : Jvm.MethodName) jdk_29_method_69_code (2 : Nat) (Option.some Jvm.ClassFile.FieldType.int)).before args0 about1 = true := code_word (m := ⟨4, 1⟩) (meth := k4m1) (c := k4c1) (by decide +kernel) rfl rfl rfl (by decide +kernel)
def codes1 : List Jvm.Cond := [Jvm.Cond.code x code maxLocals ret, Jvm.Cond.code ({ cls := "com/example/taxodelta/taxodelta/taxonomy/IntList", name := "<init>", desc := "()V" } : Jvm.MethodName) prog_40_method_1_code (1 : Nat) (Option.none : Option Jvm.ClassFile.FieldType), Jvm.Cond.code ({ cls := "java/lang/Object", name := "<init>", desc := "()V" } : Jvm.MethodName) object_method_1_code (1 : Nat) (Option.none : Option Jvm.ClassFile.FieldType), Jvm.Cond.code ({ cls := "com/example/taxodelta/taxodelta/taxonomy/IntList", name := "hashCode", desc := "()I" } : Jvm.MethodName) prog_40_method_11_code (3 : Nat) (Option.some Jvm.ClassFile.FieldType.int), Jvm.Cond.code ({ cls := "com/example/taxodelta/taxodelta/taxonomy/IntList", name := "add", desc := "(I)V" } : Jvm.MethodName) prog_40_method_2_code (2 : Nat) (Option.none : Option Jvm.ClassFile.FieldType), Jvm.Cond.code ({ cls := "java/util/Arrays", name := "copyOf", desc := "([II)[I" } : Jvm.MethodName) jdk_65_method_123_code (3 : Nat) (Option.some (Jvm.ClassFile.FieldType.array Jvm.ClassFile.FieldType.int)), Jvm.Cond.code ({ cls := "java/lang/Math", name := "min", desc := "(II)I" } : Jvm.MethodName) jdk_29_method_69_code (2 : Nat) (Option.some Jvm.ClassFile.FieldType.int)]
set_option maxRecDepth 65536 in
theorem codes_eq : words1.filter isCode = codes1 := rfl
theorem w_codes : ∀ c ∈ words1.filter isCode, c.before args0 about1 = true := by
  rw [codes_eq]
  intro c hc
  simp only [codes1, List.mem_cons, List.not_mem_nil, or_false] at hc
  rcases hc with rfl | rfl | rfl | rfl | rfl | rfl | rfl
  · exact w_c0
  · exact w_c1
  · exact w_c2
  · exact w_c3
  · exact w_c4
  · exact w_c5
  · exact w_c6
set_option maxRecDepth 65536 in
theorem w_t1 : (words1.take 24).all (fun c => isCode c || c.before args0 about1) = true := by decide +kernel
set_option maxRecDepth 65536 in
theorem w_t2 : (words1.drop 24).all (fun c => isCode c || c.before args0 about1) = true := by decide +kernel
theorem w_tables : (allAtoms (Jvm.Cond.code x code maxLocals ret :: tables_1)).before args0 about1 = true := by
  rw [allAtoms_all]
  show words1.all (fun c => c.before args0 about1) = true
  refine all_split ?_ w_codes
  rw [← List.take_append_drop 24 words1, List.all_append, w_t1, w_t2]
  rfl
set_option maxRecDepth 65536 in
theorem w_case : (Jvm.Cond.and given_1 narrow_1).before args0 about1 = true := by decide +kernel
theorem w_applies : (headSpec (Jvm.Cond.code x code maxLocals ret :: tables_1) room_1).applies x e0.platform about1 = true :=
  (Spec.applies_iff w_frames).mpr ⟨w_running, w_runnable, w_alone, w_named, w_hears, w_ripe, w_room, w_tables⟩
theorem atStart : AtStart classFile x code maxLocals ret World_1 tables_1 room_1 Calls_1 rest_1 Pre_1 launch0 p0 e0 about1 theMethod args0 below0 :=
  ⟨lists_1, trivial, launch0.admits_env _ _ _, launch0.least_env, fairChoices_fair.cas, fairChoices_fair.clock, w_frames, w_args, w_heap, w_applies, trivial, trivial, w_case⟩
end start1
theorem witness_1 : WitnessClaimed_1 := ⟨start1.p0, start1.e0, start1.about1, start1.theMethod, start1.args0, start1.below0, start1.atStart⟩
end Jvm.Pilot.@@N@@
