import JvmDerived
import JvmDerived.Pilot.@@N@@Statement
import JvmDerived.Pilot.@@N@@Code
set_option linter.unusedVariables false
set_option linter.unusedSimpArgs false
namespace Jvm.RoadKit
open Sem ClassFile Op Lib Jvm.Stand Jvm.Free Jvm.LawKit
/-- the walk that stands at S comes to an end of which P holds -/
def own_Goes (tb : Tables) (e : Env) (below : List Frame) (P : State → Outcome → Prop) (S : State) : Prop := ∃ t o, Steps tb e below S t ∧ P t o
theorem own_Goes.of {tb : Tables} {e : Env} {below : List Frame} {P : State → Outcome → Prop} {S : State} (k : own_Goes tb e below P S) : ∃ t o, Steps tb e below S t ∧ P t o := k
theorem own_Goes.nm {tb : Tables} {e : Env} {below : List Frame} {P : State → Outcome → Prop} {S : State} (k : ∀ P' : State → Outcome → Prop, (∀ t o, P t o → P' t o) → own_Goes tb e below P' S) : own_Goes tb e below P S := k P fun _ _ q => q
theorem own_Goes.st {tb : Tables} {e : Env} {below : List Frame} {P : State → Outcome → Prop} {S S' : State} (k : own_Goes tb e below P S') (h : ∀ t, Steps tb e below S' t → Steps tb e below S t) : own_Goes tb e below P S := by
  obtain ⟨t, o, h1, h2⟩ := k; exact ⟨t, o, h t h1, h2⟩
theorem own_Goes.tr {tb : Tables} {e : Env} {below : List Frame} {P : State → Outcome → Prop} {S S' : State} (h : Steps tb e below S S') (k : own_Goes tb e below P S') : own_Goes tb e below P S := by
  obtain ⟨t, o, h1, h2⟩ := k; exact ⟨t, o, h.trans h1, h2⟩
theorem own_Goes.fin {tb : Tables} {e : Env} {below : List Frame} {P : State → Outcome → Prop} {S : State} (t : State) (o : Outcome) (h : Steps tb e below S t) (k : P t o) : own_Goes tb e below P S := ⟨t, o, h, k⟩
end Jvm.RoadKit
namespace Jvm.Pilot.@@N@@
open Jvm Jvm.ClassFile Sem Op Lib Jvm.Free Jvm.Stand Jvm.LawKit Jvm.RoadKit Bundle Jvm.Pilot.@@N@@.Jvm.D
def own_bit (f : Int32) : Int32 := if (f &&& 16) = 0 then 0 else 1
theorem own_b16 (f : Int32) : (f &&& 16) = 0 ↔ f.toBitVec.getLsbD 4 = false := by
  rw [← Int32.toBitVec_inj, Int32.toBitVec_and]
  have e : (16 : Int32).toBitVec = BitVec.twoPow 32 4 := by decide
  rw [e, BitVec.and_twoPow]
  cases h : f.toBitVec.getLsbD 4 <;> simp [h] <;> decide
theorem own_bit_same (f : Int32) : own_bit f = own_bit (f &&& 16) := by
  have e : (f &&& 16) &&& 16 = f &&& 16 := by rw [Int32.and_assoc]; rfl
  rw [own_bit, own_bit, e]
theorem own_bit_flip (f : Int32) : ¬ own_bit f = own_bit (f ^^^ 16) := by
  have e : (f ^^^ 16).toBitVec.getLsbD 4 = !f.toBitVec.getLsbD 4 := by
    rw [Int32.toBitVec_xor, BitVec.getLsbD_xor]
    have e2 : (16 : Int32).toBitVec.getLsbD 4 = true := by decide
    rw [e2]; cases f.toBitVec.getLsbD 4 <;> rfl
  rw [own_bit, own_bit]
  simp only [own_b16, e]
  cases f.toBitVec.getLsbD 4 <;> decide
theorem own_ef_rec (m : MethodId) (x0 : Addr) : entryFrame m #[(.ref x0)] 1 = mkF m 0 #[.val (.ref x0)] [] := by first | (simp [entryFrame, mkF, argsToLocals, Value.category]; done) | rfl
theorem own_pn_java_lang_Record : plainName "java/lang/Record" = true := by first | (simp [plainName, overriddenIn]; done) | decide +kernel
theorem own_d_jdk_30_method_1_0 : decode jdk_30_method_1_code 0 = .ok (.aload_n 0, 1) := by decide +kernel
theorem own_d_jdk_30_method_1_1 : decode jdk_30_method_1_code 1 = .ok (.invokespecial 1, 3) := by decide +kernel
theorem own_d_jdk_30_method_1_4 : decode jdk_30_method_1_code 4 = .ok (.return_, 1) := by decide +kernel
def Q_rec (Z : State) (a : Addr) (h0 : Heap) (n0 : Nat) (v : Option Value) (h : Heap) (L : List Loc) : Prop := v = none ∧ Fr n0 L ∧ h = h0
set_option maxRecDepth 65536 in
set_option maxHeartbeats 40000000 in
theorem rm_rec (l : Launch) (Z : State) (a0 : Array Value) (hw : ∀ d ∈ tables_1, d.before a0 Z = true) (ws : List Jvm.Cond) (a : Addr) (h0 : Heap) (n0 : Nat) (Z0 : n0 ≤ h0.size) :
    MetFree l (⟨"java/lang/Record", "<init>", "()V"⟩ : MethodName) (head1 (Jvm.Cond.code (⟨"java/lang/Record", "<init>", "()V"⟩ : MethodName) jdk_30_method_1_code 1 none :: ws) ({ frames := 1, cells := 0, slots := 0, locals := 12 } : Room)) (fun as_ U => as_ = #[(.ref a)] ∧ Z.Warmed39 U.vm ∧ U.heap = h0) (fun _ _ _ _ _ => True) (fun _ U o U' => ∃ v L, o = .returned v ∧ Q_rec Z a h0 n0 v U'.heap L ∧ FrameEnd U o U' L ({ frames := 1, cells := 0, slots := 0, locals := 12 } : Room).cells ({ frames := 1, cells := 0, slots := 0, locals := 12 } : Room).slots) := by
  refine MetFree.of_bodySF (plainFor_of_name own_pn_java_lang_Record) hisR ?_
  intro p e s m args below meth c s₁ Bd hml0 hP hK
  obtain ⟨rfl, hZ, hh⟩ := hP
  have hx := Bd.exec
  have hby := Bd.bytes
  have hml : c.maxLocals = 1 := hml0
  have hown : s.vm.findClass "java/lang/Record" = some m.cls := findClass_of_methodNamed Bd.named
  have hnm := (name_of_methodNamed Bd.named Bd.method).1
  have X0 : Stand p l e ({ frames := 1, cells := 0, slots := 0, locals := 12 } : Room) s m #[(.ref a)] below meth c s₁ [] 0 0 := Stand.of_body Bd
  have e0 : s₁.heap = h0 := by rw [← hh, Bd.state]; rfl
  have N0 := Fr.nil n0
  refine own_Goes.of ?_
  refine own_Goes.nm (fun P hPP => ?_)
  refine own_Goes.st ?_ (fun _ k => castTop (own_ef_rec m a) k)
  show own_Goes p.tables e below P (s₁.setTop (mkF m 0 #[.val (.ref a)] []))
  refine own_Goes.st ?_ (fun _ k => XS.aloadN X0.here hx rfl (hb hby own_d_jdk_30_method_1_0) rfl rfl k)
  show own_Goes p.tables e below P (s₁.setTop (mkF m 1 #[.val (.ref a)] [(.ref a)]))
  obtain ⟨T1, X1, e1, st1⟩ := initO X0 hx hZ hown (hw _ (List.mem_of_getElem? (i := 11) rfl)) (hw _ (List.mem_of_getElem? (i := 12) rfl)) (hw _ (List.mem_of_getElem? (i := 13) rfl)) e0 (g := (mkF m 1 #[.val (.ref a)] [(.ref a)])) rfl (by rw [hml]; rfl) rfl (hb hby own_d_jdk_30_method_1_1) (by decide) (W := 0) (by show 2 * 0 + _ ≤ _; exact Nat.le_of_eq rfl) (by decide)
  refine own_Goes.st ?_ st1
  show own_Goes p.tables e below P (T1.setTop (mkF m 4 #[.val (.ref a)] []))
  obtain ⟨fs, hr, hrun, hended, hW, hsame⟩ := X1.leave (v := none) (fun _ => rfl)
  exact own_Goes.fin _ _ (X1.returnOut hx Bd.returns (hb hby own_d_jdk_30_method_1_4) hr) (hPP _ _ ⟨hrun, hended, _, _, rfl, (by show Q_rec Z a h0 n0 _ T1.heap _; rw [e1]; exact ⟨rfl, N0, rfl⟩), ⟨_, rfl⟩, hW, hsame.mono (by decide) (by decide)⟩)
theorem own_ef_new (m : MethodId) (x0 : Addr) (x1 : Int32) (x2 : Int32) : entryFrame m #[(.ref x0), (.int x1), (.int x2)] 3 = mkF m 0 #[.val (.ref x0), .val (.int x1), .val (.int x2)] [] := by first | (simp [entryFrame, mkF, argsToLocals, Value.category]; done) | rfl
theorem own_pn_com_example_tempograph_tempograph_pcep_Rp : plainName "com/example/tempograph/tempograph/pcep/Rp" = true := by first | (simp [plainName, overriddenIn]; done) | decide +kernel
theorem own_d_prog_27_method_1_0 : decode prog_27_method_1_code 0 = .ok (.aload_n 0, 1) := by decide +kernel
theorem own_pd__28__29_V : parseMethodDescriptor "()V" = some ⟨[], none⟩ := by decide +kernel
theorem own_d_prog_27_method_1_1 : decode prog_27_method_1_code 1 = .ok (.invokespecial 1, 3) := by decide +kernel
theorem own_d_prog_27_method_1_4 : decode prog_27_method_1_code 4 = .ok (.aload_n 0, 1) := by decide +kernel
theorem own_d_prog_27_method_1_5 : decode prog_27_method_1_code 5 = .ok (.iload_n 1, 1) := by decide +kernel
theorem own_d_prog_27_method_1_6 : decode prog_27_method_1_code 6 = .ok (.putfield 7, 3) := by decide +kernel
theorem own_d_prog_27_method_1_9 : decode prog_27_method_1_code 9 = .ok (.aload_n 0, 1) := by decide +kernel
theorem own_d_prog_27_method_1_10 : decode prog_27_method_1_code 10 = .ok (.iload_n 2, 1) := by decide +kernel
theorem own_d_prog_27_method_1_11 : decode prog_27_method_1_code 11 = .ok (.putfield 13, 3) := by decide +kernel
theorem own_d_prog_27_method_1_14 : decode prog_27_method_1_code 14 = .ok (.return_, 1) := by decide +kernel
def Q_new (Z : State) (a : Addr) (f : Int32) (r : Int32) (u1 : Value) (u2 : Value) (h0 : Heap) (n0 : Nat) (v : Option Value) (h : Heap) (L : List Loc) : Prop := v = none ∧ Fr n0 L ∧ Keep h0 h [a] ∧ (Exa Z h a "com/example/tempograph/tempograph/pcep/Rp") ∧ (Fld Z h a "com/example/tempograph/tempograph/pcep/Rp" "flags" "I" (.int f))
set_option maxRecDepth 65536 in
set_option maxHeartbeats 40000000 in
theorem rm_new (l : Launch) (Z : State) (a0 : Array Value) (hw : ∀ d ∈ tables_1, d.before a0 Z = true) (ws : List Jvm.Cond) (a : Addr) (f : Int32) (r : Int32) (u1 : Value) (u2 : Value) (h0 : Heap) (n0 : Nat) (Z0 : n0 ≤ h0.size) (pr0 : Exa Z h0 a "com/example/tempograph/tempograph/pcep/Rp") (pr1 : Fld Z h0 a "com/example/tempograph/tempograph/pcep/Rp" "flags" "I" u1) (pr2 : Fld Z h0 a "com/example/tempograph/tempograph/pcep/Rp" "requestId" "I" u2) (pr3 : n0 ≤ a) :
    MetFree l (⟨"com/example/tempograph/tempograph/pcep/Rp", "<init>", "(II)V"⟩ : MethodName) (head1 (Jvm.Cond.code (⟨"com/example/tempograph/tempograph/pcep/Rp", "<init>", "(II)V"⟩ : MethodName) prog_27_method_1_code 3 none :: ws) ({ frames := 2, cells := 0, slots := 0, locals := 24 } : Room)) (fun as_ U => as_ = #[(.ref a), (.int f), (.int r)] ∧ Z.Warmed39 U.vm ∧ U.heap = h0) (fun _ _ _ _ _ => True) (fun _ U o U' => ∃ v L, o = .returned v ∧ Q_new Z a f r u1 u2 h0 n0 v U'.heap L ∧ FrameEnd U o U' L ({ frames := 2, cells := 0, slots := 0, locals := 24 } : Room).cells ({ frames := 2, cells := 0, slots := 0, locals := 24 } : Room).slots) := by
  refine MetFree.of_bodySF (plainFor_of_name own_pn_com_example_tempograph_tempograph_pcep_Rp) hisR ?_
  intro p e s m args below meth c s₁ Bd hml0 hP hK
  obtain ⟨rfl, hZ, hh⟩ := hP
  have hx := Bd.exec
  have hby := Bd.bytes
  have hml : c.maxLocals = 3 := hml0
  have hown : s.vm.findClass "com/example/tempograph/tempograph/pcep/Rp" = some m.cls := findClass_of_methodNamed Bd.named
  have hnm := (name_of_methodNamed Bd.named Bd.method).1
  have X0 : Stand p l e ({ frames := 2, cells := 0, slots := 0, locals := 24 } : Room) s m #[(.ref a), (.int f), (.int r)] below meth c s₁ [] 0 0 := Stand.of_body Bd
  have e0 : s₁.heap = h0 := by rw [← hh, Bd.state]; rfl
  have N0 := Fr.nil n0
  refine own_Goes.of ?_
  refine own_Goes.nm (fun P hPP => ?_)
  refine own_Goes.st ?_ (fun _ k => castTop (own_ef_new m a f r) k)
  have K0 : Keep h0 h0 [a] := Keep.refl _ _
  show own_Goes p.tables e below P (s₁.setTop (mkF m 0 #[.val (.ref a), .val (.int f), .val (.int r)] []))
  refine own_Goes.st ?_ (fun _ k => XS.aloadN X0.here hx rfl (hb hby own_d_prog_27_method_1_0) rfl rfl k)
  show own_Goes p.tables e below P (s₁.setTop (mkF m 1 #[.val (.ref a), .val (.int f), .val (.int r)] [(.ref a)]))
  obtain ⟨_, _, ⟨T1, L1, k1, n1⟩, -, X1, ⟨Lc1, hQ1, l1, y1, z1⟩, st1⟩ := X0.specialBack hx (y := (⟨"java/lang/Record", "<init>", "()V"⟩ : MethodName)) rfl hown (mvT hZ (hw _ (List.mem_of_getElem? (i := 6) rfl))) (mvT hZ (hw _ (List.mem_of_getElem? (i := 7) rfl))) (mvT hZ (hw _ (List.mem_of_getElem? (i := 10) rfl))) (by decide) (backOf (W := 0) (rm_rec l Z a0 hw [] a h0 n0 Z0) hZ (hw _ (List.mem_of_getElem? (i := 10) rfl)) (hw _ (List.mem_of_getElem? (i := 9) rfl)) (by decide) (by decide)) (g := (mkF m 1 #[.val (.ref a), .val (.int f), .val (.int r)] [(.ref a)])) rfl (by rw [hml]; rfl) (Steps.refl _) (a := a) (argsL := []) (rest := []) (lenOf own_pd__28__29_V rfl) rfl (by show 2 * 0 + _ ≤ _; exact Nat.le_of_eq rfl) (hb hby own_d_prog_27_method_1_1) (fun _ _ => ⟨rfl, e0, (by decide : 0 + 0 ≤ _), (by decide : 0 + 0 ≤ _)⟩)
  dsimp only [Pt.U, Pt.locs, Pt.cells, Pt.slots] at X1 l1 y1 z1 st1 hQ1
  subst l1 y1 z1
  obtain ⟨rfl, Nq1, e1⟩ := hQ1
  have N1 := Fr.app N0 Nq1
  refine own_Goes.tr st1 ?_
  show own_Goes p.tables e below P (T1.setTop (mkF m 4 #[.val (.ref a), .val (.int f), .val (.int r)] []))
  refine own_Goes.st ?_ (fun _ k => XS.aloadN X1.here hx rfl (hb hby own_d_prog_27_method_1_4) rfl rfl k)
  show own_Goes p.tables e below P (T1.setTop (mkF m 5 #[.val (.ref a), .val (.int f), .val (.int r)] [(.ref a)]))
  refine own_Goes.st ?_ (fun _ k => XS.iloadN X1.here hx rfl (hb hby own_d_prog_27_method_1_5) rfl k)
  show own_Goes p.tables e below P (T1.setTop (mkF m 6 #[.val (.ref a), .val (.int f), .val (.int r)] [(.int f), (.ref a)]))
  obtain ⟨T2, h2, X2, e2, W2, st2⟩ := putF X1 hx hZ hown (host := "") (Or.inl (hw _ (List.mem_of_getElem? (i := 14) rfl))) Via.refl e1 pr1 pr0 (Or.inr ⟨(hw _ (List.mem_of_getElem? (i := 15) rfl)), rfl, hnm⟩) (hw _ (List.mem_of_getElem? (i := 1) rfl)) (ty := .int) (by decide) rfl rfl (g := (mkF m 6 #[.val (.ref a), .val (.int f), .val (.int r)] [(.int f), (.ref a)])) rfl rfl (hb hby own_d_prog_27_method_1_6)
  refine own_Goes.st ?_ st2
  have F3 : Fld Z h2 a "com/example/tempograph/tempograph/pcep/Rp" "flags" "I" (.int f) := pr1.same W2
  have Z4 : n0 ≤ h2.size := by rw [W2.size]; exact Z0
  have K5 := K0.wr W2 (Or.inl (List.mem_of_getElem? (i := 0) rfl))
  have N6 := Fr.snoc X2 N1 pr3
  show own_Goes p.tables e below P (T2.setTop (mkF m 9 #[.val (.ref a), .val (.int f), .val (.int r)] []))
  refine own_Goes.st ?_ (fun _ k => XS.aloadN X2.here hx rfl (hb hby own_d_prog_27_method_1_9) rfl rfl k)
  show own_Goes p.tables e below P (T2.setTop (mkF m 10 #[.val (.ref a), .val (.int f), .val (.int r)] [(.ref a)]))
  refine own_Goes.st ?_ (fun _ k => XS.iloadN X2.here hx rfl (hb hby own_d_prog_27_method_1_10) rfl k)
  show own_Goes p.tables e below P (T2.setTop (mkF m 11 #[.val (.ref a), .val (.int f), .val (.int r)] [(.int r), (.ref a)]))
  have F7 : Fld Z h2 a "com/example/tempograph/tempograph/pcep/Rp" "requestId" "I" u2 := (pr2.other W2 (Or.inr (slot_ne (Or.inr (hw _ (List.mem_of_getElem? (i := 17) rfl))) (Or.inr (hw _ (List.mem_of_getElem? (i := 15) rfl))) (by decide) (t := .int) (t' := .int) (by decide) (by decide))))
  have F8 : Exa Z h2 a "com/example/tempograph/tempograph/pcep/Rp" := (pr0.wr W2)
  obtain ⟨T9, h9, X9, e9, W9, st9⟩ := putF X2 hx hZ hown (host := "") (Or.inl (hw _ (List.mem_of_getElem? (i := 16) rfl))) Via.refl e2 F7 F8 (Or.inr ⟨(hw _ (List.mem_of_getElem? (i := 17) rfl)), rfl, hnm⟩) (hw _ (List.mem_of_getElem? (i := 1) rfl)) (ty := .int) (by decide) rfl rfl (g := (mkF m 11 #[.val (.ref a), .val (.int f), .val (.int r)] [(.int r), (.ref a)])) rfl rfl (hb hby own_d_prog_27_method_1_11)
  refine own_Goes.st ?_ st9
  have F10 : Fld Z h9 a "com/example/tempograph/tempograph/pcep/Rp" "requestId" "I" (.int r) := F7.same W9
  have Z11 : n0 ≤ h9.size := by rw [W9.size]; exact Z4
  have K12 := K5.wr W9 (Or.inl (List.mem_of_getElem? (i := 0) rfl))
  have N13 := Fr.snoc X9 N6 pr3
  show own_Goes p.tables e below P (T9.setTop (mkF m 14 #[.val (.ref a), .val (.int f), .val (.int r)] []))
  obtain ⟨fs, hr, hrun, hended, hW, hsame⟩ := X9.leave (v := none) (fun _ => rfl)
  have F14 : Exa Z h9 a "com/example/tempograph/tempograph/pcep/Rp" := (F8.wr W9)
  have F15 : Fld Z h9 a "com/example/tempograph/tempograph/pcep/Rp" "flags" "I" (.int f) := (F3.other W9 (Or.inr (slot_ne (Or.inr (hw _ (List.mem_of_getElem? (i := 15) rfl))) (Or.inr (hw _ (List.mem_of_getElem? (i := 17) rfl))) (by decide) (t := .int) (t' := .int) (by decide) (by decide))))
  exact own_Goes.fin _ _ (X9.returnOut hx Bd.returns (hb hby own_d_prog_27_method_1_14) hr) (hPP _ _ ⟨hrun, hended, _, _, rfl, (by show Q_new Z a f r u1 u2 h0 n0 _ T9.heap _; rw [e9]; exact ⟨rfl, N13, K12, F14, F15⟩), ⟨_, rfl⟩, hW, hsame.mono (by decide) (by decide)⟩)
theorem own_ef_bid (m : MethodId) (x0 : Addr) : entryFrame m #[(.ref x0)] 1 = mkF m 0 #[.val (.ref x0)] [] := by first | (simp [entryFrame, mkF, argsToLocals, Value.category]; done) | rfl
theorem own_d_prog_27_method_3_0 : decode prog_27_method_3_code 0 = .ok (.aload_n 0, 1) := by decide +kernel
theorem own_d_prog_27_method_3_1 : decode prog_27_method_3_code 1 = .ok (.getfield 7, 3) := by decide +kernel
theorem own_d_prog_27_method_3_4 : decode prog_27_method_3_code 4 = .ok (.bipush 16, 2) := by decide +kernel
theorem own_d_prog_27_method_3_6 : decode prog_27_method_3_code 6 = .ok (.iand, 1) := by decide +kernel
theorem own_d_prog_27_method_3_7 : decode prog_27_method_3_code 7 = .ok (.ifCond .eq 7, 3) := by decide +kernel
theorem own_d_prog_27_method_3_14 : decode prog_27_method_3_code 14 = .ok (.iconst 0, 1) := by decide +kernel
theorem own_d_prog_27_method_3_15 : decode prog_27_method_3_code 15 = .ok (.ireturn, 1) := by decide +kernel
theorem own_d_prog_27_method_3_10 : decode prog_27_method_3_code 10 = .ok (.iconst 1, 1) := by decide +kernel
theorem own_d_prog_27_method_3_11 : decode prog_27_method_3_code 11 = .ok (.goto 4, 3) := by decide +kernel
def Q_bid (Z : State) (a : Addr) (f : Int32) (h0 : Heap) (n0 : Nat) (v : Option Value) (h : Heap) (L : List Loc) : Prop := v = some (.int (own_bit f)) ∧ Fr n0 L ∧ h = h0
set_option maxRecDepth 65536 in
set_option maxHeartbeats 40000000 in
theorem rm_bid (l : Launch) (Z : State) (a0 : Array Value) (hw : ∀ d ∈ tables_1, d.before a0 Z = true) (ws : List Jvm.Cond) (a : Addr) (f : Int32) (h0 : Heap) (n0 : Nat) (Z0 : n0 ≤ h0.size) (pr0 : Fld Z h0 a "com/example/tempograph/tempograph/pcep/Rp" "flags" "I" (.int f)) :
    MetFree l (⟨"com/example/tempograph/tempograph/pcep/Rp", "bidirectional", "()Z"⟩ : MethodName) (head1 (Jvm.Cond.code (⟨"com/example/tempograph/tempograph/pcep/Rp", "bidirectional", "()Z"⟩ : MethodName) prog_27_method_3_code 1 (some .boolean) :: ws) ({ frames := 0, cells := 0, slots := 0, locals := 0 } : Room)) (fun as_ U => as_ = #[(.ref a)] ∧ Z.Warmed39 U.vm ∧ U.heap = h0) (fun _ _ _ _ _ => True) (fun _ U o U' => ∃ v L, o = .returned v ∧ Q_bid Z a f h0 n0 v U'.heap L ∧ FrameEnd U o U' L ({ frames := 0, cells := 0, slots := 0, locals := 0 } : Room).cells ({ frames := 0, cells := 0, slots := 0, locals := 0 } : Room).slots) := by
  refine MetFree.of_bodySF (plainFor_of_name own_pn_com_example_tempograph_tempograph_pcep_Rp) hisR ?_
  intro p e s m args below meth c s₁ Bd hml0 hP hK
  obtain ⟨rfl, hZ, hh⟩ := hP
  have hx := Bd.exec
  have hby := Bd.bytes
  have hml : c.maxLocals = 1 := hml0
  have hown : s.vm.findClass "com/example/tempograph/tempograph/pcep/Rp" = some m.cls := findClass_of_methodNamed Bd.named
  have hnm := (name_of_methodNamed Bd.named Bd.method).1
  have X0 : Stand p l e ({ frames := 0, cells := 0, slots := 0, locals := 0 } : Room) s m #[(.ref a)] below meth c s₁ [] 0 0 := Stand.of_body Bd
  have e0 : s₁.heap = h0 := by rw [← hh, Bd.state]; rfl
  have N0 := Fr.nil n0
  refine own_Goes.of ?_
  refine own_Goes.nm (fun P hPP => ?_)
  refine own_Goes.st ?_ (fun _ k => castTop (own_ef_bid m a) k)
  show own_Goes p.tables e below P (s₁.setTop (mkF m 0 #[.val (.ref a)] []))
  refine own_Goes.st ?_ (fun _ k => XS.aloadN X0.here hx rfl (hb hby own_d_prog_27_method_3_0) rfl rfl k)
  show own_Goes p.tables e below P (s₁.setTop (mkF m 1 #[.val (.ref a)] [(.ref a)]))
  obtain ⟨T1, X1, e1, st1⟩ := getF X0 hx hZ hown (host := "") (Or.inl (hw _ (List.mem_of_getElem? (i := 14) rfl))) Via.refl e0 pr0 (g := (mkF m 1 #[.val (.ref a)] [(.ref a)])) rfl rfl (hb hby own_d_prog_27_method_3_1)
  refine own_Goes.st ?_ st1
  show own_Goes p.tables e below P (T1.setTop (mkF m 4 #[.val (.ref a)] [(.int f)]))
  refine own_Goes.st ?_ (fun _ k => XS.bipush X1.here hx rfl (hb hby own_d_prog_27_method_3_4) k)
  show own_Goes p.tables e below P (T1.setTop (mkF m 6 #[.val (.ref a)] [(.int (16 : Int32)), (.int f)]))
  refine own_Goes.st ?_ (fun _ k => XS.iand X1.here hx rfl (hb hby own_d_prog_27_method_3_6) rfl k)
  show own_Goes p.tables e below P (T1.setTop (mkF m 7 #[.val (.ref a)] [(.int (f &&& (16 : Int32)))]))
  by_cases h1 : (f &&& (16 : Int32)) = (0 : Int32)
  · skip
    refine own_Goes.st ?_ (fun _ k => XS.ifYes X1.here hx rfl (pc0 := 7) (pc' := 14) rfl (hb hby own_d_prog_27_method_3_7) rfl ((if0 _ _).trans (teq h1).1) (by decide) (by decide) k)
    show own_Goes p.tables e below P (T1.setTop (mkF m 14 #[.val (.ref a)] []))
    refine own_Goes.st ?_ (fun _ k => XS.iconst X1.here hx rfl (hb hby own_d_prog_27_method_3_14) k)
    show own_Goes p.tables e below P (T1.setTop (mkF m 15 #[.val (.ref a)] [(.int (0 : Int32))]))
    obtain ⟨fs, hr, hrun, hended, hW, hsame⟩ := X1.leave (v := some (.int (0 : Int32))) (fun h => by rw [Bd.returns] at h; cases h)
    exact own_Goes.fin _ _ (retOut X1 hx (t := .boolean) Bd.returns rfl (Or.inl ⟨rfl, Or.inr (Or.inl rfl), _, rfl⟩) (hb hby own_d_prog_27_method_3_15) hr) (hPP _ _ ⟨hrun, hended, _, _, rfl, (by show Q_bid Z a f h0 n0 _ T1.heap _; rw [e1]; exact ⟨(by rw [own_bit, if_pos h1]), N0, rfl⟩), ⟨_, rfl⟩, hW, hsame.mono (by decide) (by decide)⟩)
  · skip
    refine own_Goes.st ?_ (fun _ k => XS.ifNo X1.here hx rfl (hb hby own_d_prog_27_method_3_7) rfl ((if0 _ _).trans (feq h1).1) k)
    show own_Goes p.tables e below P (T1.setTop (mkF m 10 #[.val (.ref a)] []))
    refine own_Goes.st ?_ (fun _ k => XS.iconst X1.here hx rfl (hb hby own_d_prog_27_method_3_10) k)
    show own_Goes p.tables e below P (T1.setTop (mkF m 11 #[.val (.ref a)] [(.int (1 : Int32))]))
    refine own_Goes.st ?_ (fun _ k => XS.goto X1.here hx rfl (pc0 := 11) (pc' := 15) rfl (hb hby own_d_prog_27_method_3_11) (by decide) (by decide) k)
    show own_Goes p.tables e below P (T1.setTop (mkF m 15 #[.val (.ref a)] [(.int (1 : Int32))]))
    obtain ⟨fs, hr, hrun, hended, hW, hsame⟩ := X1.leave (v := some (.int (1 : Int32))) (fun h => by rw [Bd.returns] at h; cases h)
    exact own_Goes.fin _ _ (retOut X1 hx (t := .boolean) Bd.returns rfl (Or.inl ⟨rfl, Or.inr (Or.inl rfl), _, rfl⟩) (hb hby own_d_prog_27_method_3_15) hr) (hPP _ _ ⟨hrun, hended, _, _, rfl, (by show Q_bid Z a f h0 n0 _ T1.heap _; rw [e1]; exact ⟨(by rw [own_bit, if_neg h1]), N0, rfl⟩), ⟨_, rfl⟩, hW, hsame.mono (by decide) (by decide)⟩)
theorem own_ef_law (m : MethodId) (x0 : Int32) (x1 : Int32) (x2 : Int32) : entryFrame m #[(.int x0), (.int x1), (.int x2)] maxLocals = mkF m 0 #[.val (.int x0), .val (.int x1), .val (.int x2), .unset, .unset, .unset, .unset, .unset, .unset, .unset, .unset, .unset, .unset] [] := by first | (simp [entryFrame, mkF, argsToLocals, Value.category, maxLocals]; done) | rfl
theorem own_pn_com_example_tempograph_tempograph_pcep_RpBidirectionalPinLaw : plainName "com/example/tempograph/tempograph/pcep/RpBidirectionalPinLaw" = true := by first | (simp [plainName, overriddenIn]; done) | decide +kernel
theorem own_pd__28_II_29_V : parseMethodDescriptor "(II)V" = some ⟨[.int, .int], none⟩ := by decide +kernel
theorem own_pd__28__29_Z : parseMethodDescriptor "()Z" = some ⟨[], some .boolean⟩ := by decide +kernel
def Q_law (n0 : Nat) (v : Option Value) (L : List Loc) : Prop := v = some (.int 1) ∧ Fr n0 L
set_option maxRecDepth 65536 in
set_option maxHeartbeats 40000000 in
theorem rm_law (l : Launch) (Z : State) (a0 : Array Value) (hw : ∀ d ∈ tables_1, d.before a0 Z = true) (ws : List Jvm.Cond) (p0 : Int32) (p1 : Int32) (p2 : Int32) (h0 : Heap) (n0 : Nat) (Z0 : n0 ≤ h0.size) :
    MetFree l x (head1 (Jvm.Cond.code x code maxLocals ret :: ws) room_1) (fun as_ U => as_ = #[(.int p0), (.int p1), (.int p2)] ∧ Z.Warmed39 U.vm ∧ U.heap = h0) (fun _ _ _ _ _ => True) (fun _ U o U' => ∃ v L, o = .returned v ∧ Q_law n0 v L ∧ FrameEnd U o U' L 24 128) := by
  refine MetFree.of_bodySF (plainFor_of_name own_pn_com_example_tempograph_tempograph_pcep_RpBidirectionalPinLaw) hisR ?_
  intro p e s m args below meth c s₁ Bd hml0 hP hK
  obtain ⟨rfl, hZ, hh⟩ := hP
  have hx := Bd.exec
  have hby := Bd.bytes
  have hml : c.maxLocals = 13 := hml0
  have hown : s.vm.findClass "com/example/tempograph/tempograph/pcep/RpBidirectionalPinLaw" = some m.cls := findClass_of_methodNamed Bd.named
  have hnm := (name_of_methodNamed Bd.named Bd.method).1
  have X0 : Stand p l e room_1 s m #[(.int p0), (.int p1), (.int p2)] below meth c s₁ [] 0 0 := Stand.of_body Bd
  have e0 : s₁.heap = h0 := by rw [← hh, Bd.state]; rfl
  have N0 := Fr.nil n0
  refine own_Goes.of ?_
  refine own_Goes.nm (fun P hPP => ?_)
  refine own_Goes.st ?_ (fun _ k => castTop (own_ef_law m p0 p1 p2) k)
  show own_Goes p.tables e below P (s₁.setTop (mkF m 0 #[.val (.int p0), .val (.int p1), .val (.int p2), .unset, .unset, .unset, .unset, .unset, .unset, .unset, .unset, .unset, .unset] []))
  obtain ⟨T1, h1, X1, e1, E1, A1, D1, -, st1⟩ := newO X0 hx hZ hown (hw _ (List.mem_of_getElem? (i := 0) rfl)) (hw _ (List.mem_of_getElem? (i := 1) rfl)) (hw _ (List.mem_of_getElem? (i := 2) rfl)) e0 (g := (mkF m 0 #[.val (.int p0), .val (.int p1), .val (.int p2), .unset, .unset, .unset, .unset, .unset, .unset, .unset, .unset, .unset, .unset] [])) rfl (hb hby at_0) (by decide) (by decide)
  obtain ⟨a1, g1⟩ : ∃ z, z = h0.size := ⟨_, rfl⟩
  rw [← g1] at A1 D1 st1
  have ge_a1 : n0 ≤ a1 := Nat.le_trans Z0 (Nat.le_of_eq g1.symm)
  refine own_Goes.st ?_ st1
  have Z2 : n0 ≤ h1.size := Nat.le_trans Z0 E1.1
  have F3 : Fld Z h1 a1 "com/example/tempograph/tempograph/pcep/Rp" "flags" "I" (.int (0 : Int32)) := D1 (Or.inr (hw _ (List.mem_of_getElem? (i := 15) rfl))) (ty := .int) (by decide)
  have F4 : Fld Z h1 a1 "com/example/tempograph/tempograph/pcep/Rp" "requestId" "I" (.int (0 : Int32)) := D1 (Or.inr (hw _ (List.mem_of_getElem? (i := 17) rfl))) (ty := .int) (by decide)
  show own_Goes p.tables e below P (T1.setTop (mkF m 3 #[.val (.int p0), .val (.int p1), .val (.int p2), .unset, .unset, .unset, .unset, .unset, .unset, .unset, .unset, .unset, .unset] [(.ref a1)]))
  refine own_Goes.st ?_ (fun _ k => XS.dup X1.here hx rfl (hb hby at_3) rfl rfl k)
  show own_Goes p.tables e below P (T1.setTop (mkF m 4 #[.val (.int p0), .val (.int p1), .val (.int p2), .unset, .unset, .unset, .unset, .unset, .unset, .unset, .unset, .unset, .unset] [(.ref a1), (.ref a1)]))
  refine own_Goes.st ?_ (fun _ k => XS.iloadN X1.here hx rfl (hb hby at_4) rfl k)
  show own_Goes p.tables e below P (T1.setTop (mkF m 5 #[.val (.int p0), .val (.int p1), .val (.int p2), .unset, .unset, .unset, .unset, .unset, .unset, .unset, .unset, .unset, .unset] [(.int p0), (.ref a1), (.ref a1)]))
  refine own_Goes.st ?_ (fun _ k => XS.iloadN X1.here hx rfl (hb hby at_5) rfl k)
  show own_Goes p.tables e below P (T1.setTop (mkF m 6 #[.val (.int p0), .val (.int p1), .val (.int p2), .unset, .unset, .unset, .unset, .unset, .unset, .unset, .unset, .unset, .unset] [(.int p1), (.int p0), (.ref a1), (.ref a1)]))
  obtain ⟨_, _, ⟨T5, L5, k5, n5⟩, -, X5, ⟨Lc5, hQ5, l5, y5, z5⟩, st5⟩ := X1.specialBack hx (y := (⟨"com/example/tempograph/tempograph/pcep/Rp", "<init>", "(II)V"⟩ : MethodName)) rfl hown (mvT hZ (hw _ (List.mem_of_getElem? (i := 3) rfl))) (mvT hZ (hw _ (List.mem_of_getElem? (i := 4) rfl))) (mvT hZ (hw _ (List.mem_of_getElem? (i := 5) rfl))) (by decide) (backOf (W := 1) (rm_new l Z a0 hw [] a1 p0 p1 (.int (0 : Int32)) (.int (0 : Int32)) h1 n0 Z2 A1 F3 F4 ge_a1) hZ (hw _ (List.mem_of_getElem? (i := 5) rfl)) (hw _ (List.mem_of_getElem? (i := 2) rfl)) (by decide) (by decide)) (g := (mkF m 6 #[.val (.int p0), .val (.int p1), .val (.int p2), .unset, .unset, .unset, .unset, .unset, .unset, .unset, .unset, .unset, .unset] [(.int p1), (.int p0), (.ref a1), (.ref a1)])) rfl (by rw [hml]; rfl) (Steps.refl _) (a := a1) (argsL := [(.int p0), (.int p1)]) (rest := [(.ref a1)]) (lenOf own_pd__28_II_29_V rfl) rfl (by show 2 * 0 + _ ≤ _; exact Nat.le_of_eq rfl) (hb hby at_6) (fun _ _ => ⟨rfl, e1, (by decide : 1 + 0 ≤ _), (by decide : 2 + 0 ≤ _)⟩)
  dsimp only [Pt.U, Pt.locs, Pt.cells, Pt.slots] at X5 l5 y5 z5 st5 hQ5
  subst l5 y5 z5
  obtain ⟨rfl, Nq5, K5, f6, f7⟩ := hQ5
  have N5 := Fr.app N0 Nq5
  refine own_Goes.tr st5 ?_
  have Z8 : n0 ≤ T5.heap.size := Nat.le_trans Z2 K5.1
  show own_Goes p.tables e below P (T5.setTop (mkF m 9 #[.val (.int p0), .val (.int p1), .val (.int p2), .unset, .unset, .unset, .unset, .unset, .unset, .unset, .unset, .unset, .unset] [(.ref a1)]))
  refine own_Goes.st ?_ (fun _ k => XS.astoreN X5.here hx rfl (hb hby at_9) rfl rfl (l' := #[.val (.int p0), .val (.int p1), .val (.int p2), .val (.ref a1), .unset, .unset, .unset, .unset, .unset, .unset, .unset, .unset, .unset]) rfl k)
  show own_Goes p.tables e below P (T5.setTop (mkF m 10 #[.val (.int p0), .val (.int p1), .val (.int p2), .val (.ref a1), .unset, .unset, .unset, .unset, .unset, .unset, .unset, .unset, .unset] []))
  obtain ⟨T9, h9, X9, e9, E9, A9, D9, -, st9⟩ := newO X5 hx hZ hown (hw _ (List.mem_of_getElem? (i := 0) rfl)) (hw _ (List.mem_of_getElem? (i := 1) rfl)) (hw _ (List.mem_of_getElem? (i := 2) rfl)) rfl (g := (mkF m 10 #[.val (.int p0), .val (.int p1), .val (.int p2), .val (.ref a1), .unset, .unset, .unset, .unset, .unset, .unset, .unset, .unset, .unset] [])) rfl (hb hby at_10) (by decide) (by decide)
  obtain ⟨a9, g9⟩ : ∃ z, z = T5.heap.size := ⟨_, rfl⟩
  rw [← g9] at A9 D9 st9
  have ne10 : a1 ≠ a9 := Nat.ne_of_lt (Nat.lt_of_lt_of_eq f6.lt g9.symm)
  have ge_a9 : n0 ≤ a9 := Nat.le_trans Z8 (Nat.le_of_eq g9.symm)
  refine own_Goes.st ?_ st9
  have Z11 : n0 ≤ h9.size := Nat.le_trans Z8 E9.1
  have F12 : Fld Z h9 a9 "com/example/tempograph/tempograph/pcep/Rp" "flags" "I" (.int (0 : Int32)) := D9 (Or.inr (hw _ (List.mem_of_getElem? (i := 15) rfl))) (ty := .int) (by decide)
  have F13 : Fld Z h9 a9 "com/example/tempograph/tempograph/pcep/Rp" "requestId" "I" (.int (0 : Int32)) := D9 (Or.inr (hw _ (List.mem_of_getElem? (i := 17) rfl))) (ty := .int) (by decide)
  show own_Goes p.tables e below P (T9.setTop (mkF m 13 #[.val (.int p0), .val (.int p1), .val (.int p2), .val (.ref a1), .unset, .unset, .unset, .unset, .unset, .unset, .unset, .unset, .unset] [(.ref a9)]))
  refine own_Goes.st ?_ (fun _ k => XS.dup X9.here hx rfl (hb hby at_13) rfl rfl k)
  show own_Goes p.tables e below P (T9.setTop (mkF m 14 #[.val (.int p0), .val (.int p1), .val (.int p2), .val (.ref a1), .unset, .unset, .unset, .unset, .unset, .unset, .unset, .unset, .unset] [(.ref a9), (.ref a9)]))
  refine own_Goes.st ?_ (fun _ k => XS.iloadN X9.here hx rfl (hb hby at_14) rfl k)
  show own_Goes p.tables e below P (T9.setTop (mkF m 15 #[.val (.int p0), .val (.int p1), .val (.int p2), .val (.ref a1), .unset, .unset, .unset, .unset, .unset, .unset, .unset, .unset, .unset] [(.int p0), (.ref a9), (.ref a9)]))
  refine own_Goes.st ?_ (fun _ k => XS.bipush X9.here hx rfl (hb hby at_15) k)
  show own_Goes p.tables e below P (T9.setTop (mkF m 17 #[.val (.int p0), .val (.int p1), .val (.int p2), .val (.ref a1), .unset, .unset, .unset, .unset, .unset, .unset, .unset, .unset, .unset] [(.int (16 : Int32)), (.int p0), (.ref a9), (.ref a9)]))
  refine own_Goes.st ?_ (fun _ k => XS.iand X9.here hx rfl (hb hby at_17) rfl k)
  show own_Goes p.tables e below P (T9.setTop (mkF m 18 #[.val (.int p0), .val (.int p1), .val (.int p2), .val (.ref a1), .unset, .unset, .unset, .unset, .unset, .unset, .unset, .unset, .unset] [(.int (p0 &&& (16 : Int32))), (.ref a9), (.ref a9)]))
  refine own_Goes.st ?_ (fun _ k => XS.iloadN X9.here hx rfl (hb hby at_18) rfl k)
  show own_Goes p.tables e below P (T9.setTop (mkF m 19 #[.val (.int p0), .val (.int p1), .val (.int p2), .val (.ref a1), .unset, .unset, .unset, .unset, .unset, .unset, .unset, .unset, .unset] [(.int p2), (.int (p0 &&& (16 : Int32))), (.ref a9), (.ref a9)]))
  obtain ⟨_, _, ⟨T14, L14, k14, n14⟩, -, X14, ⟨Lc14, hQ14, l14, y14, z14⟩, st14⟩ := X9.specialBack hx (y := (⟨"com/example/tempograph/tempograph/pcep/Rp", "<init>", "(II)V"⟩ : MethodName)) rfl hown (mvT hZ (hw _ (List.mem_of_getElem? (i := 3) rfl))) (mvT hZ (hw _ (List.mem_of_getElem? (i := 4) rfl))) (mvT hZ (hw _ (List.mem_of_getElem? (i := 5) rfl))) (by decide) (backOf (W := 1) (rm_new l Z a0 hw [] a9 (p0 &&& (16 : Int32)) p2 (.int (0 : Int32)) (.int (0 : Int32)) h9 n0 Z11 A9 F12 F13 ge_a9) hZ (hw _ (List.mem_of_getElem? (i := 5) rfl)) (hw _ (List.mem_of_getElem? (i := 2) rfl)) (by decide) (by decide)) (g := (mkF m 19 #[.val (.int p0), .val (.int p1), .val (.int p2), .val (.ref a1), .unset, .unset, .unset, .unset, .unset, .unset, .unset, .unset, .unset] [(.int p2), (.int (p0 &&& (16 : Int32))), (.ref a9), (.ref a9)])) rfl (by rw [hml]; rfl) (Steps.refl _) (a := a9) (argsL := [(.int (p0 &&& (16 : Int32))), (.int p2)]) (rest := [(.ref a9)]) (lenOf own_pd__28_II_29_V rfl) rfl (by show 2 * 0 + _ ≤ _; exact Nat.le_of_eq rfl) (hb hby at_19) (fun _ _ => ⟨rfl, e9, (by decide : 2 + 0 ≤ _), (by decide : 4 + 0 ≤ _)⟩)
  dsimp only [Pt.U, Pt.locs, Pt.cells, Pt.slots] at X14 l14 y14 z14 st14 hQ14
  subst l14 y14 z14
  obtain ⟨rfl, Nq14, K14, f15, f16⟩ := hQ14
  have N14 := Fr.app N5 Nq14
  refine own_Goes.tr st14 ?_
  have Z17 : n0 ≤ T14.heap.size := Nat.le_trans Z11 K14.1
  show own_Goes p.tables e below P (T14.setTop (mkF m 22 #[.val (.int p0), .val (.int p1), .val (.int p2), .val (.ref a1), .unset, .unset, .unset, .unset, .unset, .unset, .unset, .unset, .unset] [(.ref a9)]))
  refine own_Goes.st ?_ (fun _ k => XS.astore X14.here hx rfl (hb hby at_22) rfl rfl (l' := #[.val (.int p0), .val (.int p1), .val (.int p2), .val (.ref a1), .val (.ref a9), .unset, .unset, .unset, .unset, .unset, .unset, .unset, .unset]) rfl k)
  show own_Goes p.tables e below P (T14.setTop (mkF m 24 #[.val (.int p0), .val (.int p1), .val (.int p2), .val (.ref a1), .val (.ref a9), .unset, .unset, .unset, .unset, .unset, .unset, .unset, .unset] []))
  obtain ⟨T18, h18, X18, e18, E18, A18, D18, -, st18⟩ := newO X14 hx hZ hown (hw _ (List.mem_of_getElem? (i := 0) rfl)) (hw _ (List.mem_of_getElem? (i := 1) rfl)) (hw _ (List.mem_of_getElem? (i := 2) rfl)) rfl (g := (mkF m 24 #[.val (.int p0), .val (.int p1), .val (.int p2), .val (.ref a1), .val (.ref a9), .unset, .unset, .unset, .unset, .unset, .unset, .unset, .unset] [])) rfl (hb hby at_24) (by decide) (by decide)
  obtain ⟨a18, g18⟩ : ∃ z, z = T14.heap.size := ⟨_, rfl⟩
  rw [← g18] at A18 D18 st18
  have F19 : Exa Z T14.heap a1 "com/example/tempograph/tempograph/pcep/Rp" := ((f6.ext E9).keep K14)
  have ne20 : a1 ≠ a18 := Nat.ne_of_lt (Nat.lt_of_lt_of_eq F19.lt g18.symm)
  have ne21 : a9 ≠ a18 := Nat.ne_of_lt (Nat.lt_of_lt_of_eq f15.lt g18.symm)
  have ge_a18 : n0 ≤ a18 := Nat.le_trans Z17 (Nat.le_of_eq g18.symm)
  refine own_Goes.st ?_ st18
  have Z22 : n0 ≤ h18.size := Nat.le_trans Z17 E18.1
  have F23 : Fld Z h18 a18 "com/example/tempograph/tempograph/pcep/Rp" "flags" "I" (.int (0 : Int32)) := D18 (Or.inr (hw _ (List.mem_of_getElem? (i := 15) rfl))) (ty := .int) (by decide)
  have F24 : Fld Z h18 a18 "com/example/tempograph/tempograph/pcep/Rp" "requestId" "I" (.int (0 : Int32)) := D18 (Or.inr (hw _ (List.mem_of_getElem? (i := 17) rfl))) (ty := .int) (by decide)
  show own_Goes p.tables e below P (T18.setTop (mkF m 27 #[.val (.int p0), .val (.int p1), .val (.int p2), .val (.ref a1), .val (.ref a9), .unset, .unset, .unset, .unset, .unset, .unset, .unset, .unset] [(.ref a18)]))
  refine own_Goes.st ?_ (fun _ k => XS.dup X18.here hx rfl (hb hby at_27) rfl rfl k)
  show own_Goes p.tables e below P (T18.setTop (mkF m 28 #[.val (.int p0), .val (.int p1), .val (.int p2), .val (.ref a1), .val (.ref a9), .unset, .unset, .unset, .unset, .unset, .unset, .unset, .unset] [(.ref a18), (.ref a18)]))
  refine own_Goes.st ?_ (fun _ k => XS.iconst X18.here hx rfl (hb hby at_28) k)
  show own_Goes p.tables e below P (T18.setTop (mkF m 29 #[.val (.int p0), .val (.int p1), .val (.int p2), .val (.ref a1), .val (.ref a9), .unset, .unset, .unset, .unset, .unset, .unset, .unset, .unset] [(.int (0 : Int32)), (.ref a18), (.ref a18)]))
  refine own_Goes.st ?_ (fun _ k => XS.iloadN X18.here hx rfl (hb hby at_29) rfl k)
  show own_Goes p.tables e below P (T18.setTop (mkF m 30 #[.val (.int p0), .val (.int p1), .val (.int p2), .val (.ref a1), .val (.ref a9), .unset, .unset, .unset, .unset, .unset, .unset, .unset, .unset] [(.int p1), (.int (0 : Int32)), (.ref a18), (.ref a18)]))
  obtain ⟨_, _, ⟨T25, L25, k25, n25⟩, -, X25, ⟨Lc25, hQ25, l25, y25, z25⟩, st25⟩ := X18.specialBack hx (y := (⟨"com/example/tempograph/tempograph/pcep/Rp", "<init>", "(II)V"⟩ : MethodName)) rfl hown (mvT hZ (hw _ (List.mem_of_getElem? (i := 3) rfl))) (mvT hZ (hw _ (List.mem_of_getElem? (i := 4) rfl))) (mvT hZ (hw _ (List.mem_of_getElem? (i := 5) rfl))) (by decide) (backOf (W := 1) (rm_new l Z a0 hw [] a18 (0 : Int32) p1 (.int (0 : Int32)) (.int (0 : Int32)) h18 n0 Z22 A18 F23 F24 ge_a18) hZ (hw _ (List.mem_of_getElem? (i := 5) rfl)) (hw _ (List.mem_of_getElem? (i := 2) rfl)) (by decide) (by decide)) (g := (mkF m 30 #[.val (.int p0), .val (.int p1), .val (.int p2), .val (.ref a1), .val (.ref a9), .unset, .unset, .unset, .unset, .unset, .unset, .unset, .unset] [(.int p1), (.int (0 : Int32)), (.ref a18), (.ref a18)])) rfl (by rw [hml]; rfl) (Steps.refl _) (a := a18) (argsL := [(.int (0 : Int32)), (.int p1)]) (rest := [(.ref a18)]) (lenOf own_pd__28_II_29_V rfl) rfl (by show 2 * 0 + _ ≤ _; exact Nat.le_of_eq rfl) (hb hby at_30) (fun _ _ => ⟨rfl, e18, (by decide : 3 + 0 ≤ _), (by decide : 6 + 0 ≤ _)⟩)
  dsimp only [Pt.U, Pt.locs, Pt.cells, Pt.slots] at X25 l25 y25 z25 st25 hQ25
  subst l25 y25 z25
  obtain ⟨rfl, Nq25, K25, f26, f27⟩ := hQ25
  have N25 := Fr.app N14 Nq25
  refine own_Goes.tr st25 ?_
  have Z28 : n0 ≤ T25.heap.size := Nat.le_trans Z22 K25.1
  show own_Goes p.tables e below P (T25.setTop (mkF m 33 #[.val (.int p0), .val (.int p1), .val (.int p2), .val (.ref a1), .val (.ref a9), .unset, .unset, .unset, .unset, .unset, .unset, .unset, .unset] [(.ref a18)]))
  refine own_Goes.st ?_ (fun _ k => XS.astore X25.here hx rfl (hb hby at_33) rfl rfl (l' := #[.val (.int p0), .val (.int p1), .val (.int p2), .val (.ref a1), .val (.ref a9), .val (.ref a18), .unset, .unset, .unset, .unset, .unset, .unset, .unset]) rfl k)
  show own_Goes p.tables e below P (T25.setTop (mkF m 35 #[.val (.int p0), .val (.int p1), .val (.int p2), .val (.ref a1), .val (.ref a9), .val (.ref a18), .unset, .unset, .unset, .unset, .unset, .unset, .unset] []))
  obtain ⟨T29, h29, X29, e29, E29, A29, D29, -, st29⟩ := newO X25 hx hZ hown (hw _ (List.mem_of_getElem? (i := 0) rfl)) (hw _ (List.mem_of_getElem? (i := 1) rfl)) (hw _ (List.mem_of_getElem? (i := 2) rfl)) rfl (g := (mkF m 35 #[.val (.int p0), .val (.int p1), .val (.int p2), .val (.ref a1), .val (.ref a9), .val (.ref a18), .unset, .unset, .unset, .unset, .unset, .unset, .unset] [])) rfl (hb hby at_35) (by decide) (by decide)
  obtain ⟨a29, g29⟩ : ∃ z, z = T25.heap.size := ⟨_, rfl⟩
  rw [← g29] at A29 D29 st29
  have F30 : Exa Z T25.heap a1 "com/example/tempograph/tempograph/pcep/Rp" := ((F19.ext E18).keep K25)
  have ne31 : a1 ≠ a29 := Nat.ne_of_lt (Nat.lt_of_lt_of_eq F30.lt g29.symm)
  have F32 : Exa Z T25.heap a9 "com/example/tempograph/tempograph/pcep/Rp" := ((f15.ext E18).keep K25)
  have ne33 : a9 ≠ a29 := Nat.ne_of_lt (Nat.lt_of_lt_of_eq F32.lt g29.symm)
  have ne34 : a18 ≠ a29 := Nat.ne_of_lt (Nat.lt_of_lt_of_eq f26.lt g29.symm)
  have ge_a29 : n0 ≤ a29 := Nat.le_trans Z28 (Nat.le_of_eq g29.symm)
  refine own_Goes.st ?_ st29
  have Z35 : n0 ≤ h29.size := Nat.le_trans Z28 E29.1
  have F36 : Fld Z h29 a29 "com/example/tempograph/tempograph/pcep/Rp" "flags" "I" (.int (0 : Int32)) := D29 (Or.inr (hw _ (List.mem_of_getElem? (i := 15) rfl))) (ty := .int) (by decide)
  have F37 : Fld Z h29 a29 "com/example/tempograph/tempograph/pcep/Rp" "requestId" "I" (.int (0 : Int32)) := D29 (Or.inr (hw _ (List.mem_of_getElem? (i := 17) rfl))) (ty := .int) (by decide)
  show own_Goes p.tables e below P (T29.setTop (mkF m 38 #[.val (.int p0), .val (.int p1), .val (.int p2), .val (.ref a1), .val (.ref a9), .val (.ref a18), .unset, .unset, .unset, .unset, .unset, .unset, .unset] [(.ref a29)]))
  refine own_Goes.st ?_ (fun _ k => XS.dup X29.here hx rfl (hb hby at_38) rfl rfl k)
  show own_Goes p.tables e below P (T29.setTop (mkF m 39 #[.val (.int p0), .val (.int p1), .val (.int p2), .val (.ref a1), .val (.ref a9), .val (.ref a18), .unset, .unset, .unset, .unset, .unset, .unset, .unset] [(.ref a29), (.ref a29)]))
  refine own_Goes.st ?_ (fun _ k => XS.bipush X29.here hx rfl (hb hby at_39) k)
  show own_Goes p.tables e below P (T29.setTop (mkF m 41 #[.val (.int p0), .val (.int p1), .val (.int p2), .val (.ref a1), .val (.ref a9), .val (.ref a18), .unset, .unset, .unset, .unset, .unset, .unset, .unset] [(.int (16 : Int32)), (.ref a29), (.ref a29)]))
  refine own_Goes.st ?_ (fun _ k => XS.iloadN X29.here hx rfl (hb hby at_41) rfl k)
  show own_Goes p.tables e below P (T29.setTop (mkF m 42 #[.val (.int p0), .val (.int p1), .val (.int p2), .val (.ref a1), .val (.ref a9), .val (.ref a18), .unset, .unset, .unset, .unset, .unset, .unset, .unset] [(.int p2), (.int (16 : Int32)), (.ref a29), (.ref a29)]))
  obtain ⟨_, _, ⟨T38, L38, k38, n38⟩, -, X38, ⟨Lc38, hQ38, l38, y38, z38⟩, st38⟩ := X29.specialBack hx (y := (⟨"com/example/tempograph/tempograph/pcep/Rp", "<init>", "(II)V"⟩ : MethodName)) rfl hown (mvT hZ (hw _ (List.mem_of_getElem? (i := 3) rfl))) (mvT hZ (hw _ (List.mem_of_getElem? (i := 4) rfl))) (mvT hZ (hw _ (List.mem_of_getElem? (i := 5) rfl))) (by decide) (backOf (W := 1) (rm_new l Z a0 hw [] a29 (16 : Int32) p2 (.int (0 : Int32)) (.int (0 : Int32)) h29 n0 Z35 A29 F36 F37 ge_a29) hZ (hw _ (List.mem_of_getElem? (i := 5) rfl)) (hw _ (List.mem_of_getElem? (i := 2) rfl)) (by decide) (by decide)) (g := (mkF m 42 #[.val (.int p0), .val (.int p1), .val (.int p2), .val (.ref a1), .val (.ref a9), .val (.ref a18), .unset, .unset, .unset, .unset, .unset, .unset, .unset] [(.int p2), (.int (16 : Int32)), (.ref a29), (.ref a29)])) rfl (by rw [hml]; rfl) (Steps.refl _) (a := a29) (argsL := [(.int (16 : Int32)), (.int p2)]) (rest := [(.ref a29)]) (lenOf own_pd__28_II_29_V rfl) rfl (by show 2 * 0 + _ ≤ _; exact Nat.le_of_eq rfl) (hb hby at_42) (fun _ _ => ⟨rfl, e29, (by decide : 4 + 0 ≤ _), (by decide : 8 + 0 ≤ _)⟩)
  dsimp only [Pt.U, Pt.locs, Pt.cells, Pt.slots] at X38 l38 y38 z38 st38 hQ38
  subst l38 y38 z38
  obtain ⟨rfl, Nq38, K38, f39, f40⟩ := hQ38
  have N38 := Fr.app N25 Nq38
  refine own_Goes.tr st38 ?_
  have Z41 : n0 ≤ T38.heap.size := Nat.le_trans Z35 K38.1
  show own_Goes p.tables e below P (T38.setTop (mkF m 45 #[.val (.int p0), .val (.int p1), .val (.int p2), .val (.ref a1), .val (.ref a9), .val (.ref a18), .unset, .unset, .unset, .unset, .unset, .unset, .unset] [(.ref a29)]))
  refine own_Goes.st ?_ (fun _ k => XS.astore X38.here hx rfl (hb hby at_45) rfl rfl (l' := #[.val (.int p0), .val (.int p1), .val (.int p2), .val (.ref a1), .val (.ref a9), .val (.ref a18), .val (.ref a29), .unset, .unset, .unset, .unset, .unset, .unset]) rfl k)
  show own_Goes p.tables e below P (T38.setTop (mkF m 47 #[.val (.int p0), .val (.int p1), .val (.int p2), .val (.ref a1), .val (.ref a9), .val (.ref a18), .val (.ref a29), .unset, .unset, .unset, .unset, .unset, .unset] []))
  obtain ⟨T42, h42, X42, e42, E42, A42, D42, -, st42⟩ := newO X38 hx hZ hown (hw _ (List.mem_of_getElem? (i := 0) rfl)) (hw _ (List.mem_of_getElem? (i := 1) rfl)) (hw _ (List.mem_of_getElem? (i := 2) rfl)) rfl (g := (mkF m 47 #[.val (.int p0), .val (.int p1), .val (.int p2), .val (.ref a1), .val (.ref a9), .val (.ref a18), .val (.ref a29), .unset, .unset, .unset, .unset, .unset, .unset] [])) rfl (hb hby at_47) (by decide) (by decide)
  obtain ⟨a42, g42⟩ : ∃ z, z = T38.heap.size := ⟨_, rfl⟩
  rw [← g42] at A42 D42 st42
  have F43 : Exa Z T38.heap a1 "com/example/tempograph/tempograph/pcep/Rp" := ((F30.ext E29).keep K38)
  have ne44 : a1 ≠ a42 := Nat.ne_of_lt (Nat.lt_of_lt_of_eq F43.lt g42.symm)
  have F45 : Exa Z T38.heap a9 "com/example/tempograph/tempograph/pcep/Rp" := ((F32.ext E29).keep K38)
  have ne46 : a9 ≠ a42 := Nat.ne_of_lt (Nat.lt_of_lt_of_eq F45.lt g42.symm)
  have F47 : Exa Z T38.heap a18 "com/example/tempograph/tempograph/pcep/Rp" := ((f26.ext E29).keep K38)
  have ne48 : a18 ≠ a42 := Nat.ne_of_lt (Nat.lt_of_lt_of_eq F47.lt g42.symm)
  have ne49 : a29 ≠ a42 := Nat.ne_of_lt (Nat.lt_of_lt_of_eq f39.lt g42.symm)
  have ge_a42 : n0 ≤ a42 := Nat.le_trans Z41 (Nat.le_of_eq g42.symm)
  refine own_Goes.st ?_ st42
  have Z50 : n0 ≤ h42.size := Nat.le_trans Z41 E42.1
  have F51 : Fld Z h42 a42 "com/example/tempograph/tempograph/pcep/Rp" "flags" "I" (.int (0 : Int32)) := D42 (Or.inr (hw _ (List.mem_of_getElem? (i := 15) rfl))) (ty := .int) (by decide)
  have F52 : Fld Z h42 a42 "com/example/tempograph/tempograph/pcep/Rp" "requestId" "I" (.int (0 : Int32)) := D42 (Or.inr (hw _ (List.mem_of_getElem? (i := 17) rfl))) (ty := .int) (by decide)
  show own_Goes p.tables e below P (T42.setTop (mkF m 50 #[.val (.int p0), .val (.int p1), .val (.int p2), .val (.ref a1), .val (.ref a9), .val (.ref a18), .val (.ref a29), .unset, .unset, .unset, .unset, .unset, .unset] [(.ref a42)]))
  refine own_Goes.st ?_ (fun _ k => XS.dup X42.here hx rfl (hb hby at_50) rfl rfl k)
  show own_Goes p.tables e below P (T42.setTop (mkF m 51 #[.val (.int p0), .val (.int p1), .val (.int p2), .val (.ref a1), .val (.ref a9), .val (.ref a18), .val (.ref a29), .unset, .unset, .unset, .unset, .unset, .unset] [(.ref a42), (.ref a42)]))
  refine own_Goes.st ?_ (fun _ k => XS.iloadN X42.here hx rfl (hb hby at_51) rfl k)
  show own_Goes p.tables e below P (T42.setTop (mkF m 52 #[.val (.int p0), .val (.int p1), .val (.int p2), .val (.ref a1), .val (.ref a9), .val (.ref a18), .val (.ref a29), .unset, .unset, .unset, .unset, .unset, .unset] [(.int p0), (.ref a42), (.ref a42)]))
  refine own_Goes.st ?_ (fun _ k => XS.bipush X42.here hx rfl (hb hby at_52) k)
  show own_Goes p.tables e below P (T42.setTop (mkF m 54 #[.val (.int p0), .val (.int p1), .val (.int p2), .val (.ref a1), .val (.ref a9), .val (.ref a18), .val (.ref a29), .unset, .unset, .unset, .unset, .unset, .unset] [(.int (16 : Int32)), (.int p0), (.ref a42), (.ref a42)]))
  refine own_Goes.st ?_ (fun _ k => XS.ixor X42.here hx rfl (hb hby at_54) rfl k)
  show own_Goes p.tables e below P (T42.setTop (mkF m 55 #[.val (.int p0), .val (.int p1), .val (.int p2), .val (.ref a1), .val (.ref a9), .val (.ref a18), .val (.ref a29), .unset, .unset, .unset, .unset, .unset, .unset] [(.int (p0 ^^^ (16 : Int32))), (.ref a42), (.ref a42)]))
  refine own_Goes.st ?_ (fun _ k => XS.iloadN X42.here hx rfl (hb hby at_55) rfl k)
  show own_Goes p.tables e below P (T42.setTop (mkF m 56 #[.val (.int p0), .val (.int p1), .val (.int p2), .val (.ref a1), .val (.ref a9), .val (.ref a18), .val (.ref a29), .unset, .unset, .unset, .unset, .unset, .unset] [(.int p1), (.int (p0 ^^^ (16 : Int32))), (.ref a42), (.ref a42)]))
  obtain ⟨_, _, ⟨T53, L53, k53, n53⟩, -, X53, ⟨Lc53, hQ53, l53, y53, z53⟩, st53⟩ := X42.specialBack hx (y := (⟨"com/example/tempograph/tempograph/pcep/Rp", "<init>", "(II)V"⟩ : MethodName)) rfl hown (mvT hZ (hw _ (List.mem_of_getElem? (i := 3) rfl))) (mvT hZ (hw _ (List.mem_of_getElem? (i := 4) rfl))) (mvT hZ (hw _ (List.mem_of_getElem? (i := 5) rfl))) (by decide) (backOf (W := 1) (rm_new l Z a0 hw [] a42 (p0 ^^^ (16 : Int32)) p1 (.int (0 : Int32)) (.int (0 : Int32)) h42 n0 Z50 A42 F51 F52 ge_a42) hZ (hw _ (List.mem_of_getElem? (i := 5) rfl)) (hw _ (List.mem_of_getElem? (i := 2) rfl)) (by decide) (by decide)) (g := (mkF m 56 #[.val (.int p0), .val (.int p1), .val (.int p2), .val (.ref a1), .val (.ref a9), .val (.ref a18), .val (.ref a29), .unset, .unset, .unset, .unset, .unset, .unset] [(.int p1), (.int (p0 ^^^ (16 : Int32))), (.ref a42), (.ref a42)])) rfl (by rw [hml]; rfl) (Steps.refl _) (a := a42) (argsL := [(.int (p0 ^^^ (16 : Int32))), (.int p1)]) (rest := [(.ref a42)]) (lenOf own_pd__28_II_29_V rfl) rfl (by show 2 * 0 + _ ≤ _; exact Nat.le_of_eq rfl) (hb hby at_56) (fun _ _ => ⟨rfl, e42, (by decide : 5 + 0 ≤ _), (by decide : 10 + 0 ≤ _)⟩)
  dsimp only [Pt.U, Pt.locs, Pt.cells, Pt.slots] at X53 l53 y53 z53 st53 hQ53
  subst l53 y53 z53
  obtain ⟨rfl, Nq53, K53, f54, f55⟩ := hQ53
  have N53 := Fr.app N38 Nq53
  refine own_Goes.tr st53 ?_
  have Z56 : n0 ≤ T53.heap.size := Nat.le_trans Z50 K53.1
  show own_Goes p.tables e below P (T53.setTop (mkF m 59 #[.val (.int p0), .val (.int p1), .val (.int p2), .val (.ref a1), .val (.ref a9), .val (.ref a18), .val (.ref a29), .unset, .unset, .unset, .unset, .unset, .unset] [(.ref a42)]))
  refine own_Goes.st ?_ (fun _ k => XS.astore X53.here hx rfl (hb hby at_59) rfl rfl (l' := #[.val (.int p0), .val (.int p1), .val (.int p2), .val (.ref a1), .val (.ref a9), .val (.ref a18), .val (.ref a29), .val (.ref a42), .unset, .unset, .unset, .unset, .unset]) rfl k)
  show own_Goes p.tables e below P (T53.setTop (mkF m 61 #[.val (.int p0), .val (.int p1), .val (.int p2), .val (.ref a1), .val (.ref a9), .val (.ref a18), .val (.ref a29), .val (.ref a42), .unset, .unset, .unset, .unset, .unset] []))
  refine own_Goes.st ?_ (fun _ k => XS.aloadN X53.here hx rfl (hb hby at_61) rfl rfl k)
  show own_Goes p.tables e below P (T53.setTop (mkF m 62 #[.val (.int p0), .val (.int p1), .val (.int p2), .val (.ref a1), .val (.ref a9), .val (.ref a18), .val (.ref a29), .val (.ref a42), .unset, .unset, .unset, .unset, .unset] [(.ref a1)]))
  have F57 : Fld Z T53.heap a1 "com/example/tempograph/tempograph/pcep/Rp" "flags" "I" (.int p0) := ((((((((f7.ext E9).keep K14 (ninS ne10 nin0)).ext E18).keep K25 (ninS ne20 nin0)).ext E29).keep K38 (ninS ne31 nin0)).ext E42).keep K53 (ninS ne44 nin0))
  have F59 : Exa Z T53.heap a1 "com/example/tempograph/tempograph/pcep/Rp" := ((F43.ext E42).keep K53)
  obtain ⟨cq58, kq58, q58a, q58b, q58c⟩ := isOf hZ rfl F59
  obtain ⟨_, _, ⟨T58, L58, k58, n58⟩, -, X58, ⟨Lc58, hQ58, l58, y58, z58⟩, st58⟩ := X53.virtualBack hx (y := (⟨"com/example/tempograph/tempograph/pcep/Rp", "bidirectional", "()Z"⟩ : MethodName)) (z := (⟨"com/example/tempograph/tempograph/pcep/Rp", "bidirectional", "()Z"⟩ : MethodName)) hown (mvT hZ (hw _ (List.mem_of_getElem? (i := 18) rfl))) (mvT hZ (hw _ (List.mem_of_getElem? (i := 19) rfl))) (notFace_of_selects (args := #[]) (mvT hZ (hw _ (List.mem_of_getElem? (i := 21) rfl)))) (mvT hZ (hw _ (List.mem_of_getElem? (i := 21) rfl))) (mvT hZ (hw _ (List.mem_of_getElem? (i := 20) rfl))) (by decide) (backOf (W := 0) (rm_bid l Z a0 hw [] a1 p0 T53.heap n0 Z56 F57) hZ (hw _ (List.mem_of_getElem? (i := 22) rfl)) (hw _ (List.mem_of_getElem? (i := 2) rfl)) (by decide) (by decide)) q58a q58c (g := (mkF m 62 #[.val (.int p0), .val (.int p1), .val (.int p2), .val (.ref a1), .val (.ref a9), .val (.ref a18), .val (.ref a29), .val (.ref a42), .unset, .unset, .unset, .unset, .unset] [(.ref a1)])) rfl (by rw [hml]; rfl) (Steps.refl _) (argsL := []) (rest := []) (lenOf own_pd__28__29_Z rfl) rfl (by show 2 * 0 + _ ≤ _; exact Nat.le_of_eq rfl) (hb hby at_62) (fun _ _ => ⟨rfl, rfl, (by decide : 5 + 0 ≤ _), (by decide : 10 + 0 ≤ _)⟩)
  dsimp only [Pt.U, Pt.locs, Pt.cells, Pt.slots] at X58 l58 y58 z58 st58 hQ58
  subst l58 y58 z58
  obtain ⟨rfl, Nq58, e58⟩ := hQ58
  have N58 := Fr.app N53 Nq58
  refine own_Goes.tr st58 ?_
  show own_Goes p.tables e below P (T58.setTop (mkF m 65 #[.val (.int p0), .val (.int p1), .val (.int p2), .val (.ref a1), .val (.ref a9), .val (.ref a18), .val (.ref a29), .val (.ref a42), .unset, .unset, .unset, .unset, .unset] [(.int (own_bit p0))]))
  refine own_Goes.st ?_ (fun _ k => XS.istore X58.here hx rfl (hb hby at_65) rfl (l' := #[.val (.int p0), .val (.int p1), .val (.int p2), .val (.ref a1), .val (.ref a9), .val (.ref a18), .val (.ref a29), .val (.ref a42), .val (.int (own_bit p0)), .unset, .unset, .unset, .unset]) rfl k)
  show own_Goes p.tables e below P (T58.setTop (mkF m 67 #[.val (.int p0), .val (.int p1), .val (.int p2), .val (.ref a1), .val (.ref a9), .val (.ref a18), .val (.ref a29), .val (.ref a42), .val (.int (own_bit p0)), .unset, .unset, .unset, .unset] []))
  refine own_Goes.st ?_ (fun _ k => XS.iload X58.here hx rfl (hb hby at_67) rfl k)
  show own_Goes p.tables e below P (T58.setTop (mkF m 69 #[.val (.int p0), .val (.int p1), .val (.int p2), .val (.ref a1), .val (.ref a9), .val (.ref a18), .val (.ref a29), .val (.ref a42), .val (.int (own_bit p0)), .unset, .unset, .unset, .unset] [(.int (own_bit p0))]))
  refine own_Goes.st ?_ (fun _ k => XS.aload X58.here hx rfl (hb hby at_69) rfl rfl k)
  show own_Goes p.tables e below P (T58.setTop (mkF m 71 #[.val (.int p0), .val (.int p1), .val (.int p2), .val (.ref a1), .val (.ref a9), .val (.ref a18), .val (.ref a29), .val (.ref a42), .val (.int (own_bit p0)), .unset, .unset, .unset, .unset] [(.ref a9), (.int (own_bit p0))]))
  have F60 : Fld Z T53.heap a9 "com/example/tempograph/tempograph/pcep/Rp" "flags" "I" (.int (p0 &&& (16 : Int32))) := ((((((f16.ext E18).keep K25 (ninS ne21 nin0)).ext E29).keep K38 (ninS ne33 nin0)).ext E42).keep K53 (ninS ne46 nin0))
  have F62 : Exa Z T53.heap a9 "com/example/tempograph/tempograph/pcep/Rp" := ((F45.ext E42).keep K53)
  obtain ⟨cq61, kq61, q61a, q61b, q61c⟩ := isOf hZ e58 F62
  obtain ⟨_, _, ⟨T61, L61, k61, n61⟩, -, X61, ⟨Lc61, hQ61, l61, y61, z61⟩, st61⟩ := X58.virtualBack hx (y := (⟨"com/example/tempograph/tempograph/pcep/Rp", "bidirectional", "()Z"⟩ : MethodName)) (z := (⟨"com/example/tempograph/tempograph/pcep/Rp", "bidirectional", "()Z"⟩ : MethodName)) hown (mvT hZ (hw _ (List.mem_of_getElem? (i := 18) rfl))) (mvT hZ (hw _ (List.mem_of_getElem? (i := 19) rfl))) (notFace_of_selects (args := #[]) (mvT hZ (hw _ (List.mem_of_getElem? (i := 21) rfl)))) (mvT hZ (hw _ (List.mem_of_getElem? (i := 21) rfl))) (mvT hZ (hw _ (List.mem_of_getElem? (i := 20) rfl))) (by decide) (backOf (W := 1) (rm_bid l Z a0 hw [] a9 (p0 &&& (16 : Int32)) T53.heap n0 Z56 F60) hZ (hw _ (List.mem_of_getElem? (i := 22) rfl)) (hw _ (List.mem_of_getElem? (i := 2) rfl)) (by decide) (by decide)) q61a q61c (g := (mkF m 71 #[.val (.int p0), .val (.int p1), .val (.int p2), .val (.ref a1), .val (.ref a9), .val (.ref a18), .val (.ref a29), .val (.ref a42), .val (.int (own_bit p0)), .unset, .unset, .unset, .unset] [(.ref a9), (.int (own_bit p0))])) rfl (by rw [hml]; rfl) (Steps.refl _) (argsL := []) (rest := [(.int (own_bit p0))]) (lenOf own_pd__28__29_Z rfl) rfl (by show 2 * 0 + _ ≤ _; exact Nat.le_of_eq rfl) (hb hby at_71) (fun _ _ => ⟨rfl, e58, (by decide : 5 + 0 ≤ _), (by decide : 10 + 0 ≤ _)⟩)
  dsimp only [Pt.U, Pt.locs, Pt.cells, Pt.slots] at X61 l61 y61 z61 st61 hQ61
  subst l61 y61 z61
  obtain ⟨rfl, Nq61, e61⟩ := hQ61
  have N61 := Fr.app N58 Nq61
  refine own_Goes.tr st61 ?_
  show own_Goes p.tables e below P (T61.setTop (mkF m 74 #[.val (.int p0), .val (.int p1), .val (.int p2), .val (.ref a1), .val (.ref a9), .val (.ref a18), .val (.ref a29), .val (.ref a42), .val (.int (own_bit p0)), .unset, .unset, .unset, .unset] [(.int (own_bit (p0 &&& (16 : Int32)))), (.int (own_bit p0))]))
  refine own_Goes.st ?_ (fun _ k => XS.icmpNo X61.here hx rfl (hb hby at_74) rfl (teq (own_bit_same p0)).2 k)
  show own_Goes p.tables e below P (T61.setTop (mkF m 77 #[.val (.int p0), .val (.int p1), .val (.int p2), .val (.ref a1), .val (.ref a9), .val (.ref a18), .val (.ref a29), .val (.ref a42), .val (.int (own_bit p0)), .unset, .unset, .unset, .unset] []))
  refine own_Goes.st ?_ (fun _ k => XS.iconst X61.here hx rfl (hb hby at_77) k)
  show own_Goes p.tables e below P (T61.setTop (mkF m 78 #[.val (.int p0), .val (.int p1), .val (.int p2), .val (.ref a1), .val (.ref a9), .val (.ref a18), .val (.ref a29), .val (.ref a42), .val (.int (own_bit p0)), .unset, .unset, .unset, .unset] [(.int (1 : Int32))]))
  refine own_Goes.st ?_ (fun _ k => XS.goto X61.here hx rfl (pc0 := 78) (pc' := 82) rfl (hb hby at_78) (by decide) (by decide) k)
  show own_Goes p.tables e below P (T61.setTop (mkF m 82 #[.val (.int p0), .val (.int p1), .val (.int p2), .val (.ref a1), .val (.ref a9), .val (.ref a18), .val (.ref a29), .val (.ref a42), .val (.int (own_bit p0)), .unset, .unset, .unset, .unset] [(.int (1 : Int32))]))
  refine own_Goes.st ?_ (fun _ k => XS.istore X61.here hx rfl (hb hby at_82) rfl (l' := #[.val (.int p0), .val (.int p1), .val (.int p2), .val (.ref a1), .val (.ref a9), .val (.ref a18), .val (.ref a29), .val (.ref a42), .val (.int (own_bit p0)), .val (.int (1 : Int32)), .unset, .unset, .unset]) rfl k)
  show own_Goes p.tables e below P (T61.setTop (mkF m 84 #[.val (.int p0), .val (.int p1), .val (.int p2), .val (.ref a1), .val (.ref a9), .val (.ref a18), .val (.ref a29), .val (.ref a42), .val (.int (own_bit p0)), .val (.int (1 : Int32)), .unset, .unset, .unset] []))
  refine own_Goes.st ?_ (fun _ k => XS.aload X61.here hx rfl (hb hby at_84) rfl rfl k)
  show own_Goes p.tables e below P (T61.setTop (mkF m 86 #[.val (.int p0), .val (.int p1), .val (.int p2), .val (.ref a1), .val (.ref a9), .val (.ref a18), .val (.ref a29), .val (.ref a42), .val (.int (own_bit p0)), .val (.int (1 : Int32)), .unset, .unset, .unset] [(.ref a18)]))
  have F63 : Fld Z T53.heap a18 "com/example/tempograph/tempograph/pcep/Rp" "flags" "I" (.int (0 : Int32)) := ((((f27.ext E29).keep K38 (ninS ne34 nin0)).ext E42).keep K53 (ninS ne48 nin0))
  have F65 : Exa Z T53.heap a18 "com/example/tempograph/tempograph/pcep/Rp" := ((F47.ext E42).keep K53)
  obtain ⟨cq64, kq64, q64a, q64b, q64c⟩ := isOf hZ e61 F65
  obtain ⟨_, _, ⟨T64, L64, k64, n64⟩, -, X64, ⟨Lc64, hQ64, l64, y64, z64⟩, st64⟩ := X61.virtualBack hx (y := (⟨"com/example/tempograph/tempograph/pcep/Rp", "bidirectional", "()Z"⟩ : MethodName)) (z := (⟨"com/example/tempograph/tempograph/pcep/Rp", "bidirectional", "()Z"⟩ : MethodName)) hown (mvT hZ (hw _ (List.mem_of_getElem? (i := 18) rfl))) (mvT hZ (hw _ (List.mem_of_getElem? (i := 19) rfl))) (notFace_of_selects (args := #[]) (mvT hZ (hw _ (List.mem_of_getElem? (i := 21) rfl)))) (mvT hZ (hw _ (List.mem_of_getElem? (i := 21) rfl))) (mvT hZ (hw _ (List.mem_of_getElem? (i := 20) rfl))) (by decide) (backOf (W := 0) (rm_bid l Z a0 hw [] a18 (0 : Int32) T53.heap n0 Z56 F63) hZ (hw _ (List.mem_of_getElem? (i := 22) rfl)) (hw _ (List.mem_of_getElem? (i := 2) rfl)) (by decide) (by decide)) q64a q64c (g := (mkF m 86 #[.val (.int p0), .val (.int p1), .val (.int p2), .val (.ref a1), .val (.ref a9), .val (.ref a18), .val (.ref a29), .val (.ref a42), .val (.int (own_bit p0)), .val (.int (1 : Int32)), .unset, .unset, .unset] [(.ref a18)])) rfl (by rw [hml]; rfl) (Steps.refl _) (argsL := []) (rest := []) (lenOf own_pd__28__29_Z rfl) rfl (by show 2 * 0 + _ ≤ _; exact Nat.le_of_eq rfl) (hb hby at_86) (fun _ _ => ⟨rfl, e61, (by decide : 5 + 0 ≤ _), (by decide : 10 + 0 ≤ _)⟩)
  dsimp only [Pt.U, Pt.locs, Pt.cells, Pt.slots] at X64 l64 y64 z64 st64 hQ64
  subst l64 y64 z64
  obtain ⟨rfl, Nq64, e64⟩ := hQ64
  have N64 := Fr.app N61 Nq64
  refine own_Goes.tr st64 ?_
  show own_Goes p.tables e below P (T64.setTop (mkF m 89 #[.val (.int p0), .val (.int p1), .val (.int p2), .val (.ref a1), .val (.ref a9), .val (.ref a18), .val (.ref a29), .val (.ref a42), .val (.int (own_bit p0)), .val (.int (1 : Int32)), .unset, .unset, .unset] [(.int (own_bit (0 : Int32)))]))
  rw [(rfl : own_bit (0 : Int32) = 0)]
  show own_Goes p.tables e below P (T64.setTop (mkF m 89 #[.val (.int p0), .val (.int p1), .val (.int p2), .val (.ref a1), .val (.ref a9), .val (.ref a18), .val (.ref a29), .val (.ref a42), .val (.int (own_bit p0)), .val (.int (1 : Int32)), .unset, .unset, .unset] [(.int (0 : Int32))]))
  refine own_Goes.st ?_ (fun _ k => XS.ifNo X64.here hx rfl (hb hby at_89) rfl ((if0 _ _).trans (teq (by decide : (0 : Int32) = (0 : Int32))).2) k)
  show own_Goes p.tables e below P (T64.setTop (mkF m 92 #[.val (.int p0), .val (.int p1), .val (.int p2), .val (.ref a1), .val (.ref a9), .val (.ref a18), .val (.ref a29), .val (.ref a42), .val (.int (own_bit p0)), .val (.int (1 : Int32)), .unset, .unset, .unset] []))
  refine own_Goes.st ?_ (fun _ k => XS.iconst X64.here hx rfl (hb hby at_92) k)
  show own_Goes p.tables e below P (T64.setTop (mkF m 93 #[.val (.int p0), .val (.int p1), .val (.int p2), .val (.ref a1), .val (.ref a9), .val (.ref a18), .val (.ref a29), .val (.ref a42), .val (.int (own_bit p0)), .val (.int (1 : Int32)), .unset, .unset, .unset] [(.int (1 : Int32))]))
  refine own_Goes.st ?_ (fun _ k => XS.goto X64.here hx rfl (pc0 := 93) (pc' := 97) rfl (hb hby at_93) (by decide) (by decide) k)
  show own_Goes p.tables e below P (T64.setTop (mkF m 97 #[.val (.int p0), .val (.int p1), .val (.int p2), .val (.ref a1), .val (.ref a9), .val (.ref a18), .val (.ref a29), .val (.ref a42), .val (.int (own_bit p0)), .val (.int (1 : Int32)), .unset, .unset, .unset] [(.int (1 : Int32))]))
  refine own_Goes.st ?_ (fun _ k => XS.istore X64.here hx rfl (hb hby at_97) rfl (l' := #[.val (.int p0), .val (.int p1), .val (.int p2), .val (.ref a1), .val (.ref a9), .val (.ref a18), .val (.ref a29), .val (.ref a42), .val (.int (own_bit p0)), .val (.int (1 : Int32)), .val (.int (1 : Int32)), .unset, .unset]) rfl k)
  show own_Goes p.tables e below P (T64.setTop (mkF m 99 #[.val (.int p0), .val (.int p1), .val (.int p2), .val (.ref a1), .val (.ref a9), .val (.ref a18), .val (.ref a29), .val (.ref a42), .val (.int (own_bit p0)), .val (.int (1 : Int32)), .val (.int (1 : Int32)), .unset, .unset] []))
  refine own_Goes.st ?_ (fun _ k => XS.aload X64.here hx rfl (hb hby at_99) rfl rfl k)
  show own_Goes p.tables e below P (T64.setTop (mkF m 101 #[.val (.int p0), .val (.int p1), .val (.int p2), .val (.ref a1), .val (.ref a9), .val (.ref a18), .val (.ref a29), .val (.ref a42), .val (.int (own_bit p0)), .val (.int (1 : Int32)), .val (.int (1 : Int32)), .unset, .unset] [(.ref a29)]))
  have F66 : Fld Z T53.heap a29 "com/example/tempograph/tempograph/pcep/Rp" "flags" "I" (.int (16 : Int32)) := ((f40.ext E42).keep K53 (ninS ne49 nin0))
  have F68 : Exa Z T53.heap a29 "com/example/tempograph/tempograph/pcep/Rp" := ((f39.ext E42).keep K53)
  obtain ⟨cq67, kq67, q67a, q67b, q67c⟩ := isOf hZ e64 F68
  obtain ⟨_, _, ⟨T67, L67, k67, n67⟩, -, X67, ⟨Lc67, hQ67, l67, y67, z67⟩, st67⟩ := X64.virtualBack hx (y := (⟨"com/example/tempograph/tempograph/pcep/Rp", "bidirectional", "()Z"⟩ : MethodName)) (z := (⟨"com/example/tempograph/tempograph/pcep/Rp", "bidirectional", "()Z"⟩ : MethodName)) hown (mvT hZ (hw _ (List.mem_of_getElem? (i := 18) rfl))) (mvT hZ (hw _ (List.mem_of_getElem? (i := 19) rfl))) (notFace_of_selects (args := #[]) (mvT hZ (hw _ (List.mem_of_getElem? (i := 21) rfl)))) (mvT hZ (hw _ (List.mem_of_getElem? (i := 21) rfl))) (mvT hZ (hw _ (List.mem_of_getElem? (i := 20) rfl))) (by decide) (backOf (W := 0) (rm_bid l Z a0 hw [] a29 (16 : Int32) T53.heap n0 Z56 F66) hZ (hw _ (List.mem_of_getElem? (i := 22) rfl)) (hw _ (List.mem_of_getElem? (i := 2) rfl)) (by decide) (by decide)) q67a q67c (g := (mkF m 101 #[.val (.int p0), .val (.int p1), .val (.int p2), .val (.ref a1), .val (.ref a9), .val (.ref a18), .val (.ref a29), .val (.ref a42), .val (.int (own_bit p0)), .val (.int (1 : Int32)), .val (.int (1 : Int32)), .unset, .unset] [(.ref a29)])) rfl (by rw [hml]; rfl) (Steps.refl _) (argsL := []) (rest := []) (lenOf own_pd__28__29_Z rfl) rfl (by show 2 * 0 + _ ≤ _; exact Nat.le_of_eq rfl) (hb hby at_101) (fun _ _ => ⟨rfl, e64, (by decide : 5 + 0 ≤ _), (by decide : 10 + 0 ≤ _)⟩)
  dsimp only [Pt.U, Pt.locs, Pt.cells, Pt.slots] at X67 l67 y67 z67 st67 hQ67
  subst l67 y67 z67
  obtain ⟨rfl, Nq67, e67⟩ := hQ67
  have N67 := Fr.app N64 Nq67
  refine own_Goes.tr st67 ?_
  show own_Goes p.tables e below P (T67.setTop (mkF m 104 #[.val (.int p0), .val (.int p1), .val (.int p2), .val (.ref a1), .val (.ref a9), .val (.ref a18), .val (.ref a29), .val (.ref a42), .val (.int (own_bit p0)), .val (.int (1 : Int32)), .val (.int (1 : Int32)), .unset, .unset] [(.int (own_bit (16 : Int32)))]))
  rw [(rfl : own_bit (16 : Int32) = 1)]
  show own_Goes p.tables e below P (T67.setTop (mkF m 104 #[.val (.int p0), .val (.int p1), .val (.int p2), .val (.ref a1), .val (.ref a9), .val (.ref a18), .val (.ref a29), .val (.ref a42), .val (.int (own_bit p0)), .val (.int (1 : Int32)), .val (.int (1 : Int32)), .unset, .unset] [(.int (1 : Int32))]))
  refine own_Goes.st ?_ (fun _ k => XS.istore X67.here hx rfl (hb hby at_104) rfl (l' := #[.val (.int p0), .val (.int p1), .val (.int p2), .val (.ref a1), .val (.ref a9), .val (.ref a18), .val (.ref a29), .val (.ref a42), .val (.int (own_bit p0)), .val (.int (1 : Int32)), .val (.int (1 : Int32)), .val (.int (1 : Int32)), .unset]) rfl k)
  show own_Goes p.tables e below P (T67.setTop (mkF m 106 #[.val (.int p0), .val (.int p1), .val (.int p2), .val (.ref a1), .val (.ref a9), .val (.ref a18), .val (.ref a29), .val (.ref a42), .val (.int (own_bit p0)), .val (.int (1 : Int32)), .val (.int (1 : Int32)), .val (.int (1 : Int32)), .unset] []))
  refine own_Goes.st ?_ (fun _ k => XS.iload X67.here hx rfl (hb hby at_106) rfl k)
  show own_Goes p.tables e below P (T67.setTop (mkF m 108 #[.val (.int p0), .val (.int p1), .val (.int p2), .val (.ref a1), .val (.ref a9), .val (.ref a18), .val (.ref a29), .val (.ref a42), .val (.int (own_bit p0)), .val (.int (1 : Int32)), .val (.int (1 : Int32)), .val (.int (1 : Int32)), .unset] [(.int (own_bit p0))]))
  refine own_Goes.st ?_ (fun _ k => XS.aload X67.here hx rfl (hb hby at_108) rfl rfl k)
  show own_Goes p.tables e below P (T67.setTop (mkF m 110 #[.val (.int p0), .val (.int p1), .val (.int p2), .val (.ref a1), .val (.ref a9), .val (.ref a18), .val (.ref a29), .val (.ref a42), .val (.int (own_bit p0)), .val (.int (1 : Int32)), .val (.int (1 : Int32)), .val (.int (1 : Int32)), .unset] [(.ref a42), (.int (own_bit p0))]))
  obtain ⟨cq69, kq69, q69a, q69b, q69c⟩ := isOf hZ e67 f54
  obtain ⟨_, _, ⟨T69, L69, k69, n69⟩, -, X69, ⟨Lc69, hQ69, l69, y69, z69⟩, st69⟩ := X67.virtualBack hx (y := (⟨"com/example/tempograph/tempograph/pcep/Rp", "bidirectional", "()Z"⟩ : MethodName)) (z := (⟨"com/example/tempograph/tempograph/pcep/Rp", "bidirectional", "()Z"⟩ : MethodName)) hown (mvT hZ (hw _ (List.mem_of_getElem? (i := 18) rfl))) (mvT hZ (hw _ (List.mem_of_getElem? (i := 19) rfl))) (notFace_of_selects (args := #[]) (mvT hZ (hw _ (List.mem_of_getElem? (i := 21) rfl)))) (mvT hZ (hw _ (List.mem_of_getElem? (i := 21) rfl))) (mvT hZ (hw _ (List.mem_of_getElem? (i := 20) rfl))) (by decide) (backOf (W := 1) (rm_bid l Z a0 hw [] a42 (p0 ^^^ (16 : Int32)) T53.heap n0 Z56 f55) hZ (hw _ (List.mem_of_getElem? (i := 22) rfl)) (hw _ (List.mem_of_getElem? (i := 2) rfl)) (by decide) (by decide)) q69a q69c (g := (mkF m 110 #[.val (.int p0), .val (.int p1), .val (.int p2), .val (.ref a1), .val (.ref a9), .val (.ref a18), .val (.ref a29), .val (.ref a42), .val (.int (own_bit p0)), .val (.int (1 : Int32)), .val (.int (1 : Int32)), .val (.int (1 : Int32)), .unset] [(.ref a42), (.int (own_bit p0))])) rfl (by rw [hml]; rfl) (Steps.refl _) (argsL := []) (rest := [(.int (own_bit p0))]) (lenOf own_pd__28__29_Z rfl) rfl (by show 2 * 0 + _ ≤ _; exact Nat.le_of_eq rfl) (hb hby at_110) (fun _ _ => ⟨rfl, e67, (by decide : 5 + 0 ≤ _), (by decide : 10 + 0 ≤ _)⟩)
  dsimp only [Pt.U, Pt.locs, Pt.cells, Pt.slots] at X69 l69 y69 z69 st69 hQ69
  subst l69 y69 z69
  obtain ⟨rfl, Nq69, e69⟩ := hQ69
  have N69 := Fr.app N67 Nq69
  refine own_Goes.tr st69 ?_
  show own_Goes p.tables e below P (T69.setTop (mkF m 113 #[.val (.int p0), .val (.int p1), .val (.int p2), .val (.ref a1), .val (.ref a9), .val (.ref a18), .val (.ref a29), .val (.ref a42), .val (.int (own_bit p0)), .val (.int (1 : Int32)), .val (.int (1 : Int32)), .val (.int (1 : Int32)), .unset] [(.int (own_bit (p0 ^^^ (16 : Int32)))), (.int (own_bit p0))]))
  refine own_Goes.st ?_ (fun _ k => XS.icmpNo X69.here hx rfl (hb hby at_113) rfl (feq (own_bit_flip p0)).1 k)
  show own_Goes p.tables e below P (T69.setTop (mkF m 116 #[.val (.int p0), .val (.int p1), .val (.int p2), .val (.ref a1), .val (.ref a9), .val (.ref a18), .val (.ref a29), .val (.ref a42), .val (.int (own_bit p0)), .val (.int (1 : Int32)), .val (.int (1 : Int32)), .val (.int (1 : Int32)), .unset] []))
  refine own_Goes.st ?_ (fun _ k => XS.iconst X69.here hx rfl (hb hby at_116) k)
  show own_Goes p.tables e below P (T69.setTop (mkF m 117 #[.val (.int p0), .val (.int p1), .val (.int p2), .val (.ref a1), .val (.ref a9), .val (.ref a18), .val (.ref a29), .val (.ref a42), .val (.int (own_bit p0)), .val (.int (1 : Int32)), .val (.int (1 : Int32)), .val (.int (1 : Int32)), .unset] [(.int (1 : Int32))]))
  refine own_Goes.st ?_ (fun _ k => XS.goto X69.here hx rfl (pc0 := 117) (pc' := 121) rfl (hb hby at_117) (by decide) (by decide) k)
  show own_Goes p.tables e below P (T69.setTop (mkF m 121 #[.val (.int p0), .val (.int p1), .val (.int p2), .val (.ref a1), .val (.ref a9), .val (.ref a18), .val (.ref a29), .val (.ref a42), .val (.int (own_bit p0)), .val (.int (1 : Int32)), .val (.int (1 : Int32)), .val (.int (1 : Int32)), .unset] [(.int (1 : Int32))]))
  refine own_Goes.st ?_ (fun _ k => XS.istore X69.here hx rfl (hb hby at_121) rfl (l' := #[.val (.int p0), .val (.int p1), .val (.int p2), .val (.ref a1), .val (.ref a9), .val (.ref a18), .val (.ref a29), .val (.ref a42), .val (.int (own_bit p0)), .val (.int (1 : Int32)), .val (.int (1 : Int32)), .val (.int (1 : Int32)), .val (.int (1 : Int32))]) rfl k)
  show own_Goes p.tables e below P (T69.setTop (mkF m 123 #[.val (.int p0), .val (.int p1), .val (.int p2), .val (.ref a1), .val (.ref a9), .val (.ref a18), .val (.ref a29), .val (.ref a42), .val (.int (own_bit p0)), .val (.int (1 : Int32)), .val (.int (1 : Int32)), .val (.int (1 : Int32)), .val (.int (1 : Int32))] []))
  refine own_Goes.st ?_ (fun _ k => XS.iload X69.here hx rfl (hb hby at_123) rfl k)
  show own_Goes p.tables e below P (T69.setTop (mkF m 125 #[.val (.int p0), .val (.int p1), .val (.int p2), .val (.ref a1), .val (.ref a9), .val (.ref a18), .val (.ref a29), .val (.ref a42), .val (.int (own_bit p0)), .val (.int (1 : Int32)), .val (.int (1 : Int32)), .val (.int (1 : Int32)), .val (.int (1 : Int32))] [(.int (1 : Int32))]))
  refine own_Goes.st ?_ (fun _ k => XS.ifNo X69.here hx rfl (hb hby at_125) rfl ((if0 _ _).trans (feq (by decide : ¬ ((1 : Int32) = (0 : Int32)))).1) k)
  show own_Goes p.tables e below P (T69.setTop (mkF m 128 #[.val (.int p0), .val (.int p1), .val (.int p2), .val (.ref a1), .val (.ref a9), .val (.ref a18), .val (.ref a29), .val (.ref a42), .val (.int (own_bit p0)), .val (.int (1 : Int32)), .val (.int (1 : Int32)), .val (.int (1 : Int32)), .val (.int (1 : Int32))] []))
  refine own_Goes.st ?_ (fun _ k => XS.iload X69.here hx rfl (hb hby at_128) rfl k)
  show own_Goes p.tables e below P (T69.setTop (mkF m 130 #[.val (.int p0), .val (.int p1), .val (.int p2), .val (.ref a1), .val (.ref a9), .val (.ref a18), .val (.ref a29), .val (.ref a42), .val (.int (own_bit p0)), .val (.int (1 : Int32)), .val (.int (1 : Int32)), .val (.int (1 : Int32)), .val (.int (1 : Int32))] [(.int (1 : Int32))]))
  refine own_Goes.st ?_ (fun _ k => XS.ifNo X69.here hx rfl (hb hby at_130) rfl ((if0 _ _).trans (feq (by decide : ¬ ((1 : Int32) = (0 : Int32)))).1) k)
  show own_Goes p.tables e below P (T69.setTop (mkF m 133 #[.val (.int p0), .val (.int p1), .val (.int p2), .val (.ref a1), .val (.ref a9), .val (.ref a18), .val (.ref a29), .val (.ref a42), .val (.int (own_bit p0)), .val (.int (1 : Int32)), .val (.int (1 : Int32)), .val (.int (1 : Int32)), .val (.int (1 : Int32))] []))
  refine own_Goes.st ?_ (fun _ k => XS.iload X69.here hx rfl (hb hby at_133) rfl k)
  show own_Goes p.tables e below P (T69.setTop (mkF m 135 #[.val (.int p0), .val (.int p1), .val (.int p2), .val (.ref a1), .val (.ref a9), .val (.ref a18), .val (.ref a29), .val (.ref a42), .val (.int (own_bit p0)), .val (.int (1 : Int32)), .val (.int (1 : Int32)), .val (.int (1 : Int32)), .val (.int (1 : Int32))] [(.int (1 : Int32))]))
  refine own_Goes.st ?_ (fun _ k => XS.ifNo X69.here hx rfl (hb hby at_135) rfl ((if0 _ _).trans (feq (by decide : ¬ ((1 : Int32) = (0 : Int32)))).1) k)
  show own_Goes p.tables e below P (T69.setTop (mkF m 138 #[.val (.int p0), .val (.int p1), .val (.int p2), .val (.ref a1), .val (.ref a9), .val (.ref a18), .val (.ref a29), .val (.ref a42), .val (.int (own_bit p0)), .val (.int (1 : Int32)), .val (.int (1 : Int32)), .val (.int (1 : Int32)), .val (.int (1 : Int32))] []))
  refine own_Goes.st ?_ (fun _ k => XS.iload X69.here hx rfl (hb hby at_138) rfl k)
  show own_Goes p.tables e below P (T69.setTop (mkF m 140 #[.val (.int p0), .val (.int p1), .val (.int p2), .val (.ref a1), .val (.ref a9), .val (.ref a18), .val (.ref a29), .val (.ref a42), .val (.int (own_bit p0)), .val (.int (1 : Int32)), .val (.int (1 : Int32)), .val (.int (1 : Int32)), .val (.int (1 : Int32))] [(.int (1 : Int32))]))
  refine own_Goes.st ?_ (fun _ k => XS.ifNo X69.here hx rfl (hb hby at_140) rfl ((if0 _ _).trans (feq (by decide : ¬ ((1 : Int32) = (0 : Int32)))).1) k)
  show own_Goes p.tables e below P (T69.setTop (mkF m 143 #[.val (.int p0), .val (.int p1), .val (.int p2), .val (.ref a1), .val (.ref a9), .val (.ref a18), .val (.ref a29), .val (.ref a42), .val (.int (own_bit p0)), .val (.int (1 : Int32)), .val (.int (1 : Int32)), .val (.int (1 : Int32)), .val (.int (1 : Int32))] []))
  refine own_Goes.st ?_ (fun _ k => XS.iconst X69.here hx rfl (hb hby at_143) k)
  show own_Goes p.tables e below P (T69.setTop (mkF m 144 #[.val (.int p0), .val (.int p1), .val (.int p2), .val (.ref a1), .val (.ref a9), .val (.ref a18), .val (.ref a29), .val (.ref a42), .val (.int (own_bit p0)), .val (.int (1 : Int32)), .val (.int (1 : Int32)), .val (.int (1 : Int32)), .val (.int (1 : Int32))] [(.int (1 : Int32))]))
  refine own_Goes.st ?_ (fun _ k => XS.goto X69.here hx rfl (pc0 := 144) (pc' := 148) rfl (hb hby at_144) (by decide) (by decide) k)
  show own_Goes p.tables e below P (T69.setTop (mkF m 148 #[.val (.int p0), .val (.int p1), .val (.int p2), .val (.ref a1), .val (.ref a9), .val (.ref a18), .val (.ref a29), .val (.ref a42), .val (.int (own_bit p0)), .val (.int (1 : Int32)), .val (.int (1 : Int32)), .val (.int (1 : Int32)), .val (.int (1 : Int32))] [(.int (1 : Int32))]))
  obtain ⟨fs, hr, hrun, hended, hW, hsame⟩ := X69.leave (v := some (.int (1 : Int32))) (fun h => by rw [Bd.returns] at h; cases h)
  exact own_Goes.fin _ _ (retOut X69 hx (t := .boolean) Bd.returns rfl (Or.inl ⟨rfl, Or.inr (Or.inl rfl), _, rfl⟩) (hb hby at_148) hr) (hPP _ _ ⟨hrun, hended, _, _, rfl, (by show Q_law n0 _ _; exact ⟨rfl, N69⟩), ⟨_, rfl⟩, hW, hsame.mono (by decide) (by decide)⟩)
set_option maxRecDepth 65536 in
set_option maxHeartbeats 40000000 in
theorem comes_1 {Post : Tables → Env → Array Value → State → Outcome → State → Prop} (hpost : ∀ tb e args s v u, (limb_1_1.after args s (.returned v) u = true ∧ limb_1_2.after args s (.returned v) u = true ∧ True) → FrameEnd s (.returned v) u (Jvm.fieldLocs frame_1_writes args s ++ Jvm.arrayLocs frame_1_arrays args s ++ Jvm.staticLocs frame_1_statics s) 24 128 → Post tb e args s (.returned v) u) :
    ArmFor flags0 classFile x code maxLocals ret World_1 tables_1 room_1 Calls_1 rest_1 Pre_1 Post := by
  intro l hfl _ _ p e ha hc hk s m args below hf hA hF happ hP
  obtain ⟨hcalls, hrest, hpre⟩ := hP
  obtain ⟨-, -, -, hnamed, -, -, -, hat⟩ := (Spec.applies_iff hf).mp happ
  obtain ⟨hg, hn⟩ := and_e (Cond.before_iff.mp (show (Jvm.Cond.and given_1 narrow_1).before args s = true from hpre))
  obtain ⟨hg0, hg1⟩ := and_e hg
  obtain ⟨hv0, hr0⟩ := and_e hg1
  obtain ⟨hv1, hr1⟩ := and_e hr0
  obtain ⟨w0, w1, w2, rfl⟩ : ∃ w0 w1 w2 : Value, args = #[w0, w1, w2] := by
    have hs : args.size = 3 := by simpa [Cond.value, given_1] using hg0
    obtain ⟨L⟩ := args
    match L, hs with
    | [w0, w1, w2], _ => exact ⟨w0, w1, w2, rfl⟩
  have hw := fun d (hd : d ∈ tables_1) => atoms_spec (ws := Jvm.Cond.code x code maxLocals ret :: tables_1) hat d (List.mem_cons_of_mem _ hd)
  have hfit : Fit s := fun {y c} hc i hi => by
    obtain ⟨ha, rfl⟩ := Array.getElem?_eq_some_iff.mp hc
    have q := List.all_eq_true.mp ((Array.all_eq_true_iff_forall_mem.mp hF) _ (Array.getElem_mem ha)) i (List.mem_range.mpr hi)
    simpa [Array.getElem?_eq_getElem hi] using q
  obtain ⟨i0, ei0⟩ := is_v hv0
  obtain rfl : w0 = (.int i0) := Option.some.inj ei0
  obtain ⟨i1, ei1⟩ := is_v hv1
  obtain rfl : w1 = (.int i1) := Option.some.inj ei1
  obtain ⟨i2, ei2⟩ := is_v hr1
  obtain rfl : w2 = (.int i2) := Option.some.inj ei2
  obtain ⟨n, o, h1, h2, h3, _, L, rfl, ⟨rfl, N⟩, hq⟩ := rm_law l s _ hw tables_1 i0 i1 i2  s.heap s.heap.size (Nat.le_refl _)  p e ha hc hk s m _ below hf ((Spec.applies_iff_loose hf).mp happ).1 ⟨rfl, State.Warmed39.refl s, rfl⟩ trivial
  refine ⟨n, _, h1, h2, h3, hpost _ _ _ _ _ _ ⟨Cond.after_iff.mpr rfl, Cond.after_iff.mpr (eq_i res_at (Term.int_eval (1)) rfl), trivial⟩ ⟨hq.1, hq.2.1, (hq.2.2.sift fun y hy => Or.inr (N y hy)).mono (by decide) (by decide)⟩⟩
theorem main_1_1 : Claimed_1_1 := comes_1 fun _ _ _ _ _ _ h hF => ⟨h.1, hF⟩
theorem main_1_2 : Claimed_1_2 := comes_1 fun _ _ _ _ _ _ h hF => ⟨h.2.1, hF⟩
end Jvm.Pilot.@@N@@
namespace Jvm.Pilot.@@N@@
open Jvm Jvm.ClassFile Sem Op Lib Jvm.Free Jvm.Stand Jvm.Pilot.@@N@@.Jvm.D
/-! MADE BY PROGRAM (witnessworld.py) out of the Statement's table words and the real class files: 10 classes; the members and pool entries that the words name. The judged class is class 1, her method 1. -/
namespace start1
open Jvm.ClassFile
def u (s : String) : CpInfo := .utf8 (stringToUtf16 s)
/-- a pool by its gaps: so many unusable entries, then the entry; so many at the end -/
def gap : Nat → List CpInfo → List CpInfo
  | 0, r => r
  | n + 1, r => .unusable :: gap n r
def poolList (es : List (Nat × CpInfo)) (last : Nat) : List CpInfo := es.foldr (fun e r => gap e.1 (e.2 :: r)) (gap last [])
def pool (es : List (Nat × CpInfo)) (last : Nat) : Array CpInfo := ⟨poolList es last⟩
def fileOf (pool : Array CpInfo) (this : Nat) (attrs : Array Attribute := #[]) (ms : Array MethodInfo := #[]) (fl : Nat := 33) (sup : Nat := 0) (ifs : Array Nat := #[]) (fds : Array FieldInfo := #[]) : ClassFile where
  minorVersion := 0
  majorVersion := 65
  constantPool := pool
  accessFlags := fl
  thisClass := this
  superClass := sup
  interfaces := ifs
  fields := fds
  methods := ms
  attributes := attrs
def plain (name : String) (sup : Option ClassId) : Class where
  name := name
  kind := .ordinary
  loader := none
  accessFlags := 33
  super := sup
  interfaces := #[]
  cf := none
  fields := #[]
  methods := #[]
  instanceTypes := #[]
  staticTypes := #[]
  resolved := #[]
  callSites := []
  init := .initialized
  statics := none
  mirror := none

def pool0 : Array CpInfo := pool [(5, u "<init>"), (0, u "()V"), (1, .class_ 10), (1, u "java/lang/Object")] 113

def k0c0 : Code := { maxStack := 0, maxLocals := 1, code := object_method_1_code, exceptionTable := #[], attributes := #[] }
def k0m0 : Method := { name := "<init>", desc := "()V", sig := { parameters := [], returnType := none }, accessFlags := 1, code := some k0c0 }
/-- java/lang/Object -/
def k0 : Class := { plain "java/lang/Object" none with
  accessFlags := 33
  interfaces := #[]
  cf := some (fileOf pool0 8 #[] #[{ accessFlags := 1, nameIndex := 5, descriptorIndex := 6, attributes := #[] }] 33 0 #[] #[])
  fields := #[]
  methods := #[k0m0]
  instanceTypes := #[]
  staticTypes := #[]
  resolved := Array.replicate 124 none
  statics := none }

def pool1 : Array CpInfo := pool [(2, .class_ 4), (1, u "java/lang/Object"), (0, u "<init>"), (0, u "()V"), (0, .class_ 8), (0, u "com/example/tempograph/tempograph/pcep/Rp"), (0, .methodref 7 10), (0, .nameAndType 5 11), (0, u "(II)V"), (0, .methodref 7 13), (0, .nameAndType 14 15), (0, u "bidirectional"), (0, u "()Z"), (0, .class_ 17), (0, u "com/example/tempograph/tempograph/pcep/RpBidirectionalPinLaw"), (2, u "law"), (0, u "(III)Z")] 3

def k1m0 : Method := { name := "<init>", desc := "()V", sig := { parameters := [], returnType := none }, accessFlags := 2, code := none }
def k1c1 : Code := { maxStack := 4, maxLocals := 13, code := code, exceptionTable := #[], attributes := #[] }
def k1m1 : Method := { name := "law", desc := "(III)Z", sig := { parameters := [.int, .int, .int], returnType := some .boolean }, accessFlags := 9, code := some k1c1 }
/-- com/example/tempograph/tempograph/pcep/RpBidirectionalPinLaw -/
def k1 : Class := { plain "com/example/tempograph/tempograph/pcep/RpBidirectionalPinLaw" (some 0) with
  accessFlags := 49
  interfaces := #[]
  cf := some (fileOf pool1 16 #[] #[{ accessFlags := 2, nameIndex := 5, descriptorIndex := 6, attributes := #[] }, { accessFlags := 9, nameIndex := 20, descriptorIndex := 21, attributes := #[] }] 49 2 #[] #[])
  fields := #[]
  methods := #[k1m0, k1m1]
  instanceTypes := #[]
  staticTypes := #[]
  resolved := Array.replicate 25 none
  statics := none }

def pool2 : Array CpInfo := pool [(1, .methodref 2 3), (0, .class_ 4), (0, .nameAndType 5 6), (0, u "java/lang/Object"), (0, u "<init>"), (0, u "()V"), (0, .class_ 8), (0, u "java/lang/Record")] 13

def k2c0 : Code := { maxStack := 1, maxLocals := 1, code := jdk_30_method_1_code, exceptionTable := #[], attributes := #[] }
def k2m0 : Method := { name := "<init>", desc := "()V", sig := { parameters := [], returnType := none }, accessFlags := 4, code := some k2c0 }
/-- java/lang/Record -/
def k2 : Class := { plain "java/lang/Record" (some 0) with
  accessFlags := 1057
  interfaces := #[]
  cf := some (fileOf pool2 7 #[] #[{ accessFlags := 4, nameIndex := 5, descriptorIndex := 6, attributes := #[] }] 1057 2 #[] #[])
  fields := #[]
  methods := #[k2m0]
  instanceTypes := #[]
  staticTypes := #[]
  resolved := Array.replicate 22 none
  statics := none }

def pool3 : Array CpInfo := pool [(1, .methodref 2 3), (0, .class_ 4), (0, .nameAndType 5 6), (0, u "java/lang/Record"), (0, u "<init>"), (0, u "()V"), (0, .fieldref 8 9), (0, .class_ 10), (0, .nameAndType 11 12), (0, u "com/example/tempograph/tempograph/pcep/Rp"), (0, u "flags"), (0, u "I"), (0, .fieldref 8 14), (0, .nameAndType 15 12), (0, u "requestId"), (14, u "(II)V"), (22, u "BODY"), (2, u "PRIORITY"), (1, u "REOPTIMIZATION"), (0, u "BIDIRECTIONAL"), (9, u "bidirectional"), (0, u "()Z")] 25

def k3c0 : Code := { maxStack := 2, maxLocals := 3, code := prog_27_method_1_code, exceptionTable := #[], attributes := #[] }
def k3m0 : Method := { name := "<init>", desc := "(II)V", sig := { parameters := [.int, .int], returnType := none }, accessFlags := 0, code := some k3c0 }
def k3c1 : Code := { maxStack := 2, maxLocals := 1, code := prog_27_method_3_code, exceptionTable := #[], attributes := #[] }
def k3m1 : Method := { name := "bidirectional", desc := "()Z", sig := { parameters := [], returnType := some .boolean }, accessFlags := 0, code := some k3c1 }
/-- com/example/tempograph/tempograph/pcep/Rp -/
def k3 : Class := { plain "com/example/tempograph/tempograph/pcep/Rp" (some 2) with
  accessFlags := 48
  interfaces := #[]
  cf := some (fileOf pool3 8 #[] #[{ accessFlags := 0, nameIndex := 5, descriptorIndex := 30, attributes := #[] }, { accessFlags := 0, nameIndex := 69, descriptorIndex := 70, attributes := #[] }] 48 2 #[] #[{ accessFlags := 18, nameIndex := 11, descriptorIndex := 12, attributes := #[] }, { accessFlags := 18, nameIndex := 15, descriptorIndex := 12, attributes := #[] }, { accessFlags := 26, nameIndex := 53, descriptorIndex := 12, attributes := #[] }, { accessFlags := 26, nameIndex := 56, descriptorIndex := 12, attributes := #[] }, { accessFlags := 26, nameIndex := 58, descriptorIndex := 12, attributes := #[] }, { accessFlags := 26, nameIndex := 59, descriptorIndex := 12, attributes := #[] }])
  fields := #[{ name := "flags", type := .int, accessFlags := 18, slot := 0, constantValue := 0 }, { name := "requestId", type := .int, accessFlags := 18, slot := 1, constantValue := 0 }, { name := "BODY", type := .int, accessFlags := 26, slot := 0, constantValue := 0 }, { name := "PRIORITY", type := .int, accessFlags := 26, slot := 1, constantValue := 0 }, { name := "REOPTIMIZATION", type := .int, accessFlags := 26, slot := 2, constantValue := 0 }, { name := "BIDIRECTIONAL", type := .int, accessFlags := 26, slot := 3, constantValue := 0 }]
  methods := #[k3m0, k3m1]
  instanceTypes := #[.int, .int]
  staticTypes := #[.int, .int, .int, .int]
  resolved := Array.replicate 96 none
  statics := none }

def pool4 : Array CpInfo := pool [(1, u "java/lang/Cloneable"), (0, .class_ 1), (0, u "java/lang/Object"), (0, .class_ 3)] 3

/-- java/lang/Cloneable -/
def k4 : Class := { plain "java/lang/Cloneable" (some 0) with
  accessFlags := 1537
  interfaces := #[]
  cf := some (fileOf pool4 2 #[] #[] 1537 4 #[] #[])
  fields := #[]
  methods := #[]
  instanceTypes := #[]
  staticTypes := #[]
  resolved := Array.replicate 8 none
  statics := none }

def pool5 : Array CpInfo := pool [(1, u "java/io/Serializable"), (0, .class_ 1), (0, u "java/lang/Object"), (0, .class_ 3)] 3

/-- java/io/Serializable -/
def k5 : Class := { plain "java/io/Serializable" (some 0) with
  accessFlags := 1537
  interfaces := #[]
  cf := some (fileOf pool5 2 #[] #[] 1537 4 #[] #[])
  fields := #[]
  methods := #[]
  instanceTypes := #[]
  staticTypes := #[]
  resolved := Array.replicate 8 none
  statics := none }

/-- the primitive byte -/
def k6 : Class := { plain "byte" none with kind := .primitive 'B', accessFlags := 0x411 }
/-- [B -/
def k7 : Class := { plain "[B" (some 0) with kind := .array 6 .byte, interfaces := #[4, 5], accessFlags := 1041 }

/-- the primitive int -/
def k8 : Class := { plain "int" none with kind := .primitive 'I', accessFlags := 0x411 }
/-- [I -/
def k9 : Class := { plain "[I" (some 0) with kind := .array 8 .int, interfaces := #[4, 5], accessFlags := 1041 }

def heap : Heap := #[]
def classes : Array Class := #[k0, k1, k2, k3, k4, k5, k6, k7, k8, k9]
def interned : List (Array UInt16 × Addr) := []
def slotsUsed : Nat := 0
def theMethod : MethodId := ⟨1, 1⟩
def args0 : Array Value := #[.int 17, .int 3, .int 1]
def aboutOver (below : List Frame) : State where
  vm := { classes := classes, interned := interned.toArray }
  heap := heap
  slotsUsed := slotsUsed
  threads := #[{ frames := .invoking theMethod args0 :: below }]
def below0 : List Frame := [.native { method := ⟨0, 0⟩, args := #[] }]
def about1 : State := aboutOver below0
def p0 : Program := .bare "" "" ""
def e0 : Env := launch0.env 0 0 0
theorem w_frames : about1.frames = Frame.invoking theMethod args0 :: below0 := rfl
set_option maxRecDepth 65536 in
theorem w_args : argsFit about1.vm theMethod args0 = true := by decide +kernel
set_option maxRecDepth 65536 in
theorem w_heap : heapFits about1 = true := by decide +kernel
set_option maxRecDepth 65536 in
theorem w_runnable : about1.curStatus? = some .runnable := by decide +kernel
set_option maxRecDepth 65536 in
theorem w_alone : about1.alone = true := by decide +kernel
set_option maxRecDepth 65536 in
theorem w_named : about1.methodNamed? x = some theMethod := by decide +kernel
set_option maxRecDepth 65536 in
theorem w_hears : about1.hears theMethod below0 = true := by decide +kernel
set_option maxRecDepth 65536 in
theorem w_ripe : about1.ripe theMethod args0 below0 = true := by decide +kernel
theorem w_running : about1.status = .running := rfl
set_option maxRecDepth 65536 in
theorem w_room : about1.hasRoom e0.platform room_1 = true :=
  launch0.hasRoom_least _ room_1 (by decide +kernel) (by decide +kernel) (by decide +kernel) (by decide +kernel) (by decide +kernel) (by decide +kernel)
theorem allAtoms_all (ts : List Jvm.Cond) (a : Array Jvm.Value) (st : Jvm.State) : (allAtoms ts).before a st = ts.all (fun c => c.before a st) := by
  induction ts with
  | nil => rfl
  | cons c t ih =>
    show (Jvm.Cond.and c (allAtoms t)).before a st = _
    rw [Jvm.Cond.before_and, ih, List.all_cons]
def words1 : List Jvm.Cond := Jvm.Cond.code x code maxLocals ret :: tables_1
/-- a 'code' word, met by the world's own term for the bytes: nothing is compared byte by byte -/
theorem code_word {y : MethodName} {bytes : ByteArray} {mx : Nat} {rt : Option FieldType} {a : Array Value} {s : State} {m : MethodId} {meth : Method} {c : Code} (h1 : s.methodNamed? y = some m) (h2 : s.vm.method? m = some meth) (h3 : meth.code = some c) (h4 : c.code = bytes)
    (h5 : (c.maxLocals == mx && c.exceptionTable.isEmpty && decide (c.maxStack ≤ mostOperands) && decide (meth.sig.returnType = rt) && !meth.locks && decide (parseMethodDescriptor y.desc = some meth.sig)) = true) : (Jvm.Cond.code y bytes mx rt).before a s = true := by
  simp only [Bool.and_eq_true, beq_iff_eq, Bool.not_eq_true', decide_eq_true_eq] at h5
  obtain ⟨⟨⟨⟨⟨g1, g2⟩, g3⟩, g4⟩, g5⟩, g6⟩ := h5
  simp [Cond.before, Cond.holds, Cond.value, h1, h2, h3, h4, g1, g2, g3, g4, g5, g6]
def isCode : Jvm.Cond → Bool
  | .code _ _ _ _ => true
  | _ => false
theorem all_split {L : List Jvm.Cond} {P : Jvm.Cond → Bool} (h1 : L.all (fun c => isCode c || P c) = true) (h2 : ∀ c ∈ L.filter isCode, P c = true) : L.all P = true := by
  refine List.all_eq_true.mpr fun c hc => ?_
  have h := List.all_eq_true.mp h1 c hc
  rcases Bool.eq_false_or_eq_true (isCode c) with hi | hi
  · exact h2 c (List.mem_filter.mpr ⟨hc, hi⟩)
  · simpa [hi] using h
set_option maxRecDepth 65536 in
theorem w_c0 : (Jvm.Cond.code x code maxLocals ret).before args0 about1 = true := code_word (m := ⟨1, 1⟩) (meth := k1m1) (c := k1c1) (by decide +kernel) rfl rfl rfl (by decide +kernel)
set_option maxRecDepth 65536 in
theorem w_c1 : (Jvm.Cond.code ({ cls := "com/example/tempograph/tempograph/pcep/Rp", name := "<init>", desc := "(II)V" } : Jvm.MethodName) prog_27_method_1_code (3 : Nat) (Option.none : Option Jvm.ClassFile.FieldType)).before args0 about1 = true := code_word (m := ⟨3, 0⟩) (meth := k3m0) (c := k3c0) (by decide +kernel) rfl rfl rfl (by decide +kernel)
set_option maxRecDepth 65536 in
theorem w_c2 : (Jvm.Cond.code ({ cls := "java/lang/Record", name := "<init>", desc := "()V" } : Jvm.MethodName) jdk_30_method_1_code (1 : Nat) (Option.none : Option Jvm.ClassFile.FieldType)).before args0 about1 = true := code_word (m := ⟨2, 0⟩) (meth := k2m0) (c := k2c0) (by decide +kernel) rfl rfl rfl (by decide +kernel)
set_option maxRecDepth 65536 in
theorem w_c3 : (Jvm.Cond.code ({ cls := "java/lang/Object", name := "<init>", desc := "()V" } : Jvm.MethodName) object_method_1_code (1 : Nat) (Option.none : Option Jvm.ClassFile.FieldType)).before args0 about1 = true := code_word (m := ⟨0, 0⟩) (meth := k0m0) (c := k0c0) (by decide +kernel) rfl rfl rfl (by decide +kernel)
set_option maxRecDepth 65536 in
theorem w_c4 : (Jvm.Cond.code ({ cls := "com/example/tempograph/tempograph/pcep/Rp", name := "bidirectional", desc := "()Z" } : Jvm.MethodName) prog_27_method_3_code (1 : Nat) (Option.some Jvm.ClassFile.FieldType.boolean)).before args0 about1 = true := code_word (m := ⟨3, 1⟩) (meth := k3m1) (c := k3c1) (by decide +kernel) rfl rfl rfl (by decide +kernel)
def codes1 : List Jvm.Cond := [Jvm.Cond.code x code maxLocals ret, Jvm.Cond.code ({ cls := "com/example/tempograph/tempograph/pcep/Rp", name := "<init>", desc := "(II)V" } : Jvm.MethodName) prog_27_method_1_code (3 : Nat) (Option.none : Option Jvm.ClassFile.FieldType), Jvm.Cond.code ({ cls := "java/lang/Record", name := "<init>", desc := "()V" } : Jvm.MethodName) jdk_30_method_1_code (1 : Nat) (Option.none : Option Jvm.ClassFile.FieldType), Jvm.Cond.code ({ cls := "java/lang/Object", name := "<init>", desc := "()V" } : Jvm.MethodName) object_method_1_code (1 : Nat) (Option.none : Option Jvm.ClassFile.FieldType), Jvm.Cond.code ({ cls := "com/example/tempograph/tempograph/pcep/Rp", name := "bidirectional", desc := "()Z" } : Jvm.MethodName) prog_27_method_3_code (1 : Nat) (Option.some Jvm.ClassFile.FieldType.boolean)]
set_option maxRecDepth 65536 in
theorem codes_eq : words1.filter isCode = codes1 := rfl
theorem w_codes : ∀ c ∈ words1.filter isCode, c.before args0 about1 = true := by
  rw [codes_eq]
  intro c hc
  simp only [codes1, List.mem_cons, List.not_mem_nil, or_false] at hc
  rcases hc with rfl | rfl | rfl | rfl | rfl
  · exact w_c0
  · exact w_c1
  · exact w_c2
  · exact w_c3
  · exact w_c4
set_option maxRecDepth 65536 in
theorem w_t1 : words1.all (fun c => isCode c || c.before args0 about1) = true := by decide +kernel
theorem w_tables : (allAtoms (Jvm.Cond.code x code maxLocals ret :: tables_1)).before args0 about1 = true := by
  rw [allAtoms_all]
  show words1.all (fun c => c.before args0 about1) = true
  refine all_split ?_ w_codes
  rw [w_t1]
set_option maxRecDepth 65536 in
theorem w_case : (Jvm.Cond.and given_1 narrow_1).before args0 about1 = true := by decide +kernel
theorem w_applies : (headSpec (Jvm.Cond.code x code maxLocals ret :: tables_1) room_1).applies x e0.platform about1 = true :=
  (Spec.applies_iff w_frames).mpr ⟨w_running, w_runnable, w_alone, w_named, w_hears, w_ripe, w_room, w_tables⟩
theorem atStart : AtStart classFile x code maxLocals ret World_1 tables_1 room_1 Calls_1 rest_1 Pre_1 launch0 p0 e0 about1 theMethod args0 below0 :=
  ⟨lists_1, trivial, launch0.admits_env _ _ _, launch0.least_env, fairChoices_fair.cas, fairChoices_fair.clock, w_frames, w_args, w_heap, w_applies, trivial, trivial, w_case⟩
end start1
theorem witness_1 : WitnessClaimed_1 := ⟨start1.p0, start1.e0, start1.about1, start1.theMethod, start1.args0, start1.below0, start1.atStart⟩
end Jvm.Pilot.@@N@@
