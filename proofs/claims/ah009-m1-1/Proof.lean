import JvmDerived
import JvmDerived.Pilot.@@N@@Statement
import JvmDerived.Pilot.@@N@@Code
set_option linter.unusedVariables false
set_option linter.unusedSimpArgs false
namespace Jvm.RoadKit
open Sem ClassFile Op Lib Jvm.Stand Jvm.Free Jvm.LawKit
/-- the walk that stands at S comes to an end of which P holds -/
def own_Goes (tb : Tables) (e : Env) (below : List Frame) (P : State → Outcome → Prop) (S : State) : Prop := ∃ t o, Steps tb e below S t ∧ P t o
theorem own_Goes.of {tb : Tables} {e : Env} {below : List Frame} {P : State → Outcome → Prop} {S : State} (k : own_Goes tb e below P S) : ∃ t o, Steps tb e below S t ∧ P t o := k
theorem own_Goes.nm {tb : Tables} {e : Env} {below : List Frame} {P : State → Outcome → Prop} {S : State} (k : ∀ P' : State → Outcome → Prop, (∀ t o, P t o → P' t o) → own_Goes tb e below P' S) : own_Goes tb e below P S := k P fun _ _ q => q
theorem own_Goes.st {tb : Tables} {e : Env} {below : List Frame} {P : State → Outcome → Prop} {S S' : State} (k : own_Goes tb e below P S') (h : ∀ t, Steps tb e below S' t → Steps tb e below S t) : own_Goes tb e below P S := by
  obtain ⟨t, o, h1, h2⟩ := k; exact ⟨t, o, h t h1, h2⟩
theorem own_Goes.tr {tb : Tables} {e : Env} {below : List Frame} {P : State → Outcome → Prop} {S S' : State} (h : Steps tb e below S S') (k : own_Goes tb e below P S') : own_Goes tb e below P S := by
  obtain ⟨t, o, h1, h2⟩ := k; exact ⟨t, o, h.trans h1, h2⟩
theorem own_Goes.fin {tb : Tables} {e : Env} {below : List Frame} {P : State → Outcome → Prop} {S : State} (t : State) (o : Outcome) (h : Steps tb e below S t) (k : P t o) : own_Goes tb e below P S := ⟨t, o, h, k⟩
end Jvm.RoadKit
namespace Jvm.Pilot.@@N@@
open Jvm Jvm.ClassFile Sem Op Lib Jvm.Free Jvm.Stand Jvm.LawKit Jvm.RoadKit Bundle Jvm.Pilot.@@N@@.Jvm.D
def own_pick (q0 q1 q2 q3 z : Int32) : Int64 := if z = 0 then q0.toInt64 else if z = 1 then q1.toInt64 else if z = 2 then q2.toInt64 else q3.toInt64
theorem own_four {z : Int32} (h : ¬ z < 0 ∧ z < 4) : z = 0 ∨ z = 1 ∨ z = 2 ∨ z = 3 := by
  obtain ⟨h1, h2⟩ := h
  have c0 : (0 : Int32).toInt = 0 := by decide
  have c1 : (1 : Int32).toInt = 1 := by decide
  have c2 : (2 : Int32).toInt = 2 := by decide
  have c3 : (3 : Int32).toInt = 3 := by decide
  have c4 : (4 : Int32).toInt = 4 := by decide
  rw [Int32.lt_iff_toInt_lt, c0] at h1; rw [Int32.lt_iff_toInt_lt, c4] at h2
  have g : z.toInt = 0 ∨ z.toInt = 1 ∨ z.toInt = 2 ∨ z.toInt = 3 := by omega
  simpa only [← Int32.toInt_inj, c0, c1, c2, c3] using g
theorem own_pickB (q0 q1 q2 q3 z : Int32) : -2147483648 ≤ (own_pick q0 q1 q2 q3 z).toInt ∧ (own_pick q0 q1 q2 q3 z).toInt < 2147483648 := by
  have r : ∀ q : Int32, -2147483648 ≤ q.toInt64.toInt ∧ q.toInt64.toInt < 2147483648 := fun q => by rw [c_i2l]; exact rng32 q
  rw [own_pick]
  by_cases h0 : z = 0
  · rw [if_pos h0]; exact r q0
  · rw [if_neg h0]
    by_cases h1 : z = 1
    · rw [if_pos h1]; exact r q1
    · rw [if_neg h1]
      by_cases h2 : z = 2
      · rw [if_pos h2]; exact r q2
      · rw [if_neg h2]; exact r q3
theorem own_get {q0 q1 q2 q3 z : Int32} (h : ¬ z < 0 ∧ z < 4) : ([(.double (FP.i2d q0)), (.double (FP.i2d q1)), (.double (FP.i2d q2)), (.double (FP.i2d q3))] : List Value).getD z.toNatClampNeg (.double 0) = .double (FP.l2d (own_pick q0 q1 q2 q3 z)) := by
  rcases own_four h with rfl | rfl | rfl | rfl
  · show Value.double (FP.i2d q0) = _; rw [i2d_w]; rfl
  · show Value.double (FP.i2d q1) = _; rw [i2d_w]; rfl
  · show Value.double (FP.i2d q2) = _; rw [i2d_w]; rfl
  · show Value.double (FP.i2d q3) = _; rw [i2d_w]; rfl
/-- so many sums lie within -K .. K -/
def own_in (a : Int64) (K : Int) : Prop := -K ≤ a.toInt ∧ a.toInt ≤ K
theorem own_b53 {a : Int64} {K : Int} (h : own_in a K) (hK : K < 9007199254740992) : B53 a := ⟨by have := h.1; omega, by have := h.2; omega⟩
theorem own_add {a : Int64} {K : Int} (q0 q1 q2 q3 z : Int32) (h : own_in a K) (hK : K < 9007199254740992) : own_in (a + own_pick q0 q1 q2 q3 z) (K + 2147483648) := by
  have b := own_pickB q0 q1 q2 q3 z
  have c := c_ladd a (own_pick q0 q1 q2 q3 z); have r := rng64 (a + own_pick q0 q1 q2 q3 z); have := h.1; have := h.2
  exact ⟨by omega, by omega⟩
theorem own_pick53 (q0 q1 q2 q3 z : Int32) : B53 (own_pick q0 q1 q2 q3 z) := by
  have b := own_pickB q0 q1 q2 q3 z; exact ⟨by omega, by omega⟩
theorem own_sh14 (y : Int64) : own_in (y >>> ((14 : Int32) &&& 0x3f).toInt64) 562949953421312 := by
  have h := c_lshr y 14 14 (by decide); have r := rng64 y
  exact ⟨by rw [h]; omega, by rw [h]; omega⟩
def own_one (b : Int32) (r : Int64) (q : Int32) : Int64 := if b = 0 then r else r + q.toInt64
def own_ref (co : Int64) (b0 b1 b2 b3 q0 q1 q2 q3 : Int32) : Int64 := own_one b3 (own_one b2 (own_one b1 (own_one b0 co q0) q1) q2) q3
theorem own_cmp {a b : Int64} (h : a = b) (o : CmpOp) : cmpValue (FP.dcmp (FP.l2d a) (FP.l2d b)) o = 0 := by
  subst h; exact dcmpV_self (Jvm.Free.Fl.l2d_fin a).noNaN o
theorem own_k (y kk : Int32) (h : (y &&& (15 : Int32)) = kk) : kk = 0 ∨ kk = 1 ∨ kk = 2 ∨ kk = 3 ∨ kk = 4 ∨ kk = 5 ∨ kk = 6 ∨ kk = 7 ∨ kk = 8 ∨ kk = 9 ∨ kk = 10 ∨ kk = 11 ∨ kk = 12 ∨ kk = 13 ∨ kk = 14 ∨ kk = 15 := by
  have m := c_mask y 15 4 (by decide) (by decide)
  rw [h] at m
  have g : kk.toInt = 0 ∨ kk.toInt = 1 ∨ kk.toInt = 2 ∨ kk.toInt = 3 ∨ kk.toInt = 4 ∨ kk.toInt = 5 ∨ kk.toInt = 6 ∨ kk.toInt = 7 ∨ kk.toInt = 8 ∨ kk.toInt = 9 ∨ kk.toInt = 10 ∨ kk.toInt = 11 ∨ kk.toInt = 12 ∨ kk.toInt = 13 ∨ kk.toInt = 14 ∨ kk.toInt = 15 := by omega
  simpa only [← Int32.toInt_inj, (by decide : (0 : Int32).toInt = 0), (by decide : (1 : Int32).toInt = 1), (by decide : (2 : Int32).toInt = 2), (by decide : (3 : Int32).toInt = 3), (by decide : (4 : Int32).toInt = 4), (by decide : (5 : Int32).toInt = 5), (by decide : (6 : Int32).toInt = 6), (by decide : (7 : Int32).toInt = 7), (by decide : (8 : Int32).toInt = 8), (by decide : (9 : Int32).toInt = 9), (by decide : (10 : Int32).toInt = 10), (by decide : (11 : Int32).toInt = 11), (by decide : (12 : Int32).toInt = 12), (by decide : (13 : Int32).toInt = 13), (by decide : (14 : Int32).toInt = 14), (by decide : (15 : Int32).toInt = 15)] using g
theorem own_ef_new (m : MethodId) (x0 : Addr) (x1 : Int32) (x2 : Addr) (x3 : Int64) : entryFrame m #[(.ref x0), (.int x1), (.ref x2), (.long x3)] 5 = mkF m 0 #[.val (.ref x0), .val (.int x1), .val (.ref x2), .val (.long x3), .second] [] := by first | (simp [entryFrame, mkF, argsToLocals, Value.category]; done) | rfl
theorem own_pn_com_example_pushmap_pushmap_schedule_Column : plainName "com/example/pushmap/pushmap/schedule/Column" = true := by first | (simp [plainName, overriddenIn]; done) | decide +kernel
theorem own_d_prog_46_method_1_0 : decode prog_46_method_1_code 0 = .ok (.aload_n 0, 1) := by decide +kernel
theorem own_d_prog_46_method_1_1 : decode prog_46_method_1_code 1 = .ok (.invokespecial 1, 3) := by decide +kernel
theorem own_d_prog_46_method_1_4 : decode prog_46_method_1_code 4 = .ok (.aload_n 0, 1) := by decide +kernel
theorem own_d_prog_46_method_1_5 : decode prog_46_method_1_code 5 = .ok (.iload_n 1, 1) := by decide +kernel
theorem own_d_prog_46_method_1_6 : decode prog_46_method_1_code 6 = .ok (.putfield 7, 3) := by decide +kernel
theorem own_d_prog_46_method_1_9 : decode prog_46_method_1_code 9 = .ok (.aload_n 0, 1) := by decide +kernel
theorem own_d_prog_46_method_1_10 : decode prog_46_method_1_code 10 = .ok (.aload_n 2, 1) := by decide +kernel
theorem own_d_prog_46_method_1_11 : decode prog_46_method_1_code 11 = .ok (.putfield 13, 3) := by decide +kernel
theorem own_d_prog_46_method_1_14 : decode prog_46_method_1_code 14 = .ok (.aload_n 0, 1) := by decide +kernel
theorem own_d_prog_46_method_1_15 : decode prog_46_method_1_code 15 = .ok (.lload_n 3, 1) := by decide +kernel
theorem own_d_prog_46_method_1_16 : decode prog_46_method_1_code 16 = .ok (.putfield 17, 3) := by decide +kernel
theorem own_d_prog_46_method_1_19 : decode prog_46_method_1_code 19 = .ok (.return_, 1) := by decide +kernel
def Q_new (Z : State) (a : Addr) (f : Int32) (b : Addr) (co : Int64) (u1 : Value) (u2 : Value) (u3 : Value) (h0 : Heap) (n0 : Nat) (rv_ : Option Value) (h_ : Heap) (L_ : List Loc) : Prop := rv_ = none ∧ Fr n0 L_ ∧ Keep h0 h_ [a] ∧ (Exa Z h_ a "com/example/pushmap/pushmap/schedule/Column") ∧ (Fld Z h_ a "com/example/pushmap/pushmap/schedule/Column" "slots" "[I" (.ref b)) ∧ (Fld Z h_ a "com/example/pushmap/pushmap/schedule/Column" "cost" "J" (.long co))
set_option maxRecDepth 65536 in
set_option maxHeartbeats 40000000 in
theorem rm_new (l : Launch) (Z : State) (a0 : Array Value) (hw : ∀ d ∈ tables_1, d.before a0 Z = true) (ws : List Jvm.Cond) (a : Addr) (f : Int32) (b : Addr) (co : Int64) (u1 : Value) (u2 : Value) (u3 : Value) (h0 : Heap) (n0 : Nat) (Z0 : n0 ≤ h0.size) (pr0 : Exa Z h0 a "com/example/pushmap/pushmap/schedule/Column") (pr1 : Fld Z h0 a "com/example/pushmap/pushmap/schedule/Column" "object" "I" u1) (pr2 : Fld Z h0 a "com/example/pushmap/pushmap/schedule/Column" "slots" "[I" u2) (pr3 : Fld Z h0 a "com/example/pushmap/pushmap/schedule/Column" "cost" "J" u3) (pr4 : n0 ≤ a) :
    MetFree l (⟨"com/example/pushmap/pushmap/schedule/Column", "<init>", "(I[IJ)V"⟩ : MethodName) (head1 (Jvm.Cond.code (⟨"com/example/pushmap/pushmap/schedule/Column", "<init>", "(I[IJ)V"⟩ : MethodName) prog_46_method_1_code 5 none :: ws) ({ frames := 1, cells := 0, slots := 0, locals := 12 } : Room)) (fun as_ U => as_ = #[(.ref a), (.int f), (.ref b), (.long co)] ∧ Z.Warmed39 U.vm ∧ U.heap = h0) (fun _ _ _ _ _ => True) (fun _ U o U' => ∃ rv_ L_, o = .returned rv_ ∧ Q_new Z a f b co u1 u2 u3 h0 n0 rv_ U'.heap L_ ∧ FrameEnd U o U' L_ ({ frames := 1, cells := 0, slots := 0, locals := 12 } : Room).cells ({ frames := 1, cells := 0, slots := 0, locals := 12 } : Room).slots) := by
  refine MetFree.of_bodySF (plainFor_of_name own_pn_com_example_pushmap_pushmap_schedule_Column) hisR ?_
  intro p e s m args below meth c s₁ Bd hml0 hP hK
  obtain ⟨rfl, hZ, hh⟩ := hP
  have hx := Bd.exec
  have hby := Bd.bytes
  have hml : c.maxLocals = 5 := hml0
  have hown : s.vm.findClass "com/example/pushmap/pushmap/schedule/Column" = some m.cls := findClass_of_methodNamed Bd.named
  have hnm := (name_of_methodNamed Bd.named Bd.method).1
  have X0 : Stand p l e ({ frames := 1, cells := 0, slots := 0, locals := 12 } : Room) s m #[(.ref a), (.int f), (.ref b), (.long co)] below meth c s₁ [] 0 0 := Stand.of_body Bd
  have e0 : s₁.heap = h0 := by rw [← hh, Bd.state]; rfl
  have N0 := Fr.nil n0
  refine own_Goes.of ?_
  refine own_Goes.nm (fun P hPP => ?_)
  refine own_Goes.st ?_ (fun _ k => castTop (own_ef_new m a f b co) k)
  have K0 : Keep h0 h0 [a] := Keep.refl _ _
  show own_Goes p.tables e below P (s₁.setTop (mkF m 0 #[.val (.ref a), .val (.int f), .val (.ref b), .val (.long co), .second] []))
  refine own_Goes.st ?_ (fun _ k => XS.aloadN X0.here hx rfl (hb hby own_d_prog_46_method_1_0) rfl rfl k)
  show own_Goes p.tables e below P (s₁.setTop (mkF m 1 #[.val (.ref a), .val (.int f), .val (.ref b), .val (.long co), .second] [(.ref a)]))
  obtain ⟨T1, X1, e1, st1⟩ := initO X0 hx hZ hown (hw _ (List.mem_of_getElem? (i := 8) rfl)) (hw _ (List.mem_of_getElem? (i := 9) rfl)) (hw _ (List.mem_of_getElem? (i := 10) rfl)) e0 (g := (mkF m 1 #[.val (.ref a), .val (.int f), .val (.ref b), .val (.long co), .second] [(.ref a)])) rfl (by rw [hml]; rfl) rfl (hb hby own_d_prog_46_method_1_1) (by decide) (W := 0) (by show 2 * 0 + _ ≤ _; exact Nat.le_of_eq rfl) (by decide)
  refine own_Goes.st ?_ st1
  show own_Goes p.tables e below P (T1.setTop (mkF m 4 #[.val (.ref a), .val (.int f), .val (.ref b), .val (.long co), .second] []))
  refine own_Goes.st ?_ (fun _ k => XS.aloadN X1.here hx rfl (hb hby own_d_prog_46_method_1_4) rfl rfl k)
  show own_Goes p.tables e below P (T1.setTop (mkF m 5 #[.val (.ref a), .val (.int f), .val (.ref b), .val (.long co), .second] [(.ref a)]))
  refine own_Goes.st ?_ (fun _ k => XS.iloadN X1.here hx rfl (hb hby own_d_prog_46_method_1_5) rfl k)
  show own_Goes p.tables e below P (T1.setTop (mkF m 6 #[.val (.ref a), .val (.int f), .val (.ref b), .val (.long co), .second] [(.int f), (.ref a)]))
  obtain ⟨T2, h2, X2, e2, W2, st2⟩ := putF X1 hx hZ hown (host := "") (Or.inl (hw _ (List.mem_of_getElem? (i := 11) rfl))) Via.refl e1 pr1 pr0 (Or.inr ⟨(hw _ (List.mem_of_getElem? (i := 12) rfl)), rfl, hnm⟩) (hw _ (List.mem_of_getElem? (i := 3) rfl)) (ty := .int) (by decide) rfl rfl (g := (mkF m 6 #[.val (.ref a), .val (.int f), .val (.ref b), .val (.long co), .second] [(.int f), (.ref a)])) rfl rfl (hb hby own_d_prog_46_method_1_6)
  refine own_Goes.st ?_ st2
  have F3 : Fld Z h2 a "com/example/pushmap/pushmap/schedule/Column" "object" "I" (.int f) := pr1.same W2
  have Z4 : n0 ≤ h2.size := by rw [W2.size]; exact Z0
  have K5 := K0.wr W2 (Or.inl (List.mem_of_getElem? (i := 0) rfl))
  have N6 := Fr.snoc X2 N0 pr4
  show own_Goes p.tables e below P (T2.setTop (mkF m 9 #[.val (.ref a), .val (.int f), .val (.ref b), .val (.long co), .second] []))
  refine own_Goes.st ?_ (fun _ k => XS.aloadN X2.here hx rfl (hb hby own_d_prog_46_method_1_9) rfl rfl k)
  show own_Goes p.tables e below P (T2.setTop (mkF m 10 #[.val (.ref a), .val (.int f), .val (.ref b), .val (.long co), .second] [(.ref a)]))
  refine own_Goes.st ?_ (fun _ k => XS.aloadN X2.here hx rfl (hb hby own_d_prog_46_method_1_10) rfl rfl k)
  show own_Goes p.tables e below P (T2.setTop (mkF m 11 #[.val (.ref a), .val (.int f), .val (.ref b), .val (.long co), .second] [(.ref b), (.ref a)]))
  have F7 : Fld Z h2 a "com/example/pushmap/pushmap/schedule/Column" "slots" "[I" u2 := (pr2.other W2 (Or.inr (slot_ne (Or.inr (hw _ (List.mem_of_getElem? (i := 14) rfl))) (Or.inr (hw _ (List.mem_of_getElem? (i := 12) rfl))) (by decide) (t := (.array .int)) (t' := .int) (by decide) (by decide))))
  have F8 : Exa Z h2 a "com/example/pushmap/pushmap/schedule/Column" := (pr0.wr W2)
  obtain ⟨T9, h9, X9, e9, W9, st9⟩ := putF X2 hx hZ hown (host := "") (Or.inl (hw _ (List.mem_of_getElem? (i := 13) rfl))) Via.refl e2 F7 F8 (Or.inr ⟨(hw _ (List.mem_of_getElem? (i := 14) rfl)), rfl, hnm⟩) (hw _ (List.mem_of_getElem? (i := 3) rfl)) (ty := (.array .int)) (by decide) rfl rfl (g := (mkF m 11 #[.val (.ref a), .val (.int f), .val (.ref b), .val (.long co), .second] [(.ref b), (.ref a)])) rfl rfl (hb hby own_d_prog_46_method_1_11)
  refine own_Goes.st ?_ st9
  have F10 : Fld Z h9 a "com/example/pushmap/pushmap/schedule/Column" "slots" "[I" (.ref b) := F7.same W9
  have Z11 : n0 ≤ h9.size := by rw [W9.size]; exact Z4
  have K12 := K5.wr W9 (Or.inl (List.mem_of_getElem? (i := 0) rfl))
  have N13 := Fr.snoc X9 N6 pr4
  show own_Goes p.tables e below P (T9.setTop (mkF m 14 #[.val (.ref a), .val (.int f), .val (.ref b), .val (.long co), .second] []))
  refine own_Goes.st ?_ (fun _ k => XS.aloadN X9.here hx rfl (hb hby own_d_prog_46_method_1_14) rfl rfl k)
  show own_Goes p.tables e below P (T9.setTop (mkF m 15 #[.val (.ref a), .val (.int f), .val (.ref b), .val (.long co), .second] [(.ref a)]))
  refine own_Goes.st ?_ (fun _ k => XS.lloadN X9.here hx rfl (hb hby own_d_prog_46_method_1_15) rfl k)
  show own_Goes p.tables e below P (T9.setTop (mkF m 16 #[.val (.ref a), .val (.int f), .val (.ref b), .val (.long co), .second] [(.long co), (.ref a)]))
  have F14 : Fld Z h9 a "com/example/pushmap/pushmap/schedule/Column" "cost" "J" u3 := ((pr3.other W2 (Or.inr (slot_ne (Or.inr (hw _ (List.mem_of_getElem? (i := 16) rfl))) (Or.inr (hw _ (List.mem_of_getElem? (i := 12) rfl))) (by decide) (t := .long) (t' := .int) (by decide) (by decide)))).other W9 (Or.inr (slot_ne (Or.inr (hw _ (List.mem_of_getElem? (i := 16) rfl))) (Or.inr (hw _ (List.mem_of_getElem? (i := 14) rfl))) (by decide) (t := .long) (t' := (.array .int)) (by decide) (by decide))))
  have F15 : Exa Z h9 a "com/example/pushmap/pushmap/schedule/Column" := (F8.wr W9)
  obtain ⟨T16, h16, X16, e16, W16, st16⟩ := putF X9 hx hZ hown (host := "") (Or.inl (hw _ (List.mem_of_getElem? (i := 15) rfl))) Via.refl e9 F14 F15 (Or.inr ⟨(hw _ (List.mem_of_getElem? (i := 16) rfl)), rfl, hnm⟩) (hw _ (List.mem_of_getElem? (i := 3) rfl)) (ty := .long) (by decide) rfl rfl (g := (mkF m 16 #[.val (.ref a), .val (.int f), .val (.ref b), .val (.long co), .second] [(.long co), (.ref a)])) rfl rfl (hb hby own_d_prog_46_method_1_16)
  refine own_Goes.st ?_ st16
  have F17 : Fld Z h16 a "com/example/pushmap/pushmap/schedule/Column" "cost" "J" (.long co) := F14.same W16
  have Z18 : n0 ≤ h16.size := by rw [W16.size]; exact Z11
  have K19 := K12.wr W16 (Or.inl (List.mem_of_getElem? (i := 0) rfl))
  have N20 := Fr.snoc X16 N13 pr4
  show own_Goes p.tables e below P (T16.setTop (mkF m 19 #[.val (.ref a), .val (.int f), .val (.ref b), .val (.long co), .second] []))
  obtain ⟨fs, hr, hrun, hended, hW, hsame⟩ := X16.leave (v := none) (fun _ => rfl)
  have F21 : Exa Z h16 a "com/example/pushmap/pushmap/schedule/Column" := (F15.wr W16)
  have F22 : Fld Z h16 a "com/example/pushmap/pushmap/schedule/Column" "slots" "[I" (.ref b) := (F10.other W16 (Or.inr (slot_ne (Or.inr (hw _ (List.mem_of_getElem? (i := 14) rfl))) (Or.inr (hw _ (List.mem_of_getElem? (i := 16) rfl))) (by decide) (t := (.array .int)) (t' := .long) (by decide) (by decide))))
  exact own_Goes.fin _ _ (X16.returnOut hx Bd.returns (hb hby own_d_prog_46_method_1_19) hr) (hPP _ _ ⟨hrun, hended, _, _, rfl, (by show Q_new Z a f b co u1 u2 u3 h0 n0 _ T16.heap _; rw [e16]; exact ⟨rfl, N20, K19, F21, F22, F17⟩), ⟨_, rfl⟩, hW, hsame.mono (by decide) (by decide)⟩)
theorem own_ef_priced0 (m : MethodId) (x0 : Addr) (x1 : Addr) : entryFrame m #[(.ref x0), (.ref x1)] 8 = mkF m 0 #[.val (.ref x0), .val (.ref x1), .unset, .unset, .unset, .unset, .unset, .unset] [] := by first | (simp [entryFrame, mkF, argsToLocals, Value.category]; done) | rfl
theorem own_d_prog_46_method_5_0 : decode prog_46_method_5_code 0 = .ok (.aload_n 0, 1) := by decide +kernel
theorem own_d_prog_46_method_5_1 : decode prog_46_method_5_code 1 = .ok (.getfield 17, 3) := by decide +kernel
theorem own_d_prog_46_method_5_4 : decode prog_46_method_5_code 4 = .ok (.l2d, 1) := by decide +kernel
theorem own_d_prog_46_method_5_5 : decode prog_46_method_5_code 5 = .ok (.dstore_n 2, 1) := by decide +kernel
theorem own_d_prog_46_method_5_6 : decode prog_46_method_5_code 6 = .ok (.aload_n 0, 1) := by decide +kernel
theorem own_d_prog_46_method_5_7 : decode prog_46_method_5_code 7 = .ok (.getfield 13, 3) := by decide +kernel
theorem own_d_prog_46_method_5_10 : decode prog_46_method_5_code 10 = .ok (.astore 4, 2) := by decide +kernel
theorem own_d_prog_46_method_5_12 : decode prog_46_method_5_code 12 = .ok (.aload 4, 2) := by decide +kernel
theorem own_d_prog_46_method_5_14 : decode prog_46_method_5_code 14 = .ok (.arraylength, 1) := by decide +kernel
theorem own_d_prog_46_method_5_15 : decode prog_46_method_5_code 15 = .ok (.istore 5, 2) := by decide +kernel
theorem own_d_prog_46_method_5_17 : decode prog_46_method_5_code 17 = .ok (.iconst 0, 1) := by decide +kernel
theorem own_d_prog_46_method_5_18 : decode prog_46_method_5_code 18 = .ok (.istore 6, 2) := by decide +kernel
theorem own_d_prog_46_method_5_20 : decode prog_46_method_5_code 20 = .ok (.iload 6, 2) := by decide +kernel
theorem own_d_prog_46_method_5_22 : decode prog_46_method_5_code 22 = .ok (.iload 5, 2) := by decide +kernel
theorem own_d_prog_46_method_5_24 : decode prog_46_method_5_code 24 = .ok (.if_icmp .ge 23, 3) := by decide +kernel
theorem own_d_prog_46_method_5_47 : decode prog_46_method_5_code 47 = .ok (.dload_n 2, 1) := by decide +kernel
theorem own_d_prog_46_method_5_48 : decode prog_46_method_5_code 48 = .ok (.dreturn, 1) := by decide +kernel
def Q_priced0 (Z : State) (a : Addr) (pa : Addr) (b : Addr) (co : Int64) (k : ClassId) (k2 : ClassId) (q0 : Int32) (q1 : Int32) (q2 : Int32) (q3 : Int32) (h0 : Heap) (n0 : Nat) (rv_ : Option Value) (h_ : Heap) (L_ : List Loc) : Prop := rv_ = some (.double (FP.l2d co)) ∧ Fr n0 L_ ∧ h_ = h0
set_option maxRecDepth 65536 in
set_option maxHeartbeats 40000000 in
theorem rm_priced0 (l : Launch) (Z : State) (a0 : Array Value) (hw : ∀ d ∈ tables_1, d.before a0 Z = true) (ws : List Jvm.Cond) (a : Addr) (pa : Addr) (b : Addr) (co : Int64) (k : ClassId) (k2 : ClassId) (q0 : Int32) (q1 : Int32) (q2 : Int32) (q3 : Int32) (h0 : Heap) (n0 : Nat) (Z0 : n0 ≤ h0.size) (pr0 : Fld Z h0 a "com/example/pushmap/pushmap/schedule/Column" "slots" "[I" (.ref b)) (pr1 : Fld Z h0 a "com/example/pushmap/pushmap/schedule/Column" "cost" "J" (.long co)) (pr2 : Arv Z h0 b k .int (0 : Int32) [] (.int 0)) (pr3 : Arv Z h0 pa k2 .double (4 : Int32) [(.double (FP.i2d q0)), (.double (FP.i2d q1)), (.double (FP.i2d q2)), (.double (FP.i2d q3))] (.double 0)) :
    MetFree l (⟨"com/example/pushmap/pushmap/schedule/Column", "priced", "([D)D"⟩ : MethodName) (head1 (Jvm.Cond.code (⟨"com/example/pushmap/pushmap/schedule/Column", "priced", "([D)D"⟩ : MethodName) prog_46_method_5_code 8 (some .double) :: ws) ({ frames := 0, cells := 0, slots := 0, locals := 0 } : Room)) (fun as_ U => as_ = #[(.ref a), (.ref pa)] ∧ Z.Warmed39 U.vm ∧ U.heap = h0) (fun _ _ _ _ _ => True) (fun _ U o U' => ∃ rv_ L_, o = .returned rv_ ∧ Q_priced0 Z a pa b co k k2 q0 q1 q2 q3 h0 n0 rv_ U'.heap L_ ∧ FrameEnd U o U' L_ ({ frames := 0, cells := 0, slots := 0, locals := 0 } : Room).cells ({ frames := 0, cells := 0, slots := 0, locals := 0 } : Room).slots) := by
  refine MetFree.of_bodySF (plainFor_of_name own_pn_com_example_pushmap_pushmap_schedule_Column) hisR ?_
  intro p e s m args below meth c s₁ Bd hml0 hP hK
  obtain ⟨rfl, hZ, hh⟩ := hP
  have hx := Bd.exec
  have hby := Bd.bytes
  have hml : c.maxLocals = 8 := hml0
  have hown : s.vm.findClass "com/example/pushmap/pushmap/schedule/Column" = some m.cls := findClass_of_methodNamed Bd.named
  have hnm := (name_of_methodNamed Bd.named Bd.method).1
  have X0 : Stand p l e ({ frames := 0, cells := 0, slots := 0, locals := 0 } : Room) s m #[(.ref a), (.ref pa)] below meth c s₁ [] 0 0 := Stand.of_body Bd
  have e0 : s₁.heap = h0 := by rw [← hh, Bd.state]; rfl
  have N0 := Fr.nil n0
  refine own_Goes.of ?_
  refine own_Goes.nm (fun P hPP => ?_)
  refine own_Goes.st ?_ (fun _ k => castTop (own_ef_priced0 m a pa) k)
  show own_Goes p.tables e below P (s₁.setTop (mkF m 0 #[.val (.ref a), .val (.ref pa), .unset, .unset, .unset, .unset, .unset, .unset] []))
  refine own_Goes.st ?_ (fun _ k => XS.aloadN X0.here hx rfl (hb hby own_d_prog_46_method_5_0) rfl rfl k)
  show own_Goes p.tables e below P (s₁.setTop (mkF m 1 #[.val (.ref a), .val (.ref pa), .unset, .unset, .unset, .unset, .unset, .unset] [(.ref a)]))
  obtain ⟨T1, X1, e1, st1⟩ := getF X0 hx hZ hown (host := "") (Or.inl (hw _ (List.mem_of_getElem? (i := 15) rfl))) Via.refl e0 pr1 (g := (mkF m 1 #[.val (.ref a), .val (.ref pa), .unset, .unset, .unset, .unset, .unset, .unset] [(.ref a)])) rfl rfl (hb hby own_d_prog_46_method_5_1)
  refine own_Goes.st ?_ st1
  show own_Goes p.tables e below P (T1.setTop (mkF m 4 #[.val (.ref a), .val (.ref pa), .unset, .unset, .unset, .unset, .unset, .unset] [(.long co)]))
  refine own_Goes.st ?_ (fun _ k => XS.l2dS X1.here hx rfl (hb hby own_d_prog_46_method_5_4) rfl rfl k)
  show own_Goes p.tables e below P (T1.setTop (mkF m 5 #[.val (.ref a), .val (.ref pa), .unset, .unset, .unset, .unset, .unset, .unset] [(.double (FP.l2d co))]))
  refine own_Goes.st ?_ (fun _ k => XS.dstoreN X1.here hx rfl (hb hby own_d_prog_46_method_5_5) rfl (l' := #[.val (.ref a), .val (.ref pa), .val (.double (FP.l2d co)), .second, .unset, .unset, .unset, .unset]) rfl k)
  show own_Goes p.tables e below P (T1.setTop (mkF m 6 #[.val (.ref a), .val (.ref pa), .val (.double (FP.l2d co)), .second, .unset, .unset, .unset, .unset] []))
  refine own_Goes.st ?_ (fun _ k => XS.aloadN X1.here hx rfl (hb hby own_d_prog_46_method_5_6) rfl rfl k)
  show own_Goes p.tables e below P (T1.setTop (mkF m 7 #[.val (.ref a), .val (.ref pa), .val (.double (FP.l2d co)), .second, .unset, .unset, .unset, .unset] [(.ref a)]))
  obtain ⟨T2, X2, e2, st2⟩ := getF X1 hx hZ hown (host := "") (Or.inl (hw _ (List.mem_of_getElem? (i := 13) rfl))) Via.refl e1 pr0 (g := (mkF m 7 #[.val (.ref a), .val (.ref pa), .val (.double (FP.l2d co)), .second, .unset, .unset, .unset, .unset] [(.ref a)])) rfl rfl (hb hby own_d_prog_46_method_5_7)
  refine own_Goes.st ?_ st2
  show own_Goes p.tables e below P (T2.setTop (mkF m 10 #[.val (.ref a), .val (.ref pa), .val (.double (FP.l2d co)), .second, .unset, .unset, .unset, .unset] [(.ref b)]))
  refine own_Goes.st ?_ (fun _ k => XS.astore X2.here hx rfl (hb hby own_d_prog_46_method_5_10) rfl rfl (l' := #[.val (.ref a), .val (.ref pa), .val (.double (FP.l2d co)), .second, .val (.ref b), .unset, .unset, .unset]) rfl k)
  show own_Goes p.tables e below P (T2.setTop (mkF m 12 #[.val (.ref a), .val (.ref pa), .val (.double (FP.l2d co)), .second, .val (.ref b), .unset, .unset, .unset] []))
  refine own_Goes.st ?_ (fun _ k => XS.aload X2.here hx rfl (hb hby own_d_prog_46_method_5_12) rfl rfl k)
  show own_Goes p.tables e below P (T2.setTop (mkF m 14 #[.val (.ref a), .val (.ref pa), .val (.double (FP.l2d co)), .second, .val (.ref b), .unset, .unset, .unset] [(.ref b)]))
  have Vc3 := pr2
  obtain ⟨cl3, Ar3, qc3, S3, Nn3, Hs3, Gs3⟩ := Vc3
  refine own_Goes.st ?_ (X2.arraylength hx (by rw [e2]; exact Ar3.1) (State.isArrayOf_alike hZ.alike Ar3.2.1) (g := (mkF m 14 #[.val (.ref a), .val (.ref pa), .val (.double (FP.l2d co)), .second, .val (.ref b), .unset, .unset, .unset] [(.ref b)])) rfl rfl (hb hby own_d_prog_46_method_5_14))
  rw [len_of S3 Nn3]
  show own_Goes p.tables e below P (T2.setTop (mkF m 15 #[.val (.ref a), .val (.ref pa), .val (.double (FP.l2d co)), .second, .val (.ref b), .unset, .unset, .unset] [(.int (0 : Int32))]))
  refine own_Goes.st ?_ (fun _ k => XS.istore X2.here hx rfl (hb hby own_d_prog_46_method_5_15) rfl (l' := #[.val (.ref a), .val (.ref pa), .val (.double (FP.l2d co)), .second, .val (.ref b), .val (.int (0 : Int32)), .unset, .unset]) rfl k)
  show own_Goes p.tables e below P (T2.setTop (mkF m 17 #[.val (.ref a), .val (.ref pa), .val (.double (FP.l2d co)), .second, .val (.ref b), .val (.int (0 : Int32)), .unset, .unset] []))
  refine own_Goes.st ?_ (fun _ k => XS.iconst X2.here hx rfl (hb hby own_d_prog_46_method_5_17) k)
  show own_Goes p.tables e below P (T2.setTop (mkF m 18 #[.val (.ref a), .val (.ref pa), .val (.double (FP.l2d co)), .second, .val (.ref b), .val (.int (0 : Int32)), .unset, .unset] [(.int (0 : Int32))]))
  refine own_Goes.st ?_ (fun _ k => XS.istore X2.here hx rfl (hb hby own_d_prog_46_method_5_18) rfl (l' := #[.val (.ref a), .val (.ref pa), .val (.double (FP.l2d co)), .second, .val (.ref b), .val (.int (0 : Int32)), .val (.int (0 : Int32)), .unset]) rfl k)
  show own_Goes p.tables e below P (T2.setTop (mkF m 20 #[.val (.ref a), .val (.ref pa), .val (.double (FP.l2d co)), .second, .val (.ref b), .val (.int (0 : Int32)), .val (.int (0 : Int32)), .unset] []))
  refine own_Goes.st ?_ (fun _ k => XS.iload X2.here hx rfl (hb hby own_d_prog_46_method_5_20) rfl k)
  show own_Goes p.tables e below P (T2.setTop (mkF m 22 #[.val (.ref a), .val (.ref pa), .val (.double (FP.l2d co)), .second, .val (.ref b), .val (.int (0 : Int32)), .val (.int (0 : Int32)), .unset] [(.int (0 : Int32))]))
  refine own_Goes.st ?_ (fun _ k => XS.iload X2.here hx rfl (hb hby own_d_prog_46_method_5_22) rfl k)
  show own_Goes p.tables e below P (T2.setTop (mkF m 24 #[.val (.ref a), .val (.ref pa), .val (.double (FP.l2d co)), .second, .val (.ref b), .val (.int (0 : Int32)), .val (.int (0 : Int32)), .unset] [(.int (0 : Int32)), (.int (0 : Int32))]))
  refine own_Goes.st ?_ (fun _ k => XS.icmpYes X2.here hx rfl (pc0 := 24) (pc' := 47) rfl (hb hby own_d_prog_46_method_5_24) rfl (flt (by decide : ¬ ((0 : Int32) < (0 : Int32)))).2.1 (by decide) (by decide) k)
  show own_Goes p.tables e below P (T2.setTop (mkF m 47 #[.val (.ref a), .val (.ref pa), .val (.double (FP.l2d co)), .second, .val (.ref b), .val (.int (0 : Int32)), .val (.int (0 : Int32)), .unset] []))
  refine own_Goes.st ?_ (fun _ k => XS.dloadN X2.here hx rfl (hb hby own_d_prog_46_method_5_47) rfl k)
  show own_Goes p.tables e below P (T2.setTop (mkF m 48 #[.val (.ref a), .val (.ref pa), .val (.double (FP.l2d co)), .second, .val (.ref b), .val (.int (0 : Int32)), .val (.int (0 : Int32)), .unset] [(.double (FP.l2d co))]))
  obtain ⟨fs, hr, hrun, hended, hW, hsame⟩ := X2.leave (v := some (.double (FP.l2d co))) (fun h => by rw [Bd.returns] at h; cases h)
  exact own_Goes.fin _ _ (retOut X2 hx (t := .double) Bd.returns rfl (Or.inr (Or.inr (Or.inl ⟨rfl, rfl, _, rfl⟩))) (hb hby own_d_prog_46_method_5_48) hr) (hPP _ _ ⟨hrun, hended, _, _, rfl, (by show Q_priced0 Z a pa b co k k2 q0 q1 q2 q3 h0 n0 _ T2.heap _; rw [e2]; exact ⟨rfl, N0, rfl⟩), ⟨_, rfl⟩, hW, hsame.mono (by decide) (by decide)⟩)
theorem own_ef_priced1 (m : MethodId) (x0 : Addr) (x1 : Addr) : entryFrame m #[(.ref x0), (.ref x1)] 8 = mkF m 0 #[.val (.ref x0), .val (.ref x1), .unset, .unset, .unset, .unset, .unset, .unset] [] := by first | (simp [entryFrame, mkF, argsToLocals, Value.category]; done) | rfl
theorem own_d_prog_46_method_5_27 : decode prog_46_method_5_code 27 = .ok (.aload 4, 2) := by decide +kernel
theorem own_d_prog_46_method_5_29 : decode prog_46_method_5_code 29 = .ok (.iload 6, 2) := by decide +kernel
theorem own_d_prog_46_method_5_31 : decode prog_46_method_5_code 31 = .ok (.iaload, 1) := by decide +kernel
theorem own_d_prog_46_method_5_32 : decode prog_46_method_5_code 32 = .ok (.istore 7, 2) := by decide +kernel
theorem own_d_prog_46_method_5_34 : decode prog_46_method_5_code 34 = .ok (.dload_n 2, 1) := by decide +kernel
theorem own_d_prog_46_method_5_35 : decode prog_46_method_5_code 35 = .ok (.aload_n 1, 1) := by decide +kernel
theorem own_d_prog_46_method_5_36 : decode prog_46_method_5_code 36 = .ok (.iload 7, 2) := by decide +kernel
theorem own_d_prog_46_method_5_38 : decode prog_46_method_5_code 38 = .ok (.daload, 1) := by decide +kernel
theorem own_d_prog_46_method_5_39 : decode prog_46_method_5_code 39 = .ok (.dadd, 1) := by decide +kernel
theorem own_d_prog_46_method_5_40 : decode prog_46_method_5_code 40 = .ok (.dstore_n 2, 1) := by decide +kernel
theorem own_d_prog_46_method_5_41 : decode prog_46_method_5_code 41 = .ok (.iinc 6 1, 3) := by decide +kernel
theorem own_d_prog_46_method_5_44 : decode prog_46_method_5_code 44 = .ok (.goto (-24), 3) := by decide +kernel
def Q_priced1 (Z : State) (a : Addr) (pa : Addr) (b : Addr) (co : Int64) (k : ClassId) (k2 : ClassId) (q0 : Int32) (q1 : Int32) (q2 : Int32) (q3 : Int32) (s0 : Int32) (h0 : Heap) (n0 : Nat) (rv_ : Option Value) (h_ : Heap) (L_ : List Loc) : Prop := rv_ = some (.double (FP.l2d (co + own_pick q0 q1 q2 q3 s0))) ∧ Fr n0 L_ ∧ h_ = h0
set_option maxRecDepth 65536 in
set_option maxHeartbeats 40000000 in
theorem rm_priced1 (l : Launch) (Z : State) (a0 : Array Value) (hw : ∀ d ∈ tables_1, d.before a0 Z = true) (ws : List Jvm.Cond) (a : Addr) (pa : Addr) (b : Addr) (co : Int64) (k : ClassId) (k2 : ClassId) (q0 : Int32) (q1 : Int32) (q2 : Int32) (q3 : Int32) (s0 : Int32) (h0 : Heap) (n0 : Nat) (Z0 : n0 ≤ h0.size) (pr0 : Fld Z h0 a "com/example/pushmap/pushmap/schedule/Column" "slots" "[I" (.ref b)) (pr1 : Fld Z h0 a "com/example/pushmap/pushmap/schedule/Column" "cost" "J" (.long co)) (pr2 : Arv Z h0 b k .int (1 : Int32) [(.int s0)] (.int 0)) (pr3 : Arv Z h0 pa k2 .double (4 : Int32) [(.double (FP.i2d q0)), (.double (FP.i2d q1)), (.double (FP.i2d q2)), (.double (FP.i2d q3))] (.double 0)) (hco : own_in co 562949953421312) (hs0 : ¬ s0 < 0 ∧ s0 < 4) :
    MetFree l (⟨"com/example/pushmap/pushmap/schedule/Column", "priced", "([D)D"⟩ : MethodName) (head1 (Jvm.Cond.code (⟨"com/example/pushmap/pushmap/schedule/Column", "priced", "([D)D"⟩ : MethodName) prog_46_method_5_code 8 (some .double) :: ws) ({ frames := 0, cells := 0, slots := 0, locals := 0 } : Room)) (fun as_ U => as_ = #[(.ref a), (.ref pa)] ∧ Z.Warmed39 U.vm ∧ U.heap = h0) (fun _ _ _ _ _ => True) (fun _ U o U' => ∃ rv_ L_, o = .returned rv_ ∧ Q_priced1 Z a pa b co k k2 q0 q1 q2 q3 s0 h0 n0 rv_ U'.heap L_ ∧ FrameEnd U o U' L_ ({ frames := 0, cells := 0, slots := 0, locals := 0 } : Room).cells ({ frames := 0, cells := 0, slots := 0, locals := 0 } : Room).slots) := by
  refine MetFree.of_bodySF (plainFor_of_name own_pn_com_example_pushmap_pushmap_schedule_Column) hisR ?_
  intro p e s m args below meth c s₁ Bd hml0 hP hK
  obtain ⟨rfl, hZ, hh⟩ := hP
  have hx := Bd.exec
  have hby := Bd.bytes
  have hml : c.maxLocals = 8 := hml0
  have hown : s.vm.findClass "com/example/pushmap/pushmap/schedule/Column" = some m.cls := findClass_of_methodNamed Bd.named
  have hnm := (name_of_methodNamed Bd.named Bd.method).1
  have X0 : Stand p l e ({ frames := 0, cells := 0, slots := 0, locals := 0 } : Room) s m #[(.ref a), (.ref pa)] below meth c s₁ [] 0 0 := Stand.of_body Bd
  have e0 : s₁.heap = h0 := by rw [← hh, Bd.state]; rfl
  have N0 := Fr.nil n0
  refine own_Goes.of ?_
  refine own_Goes.nm (fun P hPP => ?_)
  refine own_Goes.st ?_ (fun _ k => castTop (own_ef_priced1 m a pa) k)
  show own_Goes p.tables e below P (s₁.setTop (mkF m 0 #[.val (.ref a), .val (.ref pa), .unset, .unset, .unset, .unset, .unset, .unset] []))
  refine own_Goes.st ?_ (fun _ k => XS.aloadN X0.here hx rfl (hb hby own_d_prog_46_method_5_0) rfl rfl k)
  show own_Goes p.tables e below P (s₁.setTop (mkF m 1 #[.val (.ref a), .val (.ref pa), .unset, .unset, .unset, .unset, .unset, .unset] [(.ref a)]))
  obtain ⟨T1, X1, e1, st1⟩ := getF X0 hx hZ hown (host := "") (Or.inl (hw _ (List.mem_of_getElem? (i := 15) rfl))) Via.refl e0 pr1 (g := (mkF m 1 #[.val (.ref a), .val (.ref pa), .unset, .unset, .unset, .unset, .unset, .unset] [(.ref a)])) rfl rfl (hb hby own_d_prog_46_method_5_1)
  refine own_Goes.st ?_ st1
  show own_Goes p.tables e below P (T1.setTop (mkF m 4 #[.val (.ref a), .val (.ref pa), .unset, .unset, .unset, .unset, .unset, .unset] [(.long co)]))
  refine own_Goes.st ?_ (fun _ k => XS.l2dS X1.here hx rfl (hb hby own_d_prog_46_method_5_4) rfl rfl k)
  show own_Goes p.tables e below P (T1.setTop (mkF m 5 #[.val (.ref a), .val (.ref pa), .unset, .unset, .unset, .unset, .unset, .unset] [(.double (FP.l2d co))]))
  refine own_Goes.st ?_ (fun _ k => XS.dstoreN X1.here hx rfl (hb hby own_d_prog_46_method_5_5) rfl (l' := #[.val (.ref a), .val (.ref pa), .val (.double (FP.l2d co)), .second, .unset, .unset, .unset, .unset]) rfl k)
  show own_Goes p.tables e below P (T1.setTop (mkF m 6 #[.val (.ref a), .val (.ref pa), .val (.double (FP.l2d co)), .second, .unset, .unset, .unset, .unset] []))
  refine own_Goes.st ?_ (fun _ k => XS.aloadN X1.here hx rfl (hb hby own_d_prog_46_method_5_6) rfl rfl k)
  show own_Goes p.tables e below P (T1.setTop (mkF m 7 #[.val (.ref a), .val (.ref pa), .val (.double (FP.l2d co)), .second, .unset, .unset, .unset, .unset] [(.ref a)]))
  obtain ⟨T2, X2, e2, st2⟩ := getF X1 hx hZ hown (host := "") (Or.inl (hw _ (List.mem_of_getElem? (i := 13) rfl))) Via.refl e1 pr0 (g := (mkF m 7 #[.val (.ref a), .val (.ref pa), .val (.double (FP.l2d co)), .second, .unset, .unset, .unset, .unset] [(.ref a)])) rfl rfl (hb hby own_d_prog_46_method_5_7)
  refine own_Goes.st ?_ st2
  show own_Goes p.tables e below P (T2.setTop (mkF m 10 #[.val (.ref a), .val (.ref pa), .val (.double (FP.l2d co)), .second, .unset, .unset, .unset, .unset] [(.ref b)]))
  refine own_Goes.st ?_ (fun _ k => XS.astore X2.here hx rfl (hb hby own_d_prog_46_method_5_10) rfl rfl (l' := #[.val (.ref a), .val (.ref pa), .val (.double (FP.l2d co)), .second, .val (.ref b), .unset, .unset, .unset]) rfl k)
  show own_Goes p.tables e below P (T2.setTop (mkF m 12 #[.val (.ref a), .val (.ref pa), .val (.double (FP.l2d co)), .second, .val (.ref b), .unset, .unset, .unset] []))
  refine own_Goes.st ?_ (fun _ k => XS.aload X2.here hx rfl (hb hby own_d_prog_46_method_5_12) rfl rfl k)
  show own_Goes p.tables e below P (T2.setTop (mkF m 14 #[.val (.ref a), .val (.ref pa), .val (.double (FP.l2d co)), .second, .val (.ref b), .unset, .unset, .unset] [(.ref b)]))
  have Vc3 := pr2
  obtain ⟨cl3, Ar3, qc3, S3, Nn3, Hs3, Gs3⟩ := Vc3
  refine own_Goes.st ?_ (X2.arraylength hx (by rw [e2]; exact Ar3.1) (State.isArrayOf_alike hZ.alike Ar3.2.1) (g := (mkF m 14 #[.val (.ref a), .val (.ref pa), .val (.double (FP.l2d co)), .second, .val (.ref b), .unset, .unset, .unset] [(.ref b)])) rfl rfl (hb hby own_d_prog_46_method_5_14))
  rw [len_of S3 Nn3]
  show own_Goes p.tables e below P (T2.setTop (mkF m 15 #[.val (.ref a), .val (.ref pa), .val (.double (FP.l2d co)), .second, .val (.ref b), .unset, .unset, .unset] [(.int (1 : Int32))]))
  refine own_Goes.st ?_ (fun _ k => XS.istore X2.here hx rfl (hb hby own_d_prog_46_method_5_15) rfl (l' := #[.val (.ref a), .val (.ref pa), .val (.double (FP.l2d co)), .second, .val (.ref b), .val (.int (1 : Int32)), .unset, .unset]) rfl k)
  show own_Goes p.tables e below P (T2.setTop (mkF m 17 #[.val (.ref a), .val (.ref pa), .val (.double (FP.l2d co)), .second, .val (.ref b), .val (.int (1 : Int32)), .unset, .unset] []))
  refine own_Goes.st ?_ (fun _ k => XS.iconst X2.here hx rfl (hb hby own_d_prog_46_method_5_17) k)
  show own_Goes p.tables e below P (T2.setTop (mkF m 18 #[.val (.ref a), .val (.ref pa), .val (.double (FP.l2d co)), .second, .val (.ref b), .val (.int (1 : Int32)), .unset, .unset] [(.int (0 : Int32))]))
  refine own_Goes.st ?_ (fun _ k => XS.istore X2.here hx rfl (hb hby own_d_prog_46_method_5_18) rfl (l' := #[.val (.ref a), .val (.ref pa), .val (.double (FP.l2d co)), .second, .val (.ref b), .val (.int (1 : Int32)), .val (.int (0 : Int32)), .unset]) rfl k)
  show own_Goes p.tables e below P (T2.setTop (mkF m 20 #[.val (.ref a), .val (.ref pa), .val (.double (FP.l2d co)), .second, .val (.ref b), .val (.int (1 : Int32)), .val (.int (0 : Int32)), .unset] []))
  refine own_Goes.st ?_ (fun _ k => XS.iload X2.here hx rfl (hb hby own_d_prog_46_method_5_20) rfl k)
  show own_Goes p.tables e below P (T2.setTop (mkF m 22 #[.val (.ref a), .val (.ref pa), .val (.double (FP.l2d co)), .second, .val (.ref b), .val (.int (1 : Int32)), .val (.int (0 : Int32)), .unset] [(.int (0 : Int32))]))
  refine own_Goes.st ?_ (fun _ k => XS.iload X2.here hx rfl (hb hby own_d_prog_46_method_5_22) rfl k)
  show own_Goes p.tables e below P (T2.setTop (mkF m 24 #[.val (.ref a), .val (.ref pa), .val (.double (FP.l2d co)), .second, .val (.ref b), .val (.int (1 : Int32)), .val (.int (0 : Int32)), .unset] [(.int (1 : Int32)), (.int (0 : Int32))]))
  refine own_Goes.st ?_ (fun _ k => XS.icmpNo X2.here hx rfl (hb hby own_d_prog_46_method_5_24) rfl (tlt (by decide : (0 : Int32) < (1 : Int32))).2.1 k)
  show own_Goes p.tables e below P (T2.setTop (mkF m 27 #[.val (.ref a), .val (.ref pa), .val (.double (FP.l2d co)), .second, .val (.ref b), .val (.int (1 : Int32)), .val (.int (0 : Int32)), .unset] []))
  refine own_Goes.st ?_ (fun _ k => XS.aload X2.here hx rfl (hb hby own_d_prog_46_method_5_27) rfl rfl k)
  show own_Goes p.tables e below P (T2.setTop (mkF m 29 #[.val (.ref a), .val (.ref pa), .val (.double (FP.l2d co)), .second, .val (.ref b), .val (.int (1 : Int32)), .val (.int (0 : Int32)), .unset] [(.ref b)]))
  refine own_Goes.st ?_ (fun _ k => XS.iload X2.here hx rfl (hb hby own_d_prog_46_method_5_29) rfl k)
  show own_Goes p.tables e below P (T2.setTop (mkF m 31 #[.val (.ref a), .val (.ref pa), .val (.double (FP.l2d co)), .second, .val (.ref b), .val (.int (1 : Int32)), .val (.int (0 : Int32)), .unset] [(.int (0 : Int32)), (.ref b)]))
  have hin4 : ¬ ((0 : Int32) < 0 ∨ cl3.slots.size ≤ ((0 : Int32)).toNatClampNeg) := inb_of S3 ⟨by decide, by decide⟩
  refine own_Goes.st ?_ (X2.iaload hx (j := (0 : Int32)) (v := (.int s0)) (by rw [e2]; exact Ar3.1) (State.isArrayOf_alike hZ.alike Ar3.2.1) Ar3.2.2 hin4 (Has.at Hs3 hin4 rfl) (g := (mkF m 31 #[.val (.ref a), .val (.ref pa), .val (.double (FP.l2d co)), .second, .val (.ref b), .val (.int (1 : Int32)), .val (.int (0 : Int32)), .unset] [(.int (0 : Int32)), (.ref b)])) rfl rfl (hb hby own_d_prog_46_method_5_31))
  show own_Goes p.tables e below P (T2.setTop (mkF m 32 #[.val (.ref a), .val (.ref pa), .val (.double (FP.l2d co)), .second, .val (.ref b), .val (.int (1 : Int32)), .val (.int (0 : Int32)), .unset] [(.int s0)]))
  refine own_Goes.st ?_ (fun _ k => XS.istore X2.here hx rfl (hb hby own_d_prog_46_method_5_32) rfl (l' := #[.val (.ref a), .val (.ref pa), .val (.double (FP.l2d co)), .second, .val (.ref b), .val (.int (1 : Int32)), .val (.int (0 : Int32)), .val (.int s0)]) rfl k)
  show own_Goes p.tables e below P (T2.setTop (mkF m 34 #[.val (.ref a), .val (.ref pa), .val (.double (FP.l2d co)), .second, .val (.ref b), .val (.int (1 : Int32)), .val (.int (0 : Int32)), .val (.int s0)] []))
  refine own_Goes.st ?_ (fun _ k => XS.dloadN X2.here hx rfl (hb hby own_d_prog_46_method_5_34) rfl k)
  show own_Goes p.tables e below P (T2.setTop (mkF m 35 #[.val (.ref a), .val (.ref pa), .val (.double (FP.l2d co)), .second, .val (.ref b), .val (.int (1 : Int32)), .val (.int (0 : Int32)), .val (.int s0)] [(.double (FP.l2d co))]))
  refine own_Goes.st ?_ (fun _ k => XS.aloadN X2.here hx rfl (hb hby own_d_prog_46_method_5_35) rfl rfl k)
  show own_Goes p.tables e below P (T2.setTop (mkF m 36 #[.val (.ref a), .val (.ref pa), .val (.double (FP.l2d co)), .second, .val (.ref b), .val (.int (1 : Int32)), .val (.int (0 : Int32)), .val (.int s0)] [(.ref pa), (.double (FP.l2d co))]))
  refine own_Goes.st ?_ (fun _ k => XS.iload X2.here hx rfl (hb hby own_d_prog_46_method_5_36) rfl k)
  show own_Goes p.tables e below P (T2.setTop (mkF m 38 #[.val (.ref a), .val (.ref pa), .val (.double (FP.l2d co)), .second, .val (.ref b), .val (.int (1 : Int32)), .val (.int (0 : Int32)), .val (.int s0)] [(.int s0), (.ref pa), (.double (FP.l2d co))]))
  have Vc5 := pr3
  obtain ⟨cl5, Ar5, qc5, S5, Nn5, Hs5, Gs5⟩ := Vc5
  have hins0 : ¬ (s0 < 0 ∨ cl5.slots.size ≤ (s0).toNatClampNeg) := inb_of S5 hs0
  refine own_Goes.st ?_ (X2.daload hx (j := s0) (v := (.double (FP.l2d (own_pick q0 q1 q2 q3 s0)))) (by rw [e2]; exact Ar5.1) (State.isArrayOf_alike hZ.alike Ar5.2.1) Ar5.2.2 hins0 (Has.at Hs5 hins0 (own_get hs0)) (g := (mkF m 38 #[.val (.ref a), .val (.ref pa), .val (.double (FP.l2d co)), .second, .val (.ref b), .val (.int (1 : Int32)), .val (.int (0 : Int32)), .val (.int s0)] [(.int s0), (.ref pa), (.double (FP.l2d co))])) rfl rfl (hb hby own_d_prog_46_method_5_38))
  show own_Goes p.tables e below P (T2.setTop (mkF m 39 #[.val (.ref a), .val (.ref pa), .val (.double (FP.l2d co)), .second, .val (.ref b), .val (.int (1 : Int32)), .val (.int (0 : Int32)), .val (.int s0)] [(.double (FP.l2d (own_pick q0 q1 q2 q3 s0))), (.double (FP.l2d co))]))
  have hd0 := dadd_w (own_b53 hco (by decide)) (own_pick53 q0 q1 q2 q3 s0)
  refine own_Goes.st ?_ (fun _ k => XS.daddS X2.here hx rfl (hb hby own_d_prog_46_method_5_39) rfl (nn_w hd0) hd0 k)
  have hi0 := own_add q0 q1 q2 q3 s0 hco (by decide)
  show own_Goes p.tables e below P (T2.setTop (mkF m 40 #[.val (.ref a), .val (.ref pa), .val (.double (FP.l2d co)), .second, .val (.ref b), .val (.int (1 : Int32)), .val (.int (0 : Int32)), .val (.int s0)] [(.double (FP.l2d (co + own_pick q0 q1 q2 q3 s0)))]))
  refine own_Goes.st ?_ (fun _ k => XS.dstoreN X2.here hx rfl (hb hby own_d_prog_46_method_5_40) rfl (l' := #[.val (.ref a), .val (.ref pa), .val (.double (FP.l2d (co + own_pick q0 q1 q2 q3 s0))), .second, .val (.ref b), .val (.int (1 : Int32)), .val (.int (0 : Int32)), .val (.int s0)]) rfl k)
  show own_Goes p.tables e below P (T2.setTop (mkF m 41 #[.val (.ref a), .val (.ref pa), .val (.double (FP.l2d (co + own_pick q0 q1 q2 q3 s0))), .second, .val (.ref b), .val (.int (1 : Int32)), .val (.int (0 : Int32)), .val (.int s0)] []))
  refine own_Goes.st ?_ (fun _ k => XS.iinc X2.here hx rfl (hb hby own_d_prog_46_method_5_41) rfl (l' := #[.val (.ref a), .val (.ref pa), .val (.double (FP.l2d (co + own_pick q0 q1 q2 q3 s0))), .second, .val (.ref b), .val (.int (1 : Int32)), .val (.int (1 : Int32)), .val (.int s0)]) rfl k)
  show own_Goes p.tables e below P (T2.setTop (mkF m 44 #[.val (.ref a), .val (.ref pa), .val (.double (FP.l2d (co + own_pick q0 q1 q2 q3 s0))), .second, .val (.ref b), .val (.int (1 : Int32)), .val (.int (1 : Int32)), .val (.int s0)] []))
  refine own_Goes.st ?_ (fun _ k => XS.goto X2.here hx rfl (pc0 := 44) (pc' := 20) rfl (hb hby own_d_prog_46_method_5_44) (by decide) (by decide) k)
  show own_Goes p.tables e below P (T2.setTop (mkF m 20 #[.val (.ref a), .val (.ref pa), .val (.double (FP.l2d (co + own_pick q0 q1 q2 q3 s0))), .second, .val (.ref b), .val (.int (1 : Int32)), .val (.int (1 : Int32)), .val (.int s0)] []))
  refine own_Goes.st ?_ (fun _ k => XS.iload X2.here hx rfl (hb hby own_d_prog_46_method_5_20) rfl k)
  show own_Goes p.tables e below P (T2.setTop (mkF m 22 #[.val (.ref a), .val (.ref pa), .val (.double (FP.l2d (co + own_pick q0 q1 q2 q3 s0))), .second, .val (.ref b), .val (.int (1 : Int32)), .val (.int (1 : Int32)), .val (.int s0)] [(.int (1 : Int32))]))
  refine own_Goes.st ?_ (fun _ k => XS.iload X2.here hx rfl (hb hby own_d_prog_46_method_5_22) rfl k)
  show own_Goes p.tables e below P (T2.setTop (mkF m 24 #[.val (.ref a), .val (.ref pa), .val (.double (FP.l2d (co + own_pick q0 q1 q2 q3 s0))), .second, .val (.ref b), .val (.int (1 : Int32)), .val (.int (1 : Int32)), .val (.int s0)] [(.int (1 : Int32)), (.int (1 : Int32))]))
  refine own_Goes.st ?_ (fun _ k => XS.icmpYes X2.here hx rfl (pc0 := 24) (pc' := 47) rfl (hb hby own_d_prog_46_method_5_24) rfl (flt (by decide : ¬ ((1 : Int32) < (1 : Int32)))).2.1 (by decide) (by decide) k)
  show own_Goes p.tables e below P (T2.setTop (mkF m 47 #[.val (.ref a), .val (.ref pa), .val (.double (FP.l2d (co + own_pick q0 q1 q2 q3 s0))), .second, .val (.ref b), .val (.int (1 : Int32)), .val (.int (1 : Int32)), .val (.int s0)] []))
  refine own_Goes.st ?_ (fun _ k => XS.dloadN X2.here hx rfl (hb hby own_d_prog_46_method_5_47) rfl k)
  show own_Goes p.tables e below P (T2.setTop (mkF m 48 #[.val (.ref a), .val (.ref pa), .val (.double (FP.l2d (co + own_pick q0 q1 q2 q3 s0))), .second, .val (.ref b), .val (.int (1 : Int32)), .val (.int (1 : Int32)), .val (.int s0)] [(.double (FP.l2d (co + own_pick q0 q1 q2 q3 s0)))]))
  obtain ⟨fs, hr, hrun, hended, hW, hsame⟩ := X2.leave (v := some (.double (FP.l2d (co + own_pick q0 q1 q2 q3 s0)))) (fun h => by rw [Bd.returns] at h; cases h)
  exact own_Goes.fin _ _ (retOut X2 hx (t := .double) Bd.returns rfl (Or.inr (Or.inr (Or.inl ⟨rfl, rfl, _, rfl⟩))) (hb hby own_d_prog_46_method_5_48) hr) (hPP _ _ ⟨hrun, hended, _, _, rfl, (by show Q_priced1 Z a pa b co k k2 q0 q1 q2 q3 s0 h0 n0 _ T2.heap _; rw [e2]; exact ⟨rfl, N0, rfl⟩), ⟨_, rfl⟩, hW, hsame.mono (by decide) (by decide)⟩)
theorem own_ef_priced2 (m : MethodId) (x0 : Addr) (x1 : Addr) : entryFrame m #[(.ref x0), (.ref x1)] 8 = mkF m 0 #[.val (.ref x0), .val (.ref x1), .unset, .unset, .unset, .unset, .unset, .unset] [] := by first | (simp [entryFrame, mkF, argsToLocals, Value.category]; done) | rfl
def Q_priced2 (Z : State) (a : Addr) (pa : Addr) (b : Addr) (co : Int64) (k : ClassId) (k2 : ClassId) (q0 : Int32) (q1 : Int32) (q2 : Int32) (q3 : Int32) (s0 : Int32) (s1 : Int32) (h0 : Heap) (n0 : Nat) (rv_ : Option Value) (h_ : Heap) (L_ : List Loc) : Prop := rv_ = some (.double (FP.l2d ((co + own_pick q0 q1 q2 q3 s0) + own_pick q0 q1 q2 q3 s1))) ∧ Fr n0 L_ ∧ h_ = h0
set_option maxRecDepth 65536 in
set_option maxHeartbeats 40000000 in
theorem rm_priced2 (l : Launch) (Z : State) (a0 : Array Value) (hw : ∀ d ∈ tables_1, d.before a0 Z = true) (ws : List Jvm.Cond) (a : Addr) (pa : Addr) (b : Addr) (co : Int64) (k : ClassId) (k2 : ClassId) (q0 : Int32) (q1 : Int32) (q2 : Int32) (q3 : Int32) (s0 : Int32) (s1 : Int32) (h0 : Heap) (n0 : Nat) (Z0 : n0 ≤ h0.size) (pr0 : Fld Z h0 a "com/example/pushmap/pushmap/schedule/Column" "slots" "[I" (.ref b)) (pr1 : Fld Z h0 a "com/example/pushmap/pushmap/schedule/Column" "cost" "J" (.long co)) (pr2 : Arv Z h0 b k .int (2 : Int32) [(.int s0), (.int s1)] (.int 0)) (pr3 : Arv Z h0 pa k2 .double (4 : Int32) [(.double (FP.i2d q0)), (.double (FP.i2d q1)), (.double (FP.i2d q2)), (.double (FP.i2d q3))] (.double 0)) (hco : own_in co 562949953421312) (hs0 : ¬ s0 < 0 ∧ s0 < 4) (hs1 : ¬ s1 < 0 ∧ s1 < 4) :
    MetFree l (⟨"com/example/pushmap/pushmap/schedule/Column", "priced", "([D)D"⟩ : MethodName) (head1 (Jvm.Cond.code (⟨"com/example/pushmap/pushmap/schedule/Column", "priced", "([D)D"⟩ : MethodName) prog_46_method_5_code 8 (some .double) :: ws) ({ frames := 0, cells := 0, slots := 0, locals := 0 } : Room)) (fun as_ U => as_ = #[(.ref a), (.ref pa)] ∧ Z.Warmed39 U.vm ∧ U.heap = h0) (fun _ _ _ _ _ => True) (fun _ U o U' => ∃ rv_ L_, o = .returned rv_ ∧ Q_priced2 Z a pa b co k k2 q0 q1 q2 q3 s0 s1 h0 n0 rv_ U'.heap L_ ∧ FrameEnd U o U' L_ ({ frames := 0, cells := 0, slots := 0, locals := 0 } : Room).cells ({ frames := 0, cells := 0, slots := 0, locals := 0 } : Room).slots) := by
  refine MetFree.of_bodySF (plainFor_of_name own_pn_com_example_pushmap_pushmap_schedule_Column) hisR ?_
  intro p e s m args below meth c s₁ Bd hml0 hP hK
  obtain ⟨rfl, hZ, hh⟩ := hP
  have hx := Bd.exec
  have hby := Bd.bytes
  have hml : c.maxLocals = 8 := hml0
  have hown : s.vm.findClass "com/example/pushmap/pushmap/schedule/Column" = some m.cls := findClass_of_methodNamed Bd.named
  have hnm := (name_of_methodNamed Bd.named Bd.method).1
  have X0 : Stand p l e ({ frames := 0, cells := 0, slots := 0, locals := 0 } : Room) s m #[(.ref a), (.ref pa)] below meth c s₁ [] 0 0 := Stand.of_body Bd
  have e0 : s₁.heap = h0 := by rw [← hh, Bd.state]; rfl
  have N0 := Fr.nil n0
  refine own_Goes.of ?_
  refine own_Goes.nm (fun P hPP => ?_)
  refine own_Goes.st ?_ (fun _ k => castTop (own_ef_priced2 m a pa) k)
  show own_Goes p.tables e below P (s₁.setTop (mkF m 0 #[.val (.ref a), .val (.ref pa), .unset, .unset, .unset, .unset, .unset, .unset] []))
  refine own_Goes.st ?_ (fun _ k => XS.aloadN X0.here hx rfl (hb hby own_d_prog_46_method_5_0) rfl rfl k)
  show own_Goes p.tables e below P (s₁.setTop (mkF m 1 #[.val (.ref a), .val (.ref pa), .unset, .unset, .unset, .unset, .unset, .unset] [(.ref a)]))
  obtain ⟨T1, X1, e1, st1⟩ := getF X0 hx hZ hown (host := "") (Or.inl (hw _ (List.mem_of_getElem? (i := 15) rfl))) Via.refl e0 pr1 (g := (mkF m 1 #[.val (.ref a), .val (.ref pa), .unset, .unset, .unset, .unset, .unset, .unset] [(.ref a)])) rfl rfl (hb hby own_d_prog_46_method_5_1)
  refine own_Goes.st ?_ st1
  show own_Goes p.tables e below P (T1.setTop (mkF m 4 #[.val (.ref a), .val (.ref pa), .unset, .unset, .unset, .unset, .unset, .unset] [(.long co)]))
  refine own_Goes.st ?_ (fun _ k => XS.l2dS X1.here hx rfl (hb hby own_d_prog_46_method_5_4) rfl rfl k)
  show own_Goes p.tables e below P (T1.setTop (mkF m 5 #[.val (.ref a), .val (.ref pa), .unset, .unset, .unset, .unset, .unset, .unset] [(.double (FP.l2d co))]))
  refine own_Goes.st ?_ (fun _ k => XS.dstoreN X1.here hx rfl (hb hby own_d_prog_46_method_5_5) rfl (l' := #[.val (.ref a), .val (.ref pa), .val (.double (FP.l2d co)), .second, .unset, .unset, .unset, .unset]) rfl k)
  show own_Goes p.tables e below P (T1.setTop (mkF m 6 #[.val (.ref a), .val (.ref pa), .val (.double (FP.l2d co)), .second, .unset, .unset, .unset, .unset] []))
  refine own_Goes.st ?_ (fun _ k => XS.aloadN X1.here hx rfl (hb hby own_d_prog_46_method_5_6) rfl rfl k)
  show own_Goes p.tables e below P (T1.setTop (mkF m 7 #[.val (.ref a), .val (.ref pa), .val (.double (FP.l2d co)), .second, .unset, .unset, .unset, .unset] [(.ref a)]))
  obtain ⟨T2, X2, e2, st2⟩ := getF X1 hx hZ hown (host := "") (Or.inl (hw _ (List.mem_of_getElem? (i := 13) rfl))) Via.refl e1 pr0 (g := (mkF m 7 #[.val (.ref a), .val (.ref pa), .val (.double (FP.l2d co)), .second, .unset, .unset, .unset, .unset] [(.ref a)])) rfl rfl (hb hby own_d_prog_46_method_5_7)
  refine own_Goes.st ?_ st2
  show own_Goes p.tables e below P (T2.setTop (mkF m 10 #[.val (.ref a), .val (.ref pa), .val (.double (FP.l2d co)), .second, .unset, .unset, .unset, .unset] [(.ref b)]))
  refine own_Goes.st ?_ (fun _ k => XS.astore X2.here hx rfl (hb hby own_d_prog_46_method_5_10) rfl rfl (l' := #[.val (.ref a), .val (.ref pa), .val (.double (FP.l2d co)), .second, .val (.ref b), .unset, .unset, .unset]) rfl k)
  show own_Goes p.tables e below P (T2.setTop (mkF m 12 #[.val (.ref a), .val (.ref pa), .val (.double (FP.l2d co)), .second, .val (.ref b), .unset, .unset, .unset] []))
  refine own_Goes.st ?_ (fun _ k => XS.aload X2.here hx rfl (hb hby own_d_prog_46_method_5_12) rfl rfl k)
  show own_Goes p.tables e below P (T2.setTop (mkF m 14 #[.val (.ref a), .val (.ref pa), .val (.double (FP.l2d co)), .second, .val (.ref b), .unset, .unset, .unset] [(.ref b)]))
  have Vc3 := pr2
  obtain ⟨cl3, Ar3, qc3, S3, Nn3, Hs3, Gs3⟩ := Vc3
  refine own_Goes.st ?_ (X2.arraylength hx (by rw [e2]; exact Ar3.1) (State.isArrayOf_alike hZ.alike Ar3.2.1) (g := (mkF m 14 #[.val (.ref a), .val (.ref pa), .val (.double (FP.l2d co)), .second, .val (.ref b), .unset, .unset, .unset] [(.ref b)])) rfl rfl (hb hby own_d_prog_46_method_5_14))
  rw [len_of S3 Nn3]
  show own_Goes p.tables e below P (T2.setTop (mkF m 15 #[.val (.ref a), .val (.ref pa), .val (.double (FP.l2d co)), .second, .val (.ref b), .unset, .unset, .unset] [(.int (2 : Int32))]))
  refine own_Goes.st ?_ (fun _ k => XS.istore X2.here hx rfl (hb hby own_d_prog_46_method_5_15) rfl (l' := #[.val (.ref a), .val (.ref pa), .val (.double (FP.l2d co)), .second, .val (.ref b), .val (.int (2 : Int32)), .unset, .unset]) rfl k)
  show own_Goes p.tables e below P (T2.setTop (mkF m 17 #[.val (.ref a), .val (.ref pa), .val (.double (FP.l2d co)), .second, .val (.ref b), .val (.int (2 : Int32)), .unset, .unset] []))
  refine own_Goes.st ?_ (fun _ k => XS.iconst X2.here hx rfl (hb hby own_d_prog_46_method_5_17) k)
  show own_Goes p.tables e below P (T2.setTop (mkF m 18 #[.val (.ref a), .val (.ref pa), .val (.double (FP.l2d co)), .second, .val (.ref b), .val (.int (2 : Int32)), .unset, .unset] [(.int (0 : Int32))]))
  refine own_Goes.st ?_ (fun _ k => XS.istore X2.here hx rfl (hb hby own_d_prog_46_method_5_18) rfl (l' := #[.val (.ref a), .val (.ref pa), .val (.double (FP.l2d co)), .second, .val (.ref b), .val (.int (2 : Int32)), .val (.int (0 : Int32)), .unset]) rfl k)
  show own_Goes p.tables e below P (T2.setTop (mkF m 20 #[.val (.ref a), .val (.ref pa), .val (.double (FP.l2d co)), .second, .val (.ref b), .val (.int (2 : Int32)), .val (.int (0 : Int32)), .unset] []))
  refine own_Goes.st ?_ (fun _ k => XS.iload X2.here hx rfl (hb hby own_d_prog_46_method_5_20) rfl k)
  show own_Goes p.tables e below P (T2.setTop (mkF m 22 #[.val (.ref a), .val (.ref pa), .val (.double (FP.l2d co)), .second, .val (.ref b), .val (.int (2 : Int32)), .val (.int (0 : Int32)), .unset] [(.int (0 : Int32))]))
  refine own_Goes.st ?_ (fun _ k => XS.iload X2.here hx rfl (hb hby own_d_prog_46_method_5_22) rfl k)
  show own_Goes p.tables e below P (T2.setTop (mkF m 24 #[.val (.ref a), .val (.ref pa), .val (.double (FP.l2d co)), .second, .val (.ref b), .val (.int (2 : Int32)), .val (.int (0 : Int32)), .unset] [(.int (2 : Int32)), (.int (0 : Int32))]))
  refine own_Goes.st ?_ (fun _ k => XS.icmpNo X2.here hx rfl (hb hby own_d_prog_46_method_5_24) rfl (tlt (by decide : (0 : Int32) < (2 : Int32))).2.1 k)
  show own_Goes p.tables e below P (T2.setTop (mkF m 27 #[.val (.ref a), .val (.ref pa), .val (.double (FP.l2d co)), .second, .val (.ref b), .val (.int (2 : Int32)), .val (.int (0 : Int32)), .unset] []))
  refine own_Goes.st ?_ (fun _ k => XS.aload X2.here hx rfl (hb hby own_d_prog_46_method_5_27) rfl rfl k)
  show own_Goes p.tables e below P (T2.setTop (mkF m 29 #[.val (.ref a), .val (.ref pa), .val (.double (FP.l2d co)), .second, .val (.ref b), .val (.int (2 : Int32)), .val (.int (0 : Int32)), .unset] [(.ref b)]))
  refine own_Goes.st ?_ (fun _ k => XS.iload X2.here hx rfl (hb hby own_d_prog_46_method_5_29) rfl k)
  show own_Goes p.tables e below P (T2.setTop (mkF m 31 #[.val (.ref a), .val (.ref pa), .val (.double (FP.l2d co)), .second, .val (.ref b), .val (.int (2 : Int32)), .val (.int (0 : Int32)), .unset] [(.int (0 : Int32)), (.ref b)]))
  have hin4 : ¬ ((0 : Int32) < 0 ∨ cl3.slots.size ≤ ((0 : Int32)).toNatClampNeg) := inb_of S3 ⟨by decide, by decide⟩
  refine own_Goes.st ?_ (X2.iaload hx (j := (0 : Int32)) (v := (.int s0)) (by rw [e2]; exact Ar3.1) (State.isArrayOf_alike hZ.alike Ar3.2.1) Ar3.2.2 hin4 (Has.at Hs3 hin4 rfl) (g := (mkF m 31 #[.val (.ref a), .val (.ref pa), .val (.double (FP.l2d co)), .second, .val (.ref b), .val (.int (2 : Int32)), .val (.int (0 : Int32)), .unset] [(.int (0 : Int32)), (.ref b)])) rfl rfl (hb hby own_d_prog_46_method_5_31))
  show own_Goes p.tables e below P (T2.setTop (mkF m 32 #[.val (.ref a), .val (.ref pa), .val (.double (FP.l2d co)), .second, .val (.ref b), .val (.int (2 : Int32)), .val (.int (0 : Int32)), .unset] [(.int s0)]))
  refine own_Goes.st ?_ (fun _ k => XS.istore X2.here hx rfl (hb hby own_d_prog_46_method_5_32) rfl (l' := #[.val (.ref a), .val (.ref pa), .val (.double (FP.l2d co)), .second, .val (.ref b), .val (.int (2 : Int32)), .val (.int (0 : Int32)), .val (.int s0)]) rfl k)
  show own_Goes p.tables e below P (T2.setTop (mkF m 34 #[.val (.ref a), .val (.ref pa), .val (.double (FP.l2d co)), .second, .val (.ref b), .val (.int (2 : Int32)), .val (.int (0 : Int32)), .val (.int s0)] []))
  refine own_Goes.st ?_ (fun _ k => XS.dloadN X2.here hx rfl (hb hby own_d_prog_46_method_5_34) rfl k)
  show own_Goes p.tables e below P (T2.setTop (mkF m 35 #[.val (.ref a), .val (.ref pa), .val (.double (FP.l2d co)), .second, .val (.ref b), .val (.int (2 : Int32)), .val (.int (0 : Int32)), .val (.int s0)] [(.double (FP.l2d co))]))
  refine own_Goes.st ?_ (fun _ k => XS.aloadN X2.here hx rfl (hb hby own_d_prog_46_method_5_35) rfl rfl k)
  show own_Goes p.tables e below P (T2.setTop (mkF m 36 #[.val (.ref a), .val (.ref pa), .val (.double (FP.l2d co)), .second, .val (.ref b), .val (.int (2 : Int32)), .val (.int (0 : Int32)), .val (.int s0)] [(.ref pa), (.double (FP.l2d co))]))
  refine own_Goes.st ?_ (fun _ k => XS.iload X2.here hx rfl (hb hby own_d_prog_46_method_5_36) rfl k)
  show own_Goes p.tables e below P (T2.setTop (mkF m 38 #[.val (.ref a), .val (.ref pa), .val (.double (FP.l2d co)), .second, .val (.ref b), .val (.int (2 : Int32)), .val (.int (0 : Int32)), .val (.int s0)] [(.int s0), (.ref pa), (.double (FP.l2d co))]))
  have Vc5 := pr3
  obtain ⟨cl5, Ar5, qc5, S5, Nn5, Hs5, Gs5⟩ := Vc5
  have hins0 : ¬ (s0 < 0 ∨ cl5.slots.size ≤ (s0).toNatClampNeg) := inb_of S5 hs0
  refine own_Goes.st ?_ (X2.daload hx (j := s0) (v := (.double (FP.l2d (own_pick q0 q1 q2 q3 s0)))) (by rw [e2]; exact Ar5.1) (State.isArrayOf_alike hZ.alike Ar5.2.1) Ar5.2.2 hins0 (Has.at Hs5 hins0 (own_get hs0)) (g := (mkF m 38 #[.val (.ref a), .val (.ref pa), .val (.double (FP.l2d co)), .second, .val (.ref b), .val (.int (2 : Int32)), .val (.int (0 : Int32)), .val (.int s0)] [(.int s0), (.ref pa), (.double (FP.l2d co))])) rfl rfl (hb hby own_d_prog_46_method_5_38))
  show own_Goes p.tables e below P (T2.setTop (mkF m 39 #[.val (.ref a), .val (.ref pa), .val (.double (FP.l2d co)), .second, .val (.ref b), .val (.int (2 : Int32)), .val (.int (0 : Int32)), .val (.int s0)] [(.double (FP.l2d (own_pick q0 q1 q2 q3 s0))), (.double (FP.l2d co))]))
  have hd0 := dadd_w (own_b53 hco (by decide)) (own_pick53 q0 q1 q2 q3 s0)
  refine own_Goes.st ?_ (fun _ k => XS.daddS X2.here hx rfl (hb hby own_d_prog_46_method_5_39) rfl (nn_w hd0) hd0 k)
  have hi0 := own_add q0 q1 q2 q3 s0 hco (by decide)
  show own_Goes p.tables e below P (T2.setTop (mkF m 40 #[.val (.ref a), .val (.ref pa), .val (.double (FP.l2d co)), .second, .val (.ref b), .val (.int (2 : Int32)), .val (.int (0 : Int32)), .val (.int s0)] [(.double (FP.l2d (co + own_pick q0 q1 q2 q3 s0)))]))
  refine own_Goes.st ?_ (fun _ k => XS.dstoreN X2.here hx rfl (hb hby own_d_prog_46_method_5_40) rfl (l' := #[.val (.ref a), .val (.ref pa), .val (.double (FP.l2d (co + own_pick q0 q1 q2 q3 s0))), .second, .val (.ref b), .val (.int (2 : Int32)), .val (.int (0 : Int32)), .val (.int s0)]) rfl k)
  show own_Goes p.tables e below P (T2.setTop (mkF m 41 #[.val (.ref a), .val (.ref pa), .val (.double (FP.l2d (co + own_pick q0 q1 q2 q3 s0))), .second, .val (.ref b), .val (.int (2 : Int32)), .val (.int (0 : Int32)), .val (.int s0)] []))
  refine own_Goes.st ?_ (fun _ k => XS.iinc X2.here hx rfl (hb hby own_d_prog_46_method_5_41) rfl (l' := #[.val (.ref a), .val (.ref pa), .val (.double (FP.l2d (co + own_pick q0 q1 q2 q3 s0))), .second, .val (.ref b), .val (.int (2 : Int32)), .val (.int (1 : Int32)), .val (.int s0)]) rfl k)
  show own_Goes p.tables e below P (T2.setTop (mkF m 44 #[.val (.ref a), .val (.ref pa), .val (.double (FP.l2d (co + own_pick q0 q1 q2 q3 s0))), .second, .val (.ref b), .val (.int (2 : Int32)), .val (.int (1 : Int32)), .val (.int s0)] []))
  refine own_Goes.st ?_ (fun _ k => XS.goto X2.here hx rfl (pc0 := 44) (pc' := 20) rfl (hb hby own_d_prog_46_method_5_44) (by decide) (by decide) k)
  show own_Goes p.tables e below P (T2.setTop (mkF m 20 #[.val (.ref a), .val (.ref pa), .val (.double (FP.l2d (co + own_pick q0 q1 q2 q3 s0))), .second, .val (.ref b), .val (.int (2 : Int32)), .val (.int (1 : Int32)), .val (.int s0)] []))
  refine own_Goes.st ?_ (fun _ k => XS.iload X2.here hx rfl (hb hby own_d_prog_46_method_5_20) rfl k)
  show own_Goes p.tables e below P (T2.setTop (mkF m 22 #[.val (.ref a), .val (.ref pa), .val (.double (FP.l2d (co + own_pick q0 q1 q2 q3 s0))), .second, .val (.ref b), .val (.int (2 : Int32)), .val (.int (1 : Int32)), .val (.int s0)] [(.int (1 : Int32))]))
  refine own_Goes.st ?_ (fun _ k => XS.iload X2.here hx rfl (hb hby own_d_prog_46_method_5_22) rfl k)
  show own_Goes p.tables e below P (T2.setTop (mkF m 24 #[.val (.ref a), .val (.ref pa), .val (.double (FP.l2d (co + own_pick q0 q1 q2 q3 s0))), .second, .val (.ref b), .val (.int (2 : Int32)), .val (.int (1 : Int32)), .val (.int s0)] [(.int (2 : Int32)), (.int (1 : Int32))]))
  refine own_Goes.st ?_ (fun _ k => XS.icmpNo X2.here hx rfl (hb hby own_d_prog_46_method_5_24) rfl (tlt (by decide : (1 : Int32) < (2 : Int32))).2.1 k)
  show own_Goes p.tables e below P (T2.setTop (mkF m 27 #[.val (.ref a), .val (.ref pa), .val (.double (FP.l2d (co + own_pick q0 q1 q2 q3 s0))), .second, .val (.ref b), .val (.int (2 : Int32)), .val (.int (1 : Int32)), .val (.int s0)] []))
  refine own_Goes.st ?_ (fun _ k => XS.aload X2.here hx rfl (hb hby own_d_prog_46_method_5_27) rfl rfl k)
  show own_Goes p.tables e below P (T2.setTop (mkF m 29 #[.val (.ref a), .val (.ref pa), .val (.double (FP.l2d (co + own_pick q0 q1 q2 q3 s0))), .second, .val (.ref b), .val (.int (2 : Int32)), .val (.int (1 : Int32)), .val (.int s0)] [(.ref b)]))
  refine own_Goes.st ?_ (fun _ k => XS.iload X2.here hx rfl (hb hby own_d_prog_46_method_5_29) rfl k)
  show own_Goes p.tables e below P (T2.setTop (mkF m 31 #[.val (.ref a), .val (.ref pa), .val (.double (FP.l2d (co + own_pick q0 q1 q2 q3 s0))), .second, .val (.ref b), .val (.int (2 : Int32)), .val (.int (1 : Int32)), .val (.int s0)] [(.int (1 : Int32)), (.ref b)]))
  have hin6 : ¬ ((1 : Int32) < 0 ∨ cl3.slots.size ≤ ((1 : Int32)).toNatClampNeg) := inb_of S3 ⟨by decide, by decide⟩
  refine own_Goes.st ?_ (X2.iaload hx (j := (1 : Int32)) (v := (.int s1)) (by rw [e2]; exact Ar3.1) (State.isArrayOf_alike hZ.alike Ar3.2.1) Ar3.2.2 hin6 (Has.at Hs3 hin6 rfl) (g := (mkF m 31 #[.val (.ref a), .val (.ref pa), .val (.double (FP.l2d (co + own_pick q0 q1 q2 q3 s0))), .second, .val (.ref b), .val (.int (2 : Int32)), .val (.int (1 : Int32)), .val (.int s0)] [(.int (1 : Int32)), (.ref b)])) rfl rfl (hb hby own_d_prog_46_method_5_31))
  show own_Goes p.tables e below P (T2.setTop (mkF m 32 #[.val (.ref a), .val (.ref pa), .val (.double (FP.l2d (co + own_pick q0 q1 q2 q3 s0))), .second, .val (.ref b), .val (.int (2 : Int32)), .val (.int (1 : Int32)), .val (.int s0)] [(.int s1)]))
  refine own_Goes.st ?_ (fun _ k => XS.istore X2.here hx rfl (hb hby own_d_prog_46_method_5_32) rfl (l' := #[.val (.ref a), .val (.ref pa), .val (.double (FP.l2d (co + own_pick q0 q1 q2 q3 s0))), .second, .val (.ref b), .val (.int (2 : Int32)), .val (.int (1 : Int32)), .val (.int s1)]) rfl k)
  show own_Goes p.tables e below P (T2.setTop (mkF m 34 #[.val (.ref a), .val (.ref pa), .val (.double (FP.l2d (co + own_pick q0 q1 q2 q3 s0))), .second, .val (.ref b), .val (.int (2 : Int32)), .val (.int (1 : Int32)), .val (.int s1)] []))
  refine own_Goes.st ?_ (fun _ k => XS.dloadN X2.here hx rfl (hb hby own_d_prog_46_method_5_34) rfl k)
  show own_Goes p.tables e below P (T2.setTop (mkF m 35 #[.val (.ref a), .val (.ref pa), .val (.double (FP.l2d (co + own_pick q0 q1 q2 q3 s0))), .second, .val (.ref b), .val (.int (2 : Int32)), .val (.int (1 : Int32)), .val (.int s1)] [(.double (FP.l2d (co + own_pick q0 q1 q2 q3 s0)))]))
  refine own_Goes.st ?_ (fun _ k => XS.aloadN X2.here hx rfl (hb hby own_d_prog_46_method_5_35) rfl rfl k)
  show own_Goes p.tables e below P (T2.setTop (mkF m 36 #[.val (.ref a), .val (.ref pa), .val (.double (FP.l2d (co + own_pick q0 q1 q2 q3 s0))), .second, .val (.ref b), .val (.int (2 : Int32)), .val (.int (1 : Int32)), .val (.int s1)] [(.ref pa), (.double (FP.l2d (co + own_pick q0 q1 q2 q3 s0)))]))
  refine own_Goes.st ?_ (fun _ k => XS.iload X2.here hx rfl (hb hby own_d_prog_46_method_5_36) rfl k)
  show own_Goes p.tables e below P (T2.setTop (mkF m 38 #[.val (.ref a), .val (.ref pa), .val (.double (FP.l2d (co + own_pick q0 q1 q2 q3 s0))), .second, .val (.ref b), .val (.int (2 : Int32)), .val (.int (1 : Int32)), .val (.int s1)] [(.int s1), (.ref pa), (.double (FP.l2d (co + own_pick q0 q1 q2 q3 s0)))]))
  have hins1 : ¬ (s1 < 0 ∨ cl5.slots.size ≤ (s1).toNatClampNeg) := inb_of S5 hs1
  refine own_Goes.st ?_ (X2.daload hx (j := s1) (v := (.double (FP.l2d (own_pick q0 q1 q2 q3 s1)))) (by rw [e2]; exact Ar5.1) (State.isArrayOf_alike hZ.alike Ar5.2.1) Ar5.2.2 hins1 (Has.at Hs5 hins1 (own_get hs1)) (g := (mkF m 38 #[.val (.ref a), .val (.ref pa), .val (.double (FP.l2d (co + own_pick q0 q1 q2 q3 s0))), .second, .val (.ref b), .val (.int (2 : Int32)), .val (.int (1 : Int32)), .val (.int s1)] [(.int s1), (.ref pa), (.double (FP.l2d (co + own_pick q0 q1 q2 q3 s0)))])) rfl rfl (hb hby own_d_prog_46_method_5_38))
  show own_Goes p.tables e below P (T2.setTop (mkF m 39 #[.val (.ref a), .val (.ref pa), .val (.double (FP.l2d (co + own_pick q0 q1 q2 q3 s0))), .second, .val (.ref b), .val (.int (2 : Int32)), .val (.int (1 : Int32)), .val (.int s1)] [(.double (FP.l2d (own_pick q0 q1 q2 q3 s1))), (.double (FP.l2d (co + own_pick q0 q1 q2 q3 s0)))]))
  have hd1 := dadd_w (own_b53 hi0 (by decide)) (own_pick53 q0 q1 q2 q3 s1)
  refine own_Goes.st ?_ (fun _ k => XS.daddS X2.here hx rfl (hb hby own_d_prog_46_method_5_39) rfl (nn_w hd1) hd1 k)
  have hi1 := own_add q0 q1 q2 q3 s1 hi0 (by decide)
  show own_Goes p.tables e below P (T2.setTop (mkF m 40 #[.val (.ref a), .val (.ref pa), .val (.double (FP.l2d (co + own_pick q0 q1 q2 q3 s0))), .second, .val (.ref b), .val (.int (2 : Int32)), .val (.int (1 : Int32)), .val (.int s1)] [(.double (FP.l2d ((co + own_pick q0 q1 q2 q3 s0) + own_pick q0 q1 q2 q3 s1)))]))
  refine own_Goes.st ?_ (fun _ k => XS.dstoreN X2.here hx rfl (hb hby own_d_prog_46_method_5_40) rfl (l' := #[.val (.ref a), .val (.ref pa), .val (.double (FP.l2d ((co + own_pick q0 q1 q2 q3 s0) + own_pick q0 q1 q2 q3 s1))), .second, .val (.ref b), .val (.int (2 : Int32)), .val (.int (1 : Int32)), .val (.int s1)]) rfl k)
  show own_Goes p.tables e below P (T2.setTop (mkF m 41 #[.val (.ref a), .val (.ref pa), .val (.double (FP.l2d ((co + own_pick q0 q1 q2 q3 s0) + own_pick q0 q1 q2 q3 s1))), .second, .val (.ref b), .val (.int (2 : Int32)), .val (.int (1 : Int32)), .val (.int s1)] []))
  refine own_Goes.st ?_ (fun _ k => XS.iinc X2.here hx rfl (hb hby own_d_prog_46_method_5_41) rfl (l' := #[.val (.ref a), .val (.ref pa), .val (.double (FP.l2d ((co + own_pick q0 q1 q2 q3 s0) + own_pick q0 q1 q2 q3 s1))), .second, .val (.ref b), .val (.int (2 : Int32)), .val (.int (2 : Int32)), .val (.int s1)]) rfl k)
  show own_Goes p.tables e below P (T2.setTop (mkF m 44 #[.val (.ref a), .val (.ref pa), .val (.double (FP.l2d ((co + own_pick q0 q1 q2 q3 s0) + own_pick q0 q1 q2 q3 s1))), .second, .val (.ref b), .val (.int (2 : Int32)), .val (.int (2 : Int32)), .val (.int s1)] []))
  refine own_Goes.st ?_ (fun _ k => XS.goto X2.here hx rfl (pc0 := 44) (pc' := 20) rfl (hb hby own_d_prog_46_method_5_44) (by decide) (by decide) k)
  show own_Goes p.tables e below P (T2.setTop (mkF m 20 #[.val (.ref a), .val (.ref pa), .val (.double (FP.l2d ((co + own_pick q0 q1 q2 q3 s0) + own_pick q0 q1 q2 q3 s1))), .second, .val (.ref b), .val (.int (2 : Int32)), .val (.int (2 : Int32)), .val (.int s1)] []))
  refine own_Goes.st ?_ (fun _ k => XS.iload X2.here hx rfl (hb hby own_d_prog_46_method_5_20) rfl k)
  show own_Goes p.tables e below P (T2.setTop (mkF m 22 #[.val (.ref a), .val (.ref pa), .val (.double (FP.l2d ((co + own_pick q0 q1 q2 q3 s0) + own_pick q0 q1 q2 q3 s1))), .second, .val (.ref b), .val (.int (2 : Int32)), .val (.int (2 : Int32)), .val (.int s1)] [(.int (2 : Int32))]))
  refine own_Goes.st ?_ (fun _ k => XS.iload X2.here hx rfl (hb hby own_d_prog_46_method_5_22) rfl k)
  show own_Goes p.tables e below P (T2.setTop (mkF m 24 #[.val (.ref a), .val (.ref pa), .val (.double (FP.l2d ((co + own_pick q0 q1 q2 q3 s0) + own_pick q0 q1 q2 q3 s1))), .second, .val (.ref b), .val (.int (2 : Int32)), .val (.int (2 : Int32)), .val (.int s1)] [(.int (2 : Int32)), (.int (2 : Int32))]))
  refine own_Goes.st ?_ (fun _ k => XS.icmpYes X2.here hx rfl (pc0 := 24) (pc' := 47) rfl (hb hby own_d_prog_46_method_5_24) rfl (flt (by decide : ¬ ((2 : Int32) < (2 : Int32)))).2.1 (by decide) (by decide) k)
  show own_Goes p.tables e below P (T2.setTop (mkF m 47 #[.val (.ref a), .val (.ref pa), .val (.double (FP.l2d ((co + own_pick q0 q1 q2 q3 s0) + own_pick q0 q1 q2 q3 s1))), .second, .val (.ref b), .val (.int (2 : Int32)), .val (.int (2 : Int32)), .val (.int s1)] []))
  refine own_Goes.st ?_ (fun _ k => XS.dloadN X2.here hx rfl (hb hby own_d_prog_46_method_5_47) rfl k)
  show own_Goes p.tables e below P (T2.setTop (mkF m 48 #[.val (.ref a), .val (.ref pa), .val (.double (FP.l2d ((co + own_pick q0 q1 q2 q3 s0) + own_pick q0 q1 q2 q3 s1))), .second, .val (.ref b), .val (.int (2 : Int32)), .val (.int (2 : Int32)), .val (.int s1)] [(.double (FP.l2d ((co + own_pick q0 q1 q2 q3 s0) + own_pick q0 q1 q2 q3 s1)))]))
  obtain ⟨fs, hr, hrun, hended, hW, hsame⟩ := X2.leave (v := some (.double (FP.l2d ((co + own_pick q0 q1 q2 q3 s0) + own_pick q0 q1 q2 q3 s1)))) (fun h => by rw [Bd.returns] at h; cases h)
  exact own_Goes.fin _ _ (retOut X2 hx (t := .double) Bd.returns rfl (Or.inr (Or.inr (Or.inl ⟨rfl, rfl, _, rfl⟩))) (hb hby own_d_prog_46_method_5_48) hr) (hPP _ _ ⟨hrun, hended, _, _, rfl, (by show Q_priced2 Z a pa b co k k2 q0 q1 q2 q3 s0 s1 h0 n0 _ T2.heap _; rw [e2]; exact ⟨rfl, N0, rfl⟩), ⟨_, rfl⟩, hW, hsame.mono (by decide) (by decide)⟩)
theorem own_ef_priced3 (m : MethodId) (x0 : Addr) (x1 : Addr) : entryFrame m #[(.ref x0), (.ref x1)] 8 = mkF m 0 #[.val (.ref x0), .val (.ref x1), .unset, .unset, .unset, .unset, .unset, .unset] [] := by first | (simp [entryFrame, mkF, argsToLocals, Value.category]; done) | rfl
def Q_priced3 (Z : State) (a : Addr) (pa : Addr) (b : Addr) (co : Int64) (k : ClassId) (k2 : ClassId) (q0 : Int32) (q1 : Int32) (q2 : Int32) (q3 : Int32) (s0 : Int32) (s1 : Int32) (s2 : Int32) (h0 : Heap) (n0 : Nat) (rv_ : Option Value) (h_ : Heap) (L_ : List Loc) : Prop := rv_ = some (.double (FP.l2d (((co + own_pick q0 q1 q2 q3 s0) + own_pick q0 q1 q2 q3 s1) + own_pick q0 q1 q2 q3 s2))) ∧ Fr n0 L_ ∧ h_ = h0
set_option maxRecDepth 65536 in
set_option maxHeartbeats 40000000 in
theorem rm_priced3 (l : Launch) (Z : State) (a0 : Array Value) (hw : ∀ d ∈ tables_1, d.before a0 Z = true) (ws : List Jvm.Cond) (a : Addr) (pa : Addr) (b : Addr) (co : Int64) (k : ClassId) (k2 : ClassId) (q0 : Int32) (q1 : Int32) (q2 : Int32) (q3 : Int32) (s0 : Int32) (s1 : Int32) (s2 : Int32) (h0 : Heap) (n0 : Nat) (Z0 : n0 ≤ h0.size) (pr0 : Fld Z h0 a "com/example/pushmap/pushmap/schedule/Column" "slots" "[I" (.ref b)) (pr1 : Fld Z h0 a "com/example/pushmap/pushmap/schedule/Column" "cost" "J" (.long co)) (pr2 : Arv Z h0 b k .int (3 : Int32) [(.int s0), (.int s1), (.int s2)] (.int 0)) (pr3 : Arv Z h0 pa k2 .double (4 : Int32) [(.double (FP.i2d q0)), (.double (FP.i2d q1)), (.double (FP.i2d q2)), (.double (FP.i2d q3))] (.double 0)) (hco : own_in co 562949953421312) (hs0 : ¬ s0 < 0 ∧ s0 < 4) (hs1 : ¬ s1 < 0 ∧ s1 < 4) (hs2 : ¬ s2 < 0 ∧ s2 < 4) :
    MetFree l (⟨"com/example/pushmap/pushmap/schedule/Column", "priced", "([D)D"⟩ : MethodName) (head1 (Jvm.Cond.code (⟨"com/example/pushmap/pushmap/schedule/Column", "priced", "([D)D"⟩ : MethodName) prog_46_method_5_code 8 (some .double) :: ws) ({ frames := 0, cells := 0, slots := 0, locals := 0 } : Room)) (fun as_ U => as_ = #[(.ref a), (.ref pa)] ∧ Z.Warmed39 U.vm ∧ U.heap = h0) (fun _ _ _ _ _ => True) (fun _ U o U' => ∃ rv_ L_, o = .returned rv_ ∧ Q_priced3 Z a pa b co k k2 q0 q1 q2 q3 s0 s1 s2 h0 n0 rv_ U'.heap L_ ∧ FrameEnd U o U' L_ ({ frames := 0, cells := 0, slots := 0, locals := 0 } : Room).cells ({ frames := 0, cells := 0, slots := 0, locals := 0 } : Room).slots) := by
  refine MetFree.of_bodySF (plainFor_of_name own_pn_com_example_pushmap_pushmap_schedule_Column) hisR ?_
  intro p e s m args below meth c s₁ Bd hml0 hP hK
  obtain ⟨rfl, hZ, hh⟩ := hP
  have hx := Bd.exec
  have hby := Bd.bytes
  have hml : c.maxLocals = 8 := hml0
  have hown : s.vm.findClass "com/example/pushmap/pushmap/schedule/Column" = some m.cls := findClass_of_methodNamed Bd.named
  have hnm := (name_of_methodNamed Bd.named Bd.method).1
  have X0 : Stand p l e ({ frames := 0, cells := 0, slots := 0, locals := 0 } : Room) s m #[(.ref a), (.ref pa)] below meth c s₁ [] 0 0 := Stand.of_body Bd
  have e0 : s₁.heap = h0 := by rw [← hh, Bd.state]; rfl
  have N0 := Fr.nil n0
  refine own_Goes.of ?_
  refine own_Goes.nm (fun P hPP => ?_)
  refine own_Goes.st ?_ (fun _ k => castTop (own_ef_priced3 m a pa) k)
  show own_Goes p.tables e below P (s₁.setTop (mkF m 0 #[.val (.ref a), .val (.ref pa), .unset, .unset, .unset, .unset, .unset, .unset] []))
  refine own_Goes.st ?_ (fun _ k => XS.aloadN X0.here hx rfl (hb hby own_d_prog_46_method_5_0) rfl rfl k)
  show own_Goes p.tables e below P (s₁.setTop (mkF m 1 #[.val (.ref a), .val (.ref pa), .unset, .unset, .unset, .unset, .unset, .unset] [(.ref a)]))
  obtain ⟨T1, X1, e1, st1⟩ := getF X0 hx hZ hown (host := "") (Or.inl (hw _ (List.mem_of_getElem? (i := 15) rfl))) Via.refl e0 pr1 (g := (mkF m 1 #[.val (.ref a), .val (.ref pa), .unset, .unset, .unset, .unset, .unset, .unset] [(.ref a)])) rfl rfl (hb hby own_d_prog_46_method_5_1)
  refine own_Goes.st ?_ st1
  show own_Goes p.tables e below P (T1.setTop (mkF m 4 #[.val (.ref a), .val (.ref pa), .unset, .unset, .unset, .unset, .unset, .unset] [(.long co)]))
  refine own_Goes.st ?_ (fun _ k => XS.l2dS X1.here hx rfl (hb hby own_d_prog_46_method_5_4) rfl rfl k)
  show own_Goes p.tables e below P (T1.setTop (mkF m 5 #[.val (.ref a), .val (.ref pa), .unset, .unset, .unset, .unset, .unset, .unset] [(.double (FP.l2d co))]))
  refine own_Goes.st ?_ (fun _ k => XS.dstoreN X1.here hx rfl (hb hby own_d_prog_46_method_5_5) rfl (l' := #[.val (.ref a), .val (.ref pa), .val (.double (FP.l2d co)), .second, .unset, .unset, .unset, .unset]) rfl k)
  show own_Goes p.tables e below P (T1.setTop (mkF m 6 #[.val (.ref a), .val (.ref pa), .val (.double (FP.l2d co)), .second, .unset, .unset, .unset, .unset] []))
  refine own_Goes.st ?_ (fun _ k => XS.aloadN X1.here hx rfl (hb hby own_d_prog_46_method_5_6) rfl rfl k)
  show own_Goes p.tables e below P (T1.setTop (mkF m 7 #[.val (.ref a), .val (.ref pa), .val (.double (FP.l2d co)), .second, .unset, .unset, .unset, .unset] [(.ref a)]))
  obtain ⟨T2, X2, e2, st2⟩ := getF X1 hx hZ hown (host := "") (Or.inl (hw _ (List.mem_of_getElem? (i := 13) rfl))) Via.refl e1 pr0 (g := (mkF m 7 #[.val (.ref a), .val (.ref pa), .val (.double (FP.l2d co)), .second, .unset, .unset, .unset, .unset] [(.ref a)])) rfl rfl (hb hby own_d_prog_46_method_5_7)
  refine own_Goes.st ?_ st2
  show own_Goes p.tables e below P (T2.setTop (mkF m 10 #[.val (.ref a), .val (.ref pa), .val (.double (FP.l2d co)), .second, .unset, .unset, .unset, .unset] [(.ref b)]))
  refine own_Goes.st ?_ (fun _ k => XS.astore X2.here hx rfl (hb hby own_d_prog_46_method_5_10) rfl rfl (l' := #[.val (.ref a), .val (.ref pa), .val (.double (FP.l2d co)), .second, .val (.ref b), .unset, .unset, .unset]) rfl k)
  show own_Goes p.tables e below P (T2.setTop (mkF m 12 #[.val (.ref a), .val (.ref pa), .val (.double (FP.l2d co)), .second, .val (.ref b), .unset, .unset, .unset] []))
  refine own_Goes.st ?_ (fun _ k => XS.aload X2.here hx rfl (hb hby own_d_prog_46_method_5_12) rfl rfl k)
  show own_Goes p.tables e below P (T2.setTop (mkF m 14 #[.val (.ref a), .val (.ref pa), .val (.double (FP.l2d co)), .second, .val (.ref b), .unset, .unset, .unset] [(.ref b)]))
  have Vc3 := pr2
  obtain ⟨cl3, Ar3, qc3, S3, Nn3, Hs3, Gs3⟩ := Vc3
  refine own_Goes.st ?_ (X2.arraylength hx (by rw [e2]; exact Ar3.1) (State.isArrayOf_alike hZ.alike Ar3.2.1) (g := (mkF m 14 #[.val (.ref a), .val (.ref pa), .val (.double (FP.l2d co)), .second, .val (.ref b), .unset, .unset, .unset] [(.ref b)])) rfl rfl (hb hby own_d_prog_46_method_5_14))
  rw [len_of S3 Nn3]
  show own_Goes p.tables e below P (T2.setTop (mkF m 15 #[.val (.ref a), .val (.ref pa), .val (.double (FP.l2d co)), .second, .val (.ref b), .unset, .unset, .unset] [(.int (3 : Int32))]))
  refine own_Goes.st ?_ (fun _ k => XS.istore X2.here hx rfl (hb hby own_d_prog_46_method_5_15) rfl (l' := #[.val (.ref a), .val (.ref pa), .val (.double (FP.l2d co)), .second, .val (.ref b), .val (.int (3 : Int32)), .unset, .unset]) rfl k)
  show own_Goes p.tables e below P (T2.setTop (mkF m 17 #[.val (.ref a), .val (.ref pa), .val (.double (FP.l2d co)), .second, .val (.ref b), .val (.int (3 : Int32)), .unset, .unset] []))
  refine own_Goes.st ?_ (fun _ k => XS.iconst X2.here hx rfl (hb hby own_d_prog_46_method_5_17) k)
  show own_Goes p.tables e below P (T2.setTop (mkF m 18 #[.val (.ref a), .val (.ref pa), .val (.double (FP.l2d co)), .second, .val (.ref b), .val (.int (3 : Int32)), .unset, .unset] [(.int (0 : Int32))]))
  refine own_Goes.st ?_ (fun _ k => XS.istore X2.here hx rfl (hb hby own_d_prog_46_method_5_18) rfl (l' := #[.val (.ref a), .val (.ref pa), .val (.double (FP.l2d co)), .second, .val (.ref b), .val (.int (3 : Int32)), .val (.int (0 : Int32)), .unset]) rfl k)
  show own_Goes p.tables e below P (T2.setTop (mkF m 20 #[.val (.ref a), .val (.ref pa), .val (.double (FP.l2d co)), .second, .val (.ref b), .val (.int (3 : Int32)), .val (.int (0 : Int32)), .unset] []))
  refine own_Goes.st ?_ (fun _ k => XS.iload X2.here hx rfl (hb hby own_d_prog_46_method_5_20) rfl k)
  show own_Goes p.tables e below P (T2.setTop (mkF m 22 #[.val (.ref a), .val (.ref pa), .val (.double (FP.l2d co)), .second, .val (.ref b), .val (.int (3 : Int32)), .val (.int (0 : Int32)), .unset] [(.int (0 : Int32))]))
  refine own_Goes.st ?_ (fun _ k => XS.iload X2.here hx rfl (hb hby own_d_prog_46_method_5_22) rfl k)
  show own_Goes p.tables e below P (T2.setTop (mkF m 24 #[.val (.ref a), .val (.ref pa), .val (.double (FP.l2d co)), .second, .val (.ref b), .val (.int (3 : Int32)), .val (.int (0 : Int32)), .unset] [(.int (3 : Int32)), (.int (0 : Int32))]))
  refine own_Goes.st ?_ (fun _ k => XS.icmpNo X2.here hx rfl (hb hby own_d_prog_46_method_5_24) rfl (tlt (by decide : (0 : Int32) < (3 : Int32))).2.1 k)
  show own_Goes p.tables e below P (T2.setTop (mkF m 27 #[.val (.ref a), .val (.ref pa), .val (.double (FP.l2d co)), .second, .val (.ref b), .val (.int (3 : Int32)), .val (.int (0 : Int32)), .unset] []))
  refine own_Goes.st ?_ (fun _ k => XS.aload X2.here hx rfl (hb hby own_d_prog_46_method_5_27) rfl rfl k)
  show own_Goes p.tables e below P (T2.setTop (mkF m 29 #[.val (.ref a), .val (.ref pa), .val (.double (FP.l2d co)), .second, .val (.ref b), .val (.int (3 : Int32)), .val (.int (0 : Int32)), .unset] [(.ref b)]))
  refine own_Goes.st ?_ (fun _ k => XS.iload X2.here hx rfl (hb hby own_d_prog_46_method_5_29) rfl k)
  show own_Goes p.tables e below P (T2.setTop (mkF m 31 #[.val (.ref a), .val (.ref pa), .val (.double (FP.l2d co)), .second, .val (.ref b), .val (.int (3 : Int32)), .val (.int (0 : Int32)), .unset] [(.int (0 : Int32)), (.ref b)]))
  have hin4 : ¬ ((0 : Int32) < 0 ∨ cl3.slots.size ≤ ((0 : Int32)).toNatClampNeg) := inb_of S3 ⟨by decide, by decide⟩
  refine own_Goes.st ?_ (X2.iaload hx (j := (0 : Int32)) (v := (.int s0)) (by rw [e2]; exact Ar3.1) (State.isArrayOf_alike hZ.alike Ar3.2.1) Ar3.2.2 hin4 (Has.at Hs3 hin4 rfl) (g := (mkF m 31 #[.val (.ref a), .val (.ref pa), .val (.double (FP.l2d co)), .second, .val (.ref b), .val (.int (3 : Int32)), .val (.int (0 : Int32)), .unset] [(.int (0 : Int32)), (.ref b)])) rfl rfl (hb hby own_d_prog_46_method_5_31))
  show own_Goes p.tables e below P (T2.setTop (mkF m 32 #[.val (.ref a), .val (.ref pa), .val (.double (FP.l2d co)), .second, .val (.ref b), .val (.int (3 : Int32)), .val (.int (0 : Int32)), .unset] [(.int s0)]))
  refine own_Goes.st ?_ (fun _ k => XS.istore X2.here hx rfl (hb hby own_d_prog_46_method_5_32) rfl (l' := #[.val (.ref a), .val (.ref pa), .val (.double (FP.l2d co)), .second, .val (.ref b), .val (.int (3 : Int32)), .val (.int (0 : Int32)), .val (.int s0)]) rfl k)
  show own_Goes p.tables e below P (T2.setTop (mkF m 34 #[.val (.ref a), .val (.ref pa), .val (.double (FP.l2d co)), .second, .val (.ref b), .val (.int (3 : Int32)), .val (.int (0 : Int32)), .val (.int s0)] []))
  refine own_Goes.st ?_ (fun _ k => XS.dloadN X2.here hx rfl (hb hby own_d_prog_46_method_5_34) rfl k)
  show own_Goes p.tables e below P (T2.setTop (mkF m 35 #[.val (.ref a), .val (.ref pa), .val (.double (FP.l2d co)), .second, .val (.ref b), .val (.int (3 : Int32)), .val (.int (0 : Int32)), .val (.int s0)] [(.double (FP.l2d co))]))
  refine own_Goes.st ?_ (fun _ k => XS.aloadN X2.here hx rfl (hb hby own_d_prog_46_method_5_35) rfl rfl k)
  show own_Goes p.tables e below P (T2.setTop (mkF m 36 #[.val (.ref a), .val (.ref pa), .val (.double (FP.l2d co)), .second, .val (.ref b), .val (.int (3 : Int32)), .val (.int (0 : Int32)), .val (.int s0)] [(.ref pa), (.double (FP.l2d co))]))
  refine own_Goes.st ?_ (fun _ k => XS.iload X2.here hx rfl (hb hby own_d_prog_46_method_5_36) rfl k)
  show own_Goes p.tables e below P (T2.setTop (mkF m 38 #[.val (.ref a), .val (.ref pa), .val (.double (FP.l2d co)), .second, .val (.ref b), .val (.int (3 : Int32)), .val (.int (0 : Int32)), .val (.int s0)] [(.int s0), (.ref pa), (.double (FP.l2d co))]))
  have Vc5 := pr3
  obtain ⟨cl5, Ar5, qc5, S5, Nn5, Hs5, Gs5⟩ := Vc5
  have hins0 : ¬ (s0 < 0 ∨ cl5.slots.size ≤ (s0).toNatClampNeg) := inb_of S5 hs0
  refine own_Goes.st ?_ (X2.daload hx (j := s0) (v := (.double (FP.l2d (own_pick q0 q1 q2 q3 s0)))) (by rw [e2]; exact Ar5.1) (State.isArrayOf_alike hZ.alike Ar5.2.1) Ar5.2.2 hins0 (Has.at Hs5 hins0 (own_get hs0)) (g := (mkF m 38 #[.val (.ref a), .val (.ref pa), .val (.double (FP.l2d co)), .second, .val (.ref b), .val (.int (3 : Int32)), .val (.int (0 : Int32)), .val (.int s0)] [(.int s0), (.ref pa), (.double (FP.l2d co))])) rfl rfl (hb hby own_d_prog_46_method_5_38))
  show own_Goes p.tables e below P (T2.setTop (mkF m 39 #[.val (.ref a), .val (.ref pa), .val (.double (FP.l2d co)), .second, .val (.ref b), .val (.int (3 : Int32)), .val (.int (0 : Int32)), .val (.int s0)] [(.double (FP.l2d (own_pick q0 q1 q2 q3 s0))), (.double (FP.l2d co))]))
  have hd0 := dadd_w (own_b53 hco (by decide)) (own_pick53 q0 q1 q2 q3 s0)
  refine own_Goes.st ?_ (fun _ k => XS.daddS X2.here hx rfl (hb hby own_d_prog_46_method_5_39) rfl (nn_w hd0) hd0 k)
  have hi0 := own_add q0 q1 q2 q3 s0 hco (by decide)
  show own_Goes p.tables e below P (T2.setTop (mkF m 40 #[.val (.ref a), .val (.ref pa), .val (.double (FP.l2d co)), .second, .val (.ref b), .val (.int (3 : Int32)), .val (.int (0 : Int32)), .val (.int s0)] [(.double (FP.l2d (co + own_pick q0 q1 q2 q3 s0)))]))
  refine own_Goes.st ?_ (fun _ k => XS.dstoreN X2.here hx rfl (hb hby own_d_prog_46_method_5_40) rfl (l' := #[.val (.ref a), .val (.ref pa), .val (.double (FP.l2d (co + own_pick q0 q1 q2 q3 s0))), .second, .val (.ref b), .val (.int (3 : Int32)), .val (.int (0 : Int32)), .val (.int s0)]) rfl k)
  show own_Goes p.tables e below P (T2.setTop (mkF m 41 #[.val (.ref a), .val (.ref pa), .val (.double (FP.l2d (co + own_pick q0 q1 q2 q3 s0))), .second, .val (.ref b), .val (.int (3 : Int32)), .val (.int (0 : Int32)), .val (.int s0)] []))
  refine own_Goes.st ?_ (fun _ k => XS.iinc X2.here hx rfl (hb hby own_d_prog_46_method_5_41) rfl (l' := #[.val (.ref a), .val (.ref pa), .val (.double (FP.l2d (co + own_pick q0 q1 q2 q3 s0))), .second, .val (.ref b), .val (.int (3 : Int32)), .val (.int (1 : Int32)), .val (.int s0)]) rfl k)
  show own_Goes p.tables e below P (T2.setTop (mkF m 44 #[.val (.ref a), .val (.ref pa), .val (.double (FP.l2d (co + own_pick q0 q1 q2 q3 s0))), .second, .val (.ref b), .val (.int (3 : Int32)), .val (.int (1 : Int32)), .val (.int s0)] []))
  refine own_Goes.st ?_ (fun _ k => XS.goto X2.here hx rfl (pc0 := 44) (pc' := 20) rfl (hb hby own_d_prog_46_method_5_44) (by decide) (by decide) k)
  show own_Goes p.tables e below P (T2.setTop (mkF m 20 #[.val (.ref a), .val (.ref pa), .val (.double (FP.l2d (co + own_pick q0 q1 q2 q3 s0))), .second, .val (.ref b), .val (.int (3 : Int32)), .val (.int (1 : Int32)), .val (.int s0)] []))
  refine own_Goes.st ?_ (fun _ k => XS.iload X2.here hx rfl (hb hby own_d_prog_46_method_5_20) rfl k)
  show own_Goes p.tables e below P (T2.setTop (mkF m 22 #[.val (.ref a), .val (.ref pa), .val (.double (FP.l2d (co + own_pick q0 q1 q2 q3 s0))), .second, .val (.ref b), .val (.int (3 : Int32)), .val (.int (1 : Int32)), .val (.int s0)] [(.int (1 : Int32))]))
  refine own_Goes.st ?_ (fun _ k => XS.iload X2.here hx rfl (hb hby own_d_prog_46_method_5_22) rfl k)
  show own_Goes p.tables e below P (T2.setTop (mkF m 24 #[.val (.ref a), .val (.ref pa), .val (.double (FP.l2d (co + own_pick q0 q1 q2 q3 s0))), .second, .val (.ref b), .val (.int (3 : Int32)), .val (.int (1 : Int32)), .val (.int s0)] [(.int (3 : Int32)), (.int (1 : Int32))]))
  refine own_Goes.st ?_ (fun _ k => XS.icmpNo X2.here hx rfl (hb hby own_d_prog_46_method_5_24) rfl (tlt (by decide : (1 : Int32) < (3 : Int32))).2.1 k)
  show own_Goes p.tables e below P (T2.setTop (mkF m 27 #[.val (.ref a), .val (.ref pa), .val (.double (FP.l2d (co + own_pick q0 q1 q2 q3 s0))), .second, .val (.ref b), .val (.int (3 : Int32)), .val (.int (1 : Int32)), .val (.int s0)] []))
  refine own_Goes.st ?_ (fun _ k => XS.aload X2.here hx rfl (hb hby own_d_prog_46_method_5_27) rfl rfl k)
  show own_Goes p.tables e below P (T2.setTop (mkF m 29 #[.val (.ref a), .val (.ref pa), .val (.double (FP.l2d (co + own_pick q0 q1 q2 q3 s0))), .second, .val (.ref b), .val (.int (3 : Int32)), .val (.int (1 : Int32)), .val (.int s0)] [(.ref b)]))
  refine own_Goes.st ?_ (fun _ k => XS.iload X2.here hx rfl (hb hby own_d_prog_46_method_5_29) rfl k)
  show own_Goes p.tables e below P (T2.setTop (mkF m 31 #[.val (.ref a), .val (.ref pa), .val (.double (FP.l2d (co + own_pick q0 q1 q2 q3 s0))), .second, .val (.ref b), .val (.int (3 : Int32)), .val (.int (1 : Int32)), .val (.int s0)] [(.int (1 : Int32)), (.ref b)]))
  have hin6 : ¬ ((1 : Int32) < 0 ∨ cl3.slots.size ≤ ((1 : Int32)).toNatClampNeg) := inb_of S3 ⟨by decide, by decide⟩
  refine own_Goes.st ?_ (X2.iaload hx (j := (1 : Int32)) (v := (.int s1)) (by rw [e2]; exact Ar3.1) (State.isArrayOf_alike hZ.alike Ar3.2.1) Ar3.2.2 hin6 (Has.at Hs3 hin6 rfl) (g := (mkF m 31 #[.val (.ref a), .val (.ref pa), .val (.double (FP.l2d (co + own_pick q0 q1 q2 q3 s0))), .second, .val (.ref b), .val (.int (3 : Int32)), .val (.int (1 : Int32)), .val (.int s0)] [(.int (1 : Int32)), (.ref b)])) rfl rfl (hb hby own_d_prog_46_method_5_31))
  show own_Goes p.tables e below P (T2.setTop (mkF m 32 #[.val (.ref a), .val (.ref pa), .val (.double (FP.l2d (co + own_pick q0 q1 q2 q3 s0))), .second, .val (.ref b), .val (.int (3 : Int32)), .val (.int (1 : Int32)), .val (.int s0)] [(.int s1)]))
  refine own_Goes.st ?_ (fun _ k => XS.istore X2.here hx rfl (hb hby own_d_prog_46_method_5_32) rfl (l' := #[.val (.ref a), .val (.ref pa), .val (.double (FP.l2d (co + own_pick q0 q1 q2 q3 s0))), .second, .val (.ref b), .val (.int (3 : Int32)), .val (.int (1 : Int32)), .val (.int s1)]) rfl k)
  show own_Goes p.tables e below P (T2.setTop (mkF m 34 #[.val (.ref a), .val (.ref pa), .val (.double (FP.l2d (co + own_pick q0 q1 q2 q3 s0))), .second, .val (.ref b), .val (.int (3 : Int32)), .val (.int (1 : Int32)), .val (.int s1)] []))
  refine own_Goes.st ?_ (fun _ k => XS.dloadN X2.here hx rfl (hb hby own_d_prog_46_method_5_34) rfl k)
  show own_Goes p.tables e below P (T2.setTop (mkF m 35 #[.val (.ref a), .val (.ref pa), .val (.double (FP.l2d (co + own_pick q0 q1 q2 q3 s0))), .second, .val (.ref b), .val (.int (3 : Int32)), .val (.int (1 : Int32)), .val (.int s1)] [(.double (FP.l2d (co + own_pick q0 q1 q2 q3 s0)))]))
  refine own_Goes.st ?_ (fun _ k => XS.aloadN X2.here hx rfl (hb hby own_d_prog_46_method_5_35) rfl rfl k)
  show own_Goes p.tables e below P (T2.setTop (mkF m 36 #[.val (.ref a), .val (.ref pa), .val (.double (FP.l2d (co + own_pick q0 q1 q2 q3 s0))), .second, .val (.ref b), .val (.int (3 : Int32)), .val (.int (1 : Int32)), .val (.int s1)] [(.ref pa), (.double (FP.l2d (co + own_pick q0 q1 q2 q3 s0)))]))
  refine own_Goes.st ?_ (fun _ k => XS.iload X2.here hx rfl (hb hby own_d_prog_46_method_5_36) rfl k)
  show own_Goes p.tables e below P (T2.setTop (mkF m 38 #[.val (.ref a), .val (.ref pa), .val (.double (FP.l2d (co + own_pick q0 q1 q2 q3 s0))), .second, .val (.ref b), .val (.int (3 : Int32)), .val (.int (1 : Int32)), .val (.int s1)] [(.int s1), (.ref pa), (.double (FP.l2d (co + own_pick q0 q1 q2 q3 s0)))]))
  have hins1 : ¬ (s1 < 0 ∨ cl5.slots.size ≤ (s1).toNatClampNeg) := inb_of S5 hs1
  refine own_Goes.st ?_ (X2.daload hx (j := s1) (v := (.double (FP.l2d (own_pick q0 q1 q2 q3 s1)))) (by rw [e2]; exact Ar5.1) (State.isArrayOf_alike hZ.alike Ar5.2.1) Ar5.2.2 hins1 (Has.at Hs5 hins1 (own_get hs1)) (g := (mkF m 38 #[.val (.ref a), .val (.ref pa), .val (.double (FP.l2d (co + own_pick q0 q1 q2 q3 s0))), .second, .val (.ref b), .val (.int (3 : Int32)), .val (.int (1 : Int32)), .val (.int s1)] [(.int s1), (.ref pa), (.double (FP.l2d (co + own_pick q0 q1 q2 q3 s0)))])) rfl rfl (hb hby own_d_prog_46_method_5_38))
  show own_Goes p.tables e below P (T2.setTop (mkF m 39 #[.val (.ref a), .val (.ref pa), .val (.double (FP.l2d (co + own_pick q0 q1 q2 q3 s0))), .second, .val (.ref b), .val (.int (3 : Int32)), .val (.int (1 : Int32)), .val (.int s1)] [(.double (FP.l2d (own_pick q0 q1 q2 q3 s1))), (.double (FP.l2d (co + own_pick q0 q1 q2 q3 s0)))]))
  have hd1 := dadd_w (own_b53 hi0 (by decide)) (own_pick53 q0 q1 q2 q3 s1)
  refine own_Goes.st ?_ (fun _ k => XS.daddS X2.here hx rfl (hb hby own_d_prog_46_method_5_39) rfl (nn_w hd1) hd1 k)
  have hi1 := own_add q0 q1 q2 q3 s1 hi0 (by decide)
  show own_Goes p.tables e below P (T2.setTop (mkF m 40 #[.val (.ref a), .val (.ref pa), .val (.double (FP.l2d (co + own_pick q0 q1 q2 q3 s0))), .second, .val (.ref b), .val (.int (3 : Int32)), .val (.int (1 : Int32)), .val (.int s1)] [(.double (FP.l2d ((co + own_pick q0 q1 q2 q3 s0) + own_pick q0 q1 q2 q3 s1)))]))
  refine own_Goes.st ?_ (fun _ k => XS.dstoreN X2.here hx rfl (hb hby own_d_prog_46_method_5_40) rfl (l' := #[.val (.ref a), .val (.ref pa), .val (.double (FP.l2d ((co + own_pick q0 q1 q2 q3 s0) + own_pick q0 q1 q2 q3 s1))), .second, .val (.ref b), .val (.int (3 : Int32)), .val (.int (1 : Int32)), .val (.int s1)]) rfl k)
  show own_Goes p.tables e below P (T2.setTop (mkF m 41 #[.val (.ref a), .val (.ref pa), .val (.double (FP.l2d ((co + own_pick q0 q1 q2 q3 s0) + own_pick q0 q1 q2 q3 s1))), .second, .val (.ref b), .val (.int (3 : Int32)), .val (.int (1 : Int32)), .val (.int s1)] []))
  refine own_Goes.st ?_ (fun _ k => XS.iinc X2.here hx rfl (hb hby own_d_prog_46_method_5_41) rfl (l' := #[.val (.ref a), .val (.ref pa), .val (.double (FP.l2d ((co + own_pick q0 q1 q2 q3 s0) + own_pick q0 q1 q2 q3 s1))), .second, .val (.ref b), .val (.int (3 : Int32)), .val (.int (2 : Int32)), .val (.int s1)]) rfl k)
  show own_Goes p.tables e below P (T2.setTop (mkF m 44 #[.val (.ref a), .val (.ref pa), .val (.double (FP.l2d ((co + own_pick q0 q1 q2 q3 s0) + own_pick q0 q1 q2 q3 s1))), .second, .val (.ref b), .val (.int (3 : Int32)), .val (.int (2 : Int32)), .val (.int s1)] []))
  refine own_Goes.st ?_ (fun _ k => XS.goto X2.here hx rfl (pc0 := 44) (pc' := 20) rfl (hb hby own_d_prog_46_method_5_44) (by decide) (by decide) k)
  show own_Goes p.tables e below P (T2.setTop (mkF m 20 #[.val (.ref a), .val (.ref pa), .val (.double (FP.l2d ((co + own_pick q0 q1 q2 q3 s0) + own_pick q0 q1 q2 q3 s1))), .second, .val (.ref b), .val (.int (3 : Int32)), .val (.int (2 : Int32)), .val (.int s1)] []))
  refine own_Goes.st ?_ (fun _ k => XS.iload X2.here hx rfl (hb hby own_d_prog_46_method_5_20) rfl k)
  show own_Goes p.tables e below P (T2.setTop (mkF m 22 #[.val (.ref a), .val (.ref pa), .val (.double (FP.l2d ((co + own_pick q0 q1 q2 q3 s0) + own_pick q0 q1 q2 q3 s1))), .second, .val (.ref b), .val (.int (3 : Int32)), .val (.int (2 : Int32)), .val (.int s1)] [(.int (2 : Int32))]))
  refine own_Goes.st ?_ (fun _ k => XS.iload X2.here hx rfl (hb hby own_d_prog_46_method_5_22) rfl k)
  show own_Goes p.tables e below P (T2.setTop (mkF m 24 #[.val (.ref a), .val (.ref pa), .val (.double (FP.l2d ((co + own_pick q0 q1 q2 q3 s0) + own_pick q0 q1 q2 q3 s1))), .second, .val (.ref b), .val (.int (3 : Int32)), .val (.int (2 : Int32)), .val (.int s1)] [(.int (3 : Int32)), (.int (2 : Int32))]))
  refine own_Goes.st ?_ (fun _ k => XS.icmpNo X2.here hx rfl (hb hby own_d_prog_46_method_5_24) rfl (tlt (by decide : (2 : Int32) < (3 : Int32))).2.1 k)
  show own_Goes p.tables e below P (T2.setTop (mkF m 27 #[.val (.ref a), .val (.ref pa), .val (.double (FP.l2d ((co + own_pick q0 q1 q2 q3 s0) + own_pick q0 q1 q2 q3 s1))), .second, .val (.ref b), .val (.int (3 : Int32)), .val (.int (2 : Int32)), .val (.int s1)] []))
  refine own_Goes.st ?_ (fun _ k => XS.aload X2.here hx rfl (hb hby own_d_prog_46_method_5_27) rfl rfl k)
  show own_Goes p.tables e below P (T2.setTop (mkF m 29 #[.val (.ref a), .val (.ref pa), .val (.double (FP.l2d ((co + own_pick q0 q1 q2 q3 s0) + own_pick q0 q1 q2 q3 s1))), .second, .val (.ref b), .val (.int (3 : Int32)), .val (.int (2 : Int32)), .val (.int s1)] [(.ref b)]))
  refine own_Goes.st ?_ (fun _ k => XS.iload X2.here hx rfl (hb hby own_d_prog_46_method_5_29) rfl k)
  show own_Goes p.tables e below P (T2.setTop (mkF m 31 #[.val (.ref a), .val (.ref pa), .val (.double (FP.l2d ((co + own_pick q0 q1 q2 q3 s0) + own_pick q0 q1 q2 q3 s1))), .second, .val (.ref b), .val (.int (3 : Int32)), .val (.int (2 : Int32)), .val (.int s1)] [(.int (2 : Int32)), (.ref b)]))
  have hin7 : ¬ ((2 : Int32) < 0 ∨ cl3.slots.size ≤ ((2 : Int32)).toNatClampNeg) := inb_of S3 ⟨by decide, by decide⟩
  refine own_Goes.st ?_ (X2.iaload hx (j := (2 : Int32)) (v := (.int s2)) (by rw [e2]; exact Ar3.1) (State.isArrayOf_alike hZ.alike Ar3.2.1) Ar3.2.2 hin7 (Has.at Hs3 hin7 rfl) (g := (mkF m 31 #[.val (.ref a), .val (.ref pa), .val (.double (FP.l2d ((co + own_pick q0 q1 q2 q3 s0) + own_pick q0 q1 q2 q3 s1))), .second, .val (.ref b), .val (.int (3 : Int32)), .val (.int (2 : Int32)), .val (.int s1)] [(.int (2 : Int32)), (.ref b)])) rfl rfl (hb hby own_d_prog_46_method_5_31))
  show own_Goes p.tables e below P (T2.setTop (mkF m 32 #[.val (.ref a), .val (.ref pa), .val (.double (FP.l2d ((co + own_pick q0 q1 q2 q3 s0) + own_pick q0 q1 q2 q3 s1))), .second, .val (.ref b), .val (.int (3 : Int32)), .val (.int (2 : Int32)), .val (.int s1)] [(.int s2)]))
  refine own_Goes.st ?_ (fun _ k => XS.istore X2.here hx rfl (hb hby own_d_prog_46_method_5_32) rfl (l' := #[.val (.ref a), .val (.ref pa), .val (.double (FP.l2d ((co + own_pick q0 q1 q2 q3 s0) + own_pick q0 q1 q2 q3 s1))), .second, .val (.ref b), .val (.int (3 : Int32)), .val (.int (2 : Int32)), .val (.int s2)]) rfl k)
  show own_Goes p.tables e below P (T2.setTop (mkF m 34 #[.val (.ref a), .val (.ref pa), .val (.double (FP.l2d ((co + own_pick q0 q1 q2 q3 s0) + own_pick q0 q1 q2 q3 s1))), .second, .val (.ref b), .val (.int (3 : Int32)), .val (.int (2 : Int32)), .val (.int s2)] []))
  refine own_Goes.st ?_ (fun _ k => XS.dloadN X2.here hx rfl (hb hby own_d_prog_46_method_5_34) rfl k)
  show own_Goes p.tables e below P (T2.setTop (mkF m 35 #[.val (.ref a), .val (.ref pa), .val (.double (FP.l2d ((co + own_pick q0 q1 q2 q3 s0) + own_pick q0 q1 q2 q3 s1))), .second, .val (.ref b), .val (.int (3 : Int32)), .val (.int (2 : Int32)), .val (.int s2)] [(.double (FP.l2d ((co + own_pick q0 q1 q2 q3 s0) + own_pick q0 q1 q2 q3 s1)))]))
  refine own_Goes.st ?_ (fun _ k => XS.aloadN X2.here hx rfl (hb hby own_d_prog_46_method_5_35) rfl rfl k)
  show own_Goes p.tables e below P (T2.setTop (mkF m 36 #[.val (.ref a), .val (.ref pa), .val (.double (FP.l2d ((co + own_pick q0 q1 q2 q3 s0) + own_pick q0 q1 q2 q3 s1))), .second, .val (.ref b), .val (.int (3 : Int32)), .val (.int (2 : Int32)), .val (.int s2)] [(.ref pa), (.double (FP.l2d ((co + own_pick q0 q1 q2 q3 s0) + own_pick q0 q1 q2 q3 s1)))]))
  refine own_Goes.st ?_ (fun _ k => XS.iload X2.here hx rfl (hb hby own_d_prog_46_method_5_36) rfl k)
  show own_Goes p.tables e below P (T2.setTop (mkF m 38 #[.val (.ref a), .val (.ref pa), .val (.double (FP.l2d ((co + own_pick q0 q1 q2 q3 s0) + own_pick q0 q1 q2 q3 s1))), .second, .val (.ref b), .val (.int (3 : Int32)), .val (.int (2 : Int32)), .val (.int s2)] [(.int s2), (.ref pa), (.double (FP.l2d ((co + own_pick q0 q1 q2 q3 s0) + own_pick q0 q1 q2 q3 s1)))]))
  have hins2 : ¬ (s2 < 0 ∨ cl5.slots.size ≤ (s2).toNatClampNeg) := inb_of S5 hs2
  refine own_Goes.st ?_ (X2.daload hx (j := s2) (v := (.double (FP.l2d (own_pick q0 q1 q2 q3 s2)))) (by rw [e2]; exact Ar5.1) (State.isArrayOf_alike hZ.alike Ar5.2.1) Ar5.2.2 hins2 (Has.at Hs5 hins2 (own_get hs2)) (g := (mkF m 38 #[.val (.ref a), .val (.ref pa), .val (.double (FP.l2d ((co + own_pick q0 q1 q2 q3 s0) + own_pick q0 q1 q2 q3 s1))), .second, .val (.ref b), .val (.int (3 : Int32)), .val (.int (2 : Int32)), .val (.int s2)] [(.int s2), (.ref pa), (.double (FP.l2d ((co + own_pick q0 q1 q2 q3 s0) + own_pick q0 q1 q2 q3 s1)))])) rfl rfl (hb hby own_d_prog_46_method_5_38))
  show own_Goes p.tables e below P (T2.setTop (mkF m 39 #[.val (.ref a), .val (.ref pa), .val (.double (FP.l2d ((co + own_pick q0 q1 q2 q3 s0) + own_pick q0 q1 q2 q3 s1))), .second, .val (.ref b), .val (.int (3 : Int32)), .val (.int (2 : Int32)), .val (.int s2)] [(.double (FP.l2d (own_pick q0 q1 q2 q3 s2))), (.double (FP.l2d ((co + own_pick q0 q1 q2 q3 s0) + own_pick q0 q1 q2 q3 s1)))]))
  have hd2 := dadd_w (own_b53 hi1 (by decide)) (own_pick53 q0 q1 q2 q3 s2)
  refine own_Goes.st ?_ (fun _ k => XS.daddS X2.here hx rfl (hb hby own_d_prog_46_method_5_39) rfl (nn_w hd2) hd2 k)
  have hi2 := own_add q0 q1 q2 q3 s2 hi1 (by decide)
  show own_Goes p.tables e below P (T2.setTop (mkF m 40 #[.val (.ref a), .val (.ref pa), .val (.double (FP.l2d ((co + own_pick q0 q1 q2 q3 s0) + own_pick q0 q1 q2 q3 s1))), .second, .val (.ref b), .val (.int (3 : Int32)), .val (.int (2 : Int32)), .val (.int s2)] [(.double (FP.l2d (((co + own_pick q0 q1 q2 q3 s0) + own_pick q0 q1 q2 q3 s1) + own_pick q0 q1 q2 q3 s2)))]))
  refine own_Goes.st ?_ (fun _ k => XS.dstoreN X2.here hx rfl (hb hby own_d_prog_46_method_5_40) rfl (l' := #[.val (.ref a), .val (.ref pa), .val (.double (FP.l2d (((co + own_pick q0 q1 q2 q3 s0) + own_pick q0 q1 q2 q3 s1) + own_pick q0 q1 q2 q3 s2))), .second, .val (.ref b), .val (.int (3 : Int32)), .val (.int (2 : Int32)), .val (.int s2)]) rfl k)
  show own_Goes p.tables e below P (T2.setTop (mkF m 41 #[.val (.ref a), .val (.ref pa), .val (.double (FP.l2d (((co + own_pick q0 q1 q2 q3 s0) + own_pick q0 q1 q2 q3 s1) + own_pick q0 q1 q2 q3 s2))), .second, .val (.ref b), .val (.int (3 : Int32)), .val (.int (2 : Int32)), .val (.int s2)] []))
  refine own_Goes.st ?_ (fun _ k => XS.iinc X2.here hx rfl (hb hby own_d_prog_46_method_5_41) rfl (l' := #[.val (.ref a), .val (.ref pa), .val (.double (FP.l2d (((co + own_pick q0 q1 q2 q3 s0) + own_pick q0 q1 q2 q3 s1) + own_pick q0 q1 q2 q3 s2))), .second, .val (.ref b), .val (.int (3 : Int32)), .val (.int (3 : Int32)), .val (.int s2)]) rfl k)
  show own_Goes p.tables e below P (T2.setTop (mkF m 44 #[.val (.ref a), .val (.ref pa), .val (.double (FP.l2d (((co + own_pick q0 q1 q2 q3 s0) + own_pick q0 q1 q2 q3 s1) + own_pick q0 q1 q2 q3 s2))), .second, .val (.ref b), .val (.int (3 : Int32)), .val (.int (3 : Int32)), .val (.int s2)] []))
  refine own_Goes.st ?_ (fun _ k => XS.goto X2.here hx rfl (pc0 := 44) (pc' := 20) rfl (hb hby own_d_prog_46_method_5_44) (by decide) (by decide) k)
  show own_Goes p.tables e below P (T2.setTop (mkF m 20 #[.val (.ref a), .val (.ref pa), .val (.double (FP.l2d (((co + own_pick q0 q1 q2 q3 s0) + own_pick q0 q1 q2 q3 s1) + own_pick q0 q1 q2 q3 s2))), .second, .val (.ref b), .val (.int (3 : Int32)), .val (.int (3 : Int32)), .val (.int s2)] []))
  refine own_Goes.st ?_ (fun _ k => XS.iload X2.here hx rfl (hb hby own_d_prog_46_method_5_20) rfl k)
  show own_Goes p.tables e below P (T2.setTop (mkF m 22 #[.val (.ref a), .val (.ref pa), .val (.double (FP.l2d (((co + own_pick q0 q1 q2 q3 s0) + own_pick q0 q1 q2 q3 s1) + own_pick q0 q1 q2 q3 s2))), .second, .val (.ref b), .val (.int (3 : Int32)), .val (.int (3 : Int32)), .val (.int s2)] [(.int (3 : Int32))]))
  refine own_Goes.st ?_ (fun _ k => XS.iload X2.here hx rfl (hb hby own_d_prog_46_method_5_22) rfl k)
  show own_Goes p.tables e below P (T2.setTop (mkF m 24 #[.val (.ref a), .val (.ref pa), .val (.double (FP.l2d (((co + own_pick q0 q1 q2 q3 s0) + own_pick q0 q1 q2 q3 s1) + own_pick q0 q1 q2 q3 s2))), .second, .val (.ref b), .val (.int (3 : Int32)), .val (.int (3 : Int32)), .val (.int s2)] [(.int (3 : Int32)), (.int (3 : Int32))]))
  refine own_Goes.st ?_ (fun _ k => XS.icmpYes X2.here hx rfl (pc0 := 24) (pc' := 47) rfl (hb hby own_d_prog_46_method_5_24) rfl (flt (by decide : ¬ ((3 : Int32) < (3 : Int32)))).2.1 (by decide) (by decide) k)
  show own_Goes p.tables e below P (T2.setTop (mkF m 47 #[.val (.ref a), .val (.ref pa), .val (.double (FP.l2d (((co + own_pick q0 q1 q2 q3 s0) + own_pick q0 q1 q2 q3 s1) + own_pick q0 q1 q2 q3 s2))), .second, .val (.ref b), .val (.int (3 : Int32)), .val (.int (3 : Int32)), .val (.int s2)] []))
  refine own_Goes.st ?_ (fun _ k => XS.dloadN X2.here hx rfl (hb hby own_d_prog_46_method_5_47) rfl k)
  show own_Goes p.tables e below P (T2.setTop (mkF m 48 #[.val (.ref a), .val (.ref pa), .val (.double (FP.l2d (((co + own_pick q0 q1 q2 q3 s0) + own_pick q0 q1 q2 q3 s1) + own_pick q0 q1 q2 q3 s2))), .second, .val (.ref b), .val (.int (3 : Int32)), .val (.int (3 : Int32)), .val (.int s2)] [(.double (FP.l2d (((co + own_pick q0 q1 q2 q3 s0) + own_pick q0 q1 q2 q3 s1) + own_pick q0 q1 q2 q3 s2)))]))
  obtain ⟨fs, hr, hrun, hended, hW, hsame⟩ := X2.leave (v := some (.double (FP.l2d (((co + own_pick q0 q1 q2 q3 s0) + own_pick q0 q1 q2 q3 s1) + own_pick q0 q1 q2 q3 s2)))) (fun h => by rw [Bd.returns] at h; cases h)
  exact own_Goes.fin _ _ (retOut X2 hx (t := .double) Bd.returns rfl (Or.inr (Or.inr (Or.inl ⟨rfl, rfl, _, rfl⟩))) (hb hby own_d_prog_46_method_5_48) hr) (hPP _ _ ⟨hrun, hended, _, _, rfl, (by show Q_priced3 Z a pa b co k k2 q0 q1 q2 q3 s0 s1 s2 h0 n0 _ T2.heap _; rw [e2]; exact ⟨rfl, N0, rfl⟩), ⟨_, rfl⟩, hW, hsame.mono (by decide) (by decide)⟩)
theorem own_ef_priced4 (m : MethodId) (x0 : Addr) (x1 : Addr) : entryFrame m #[(.ref x0), (.ref x1)] 8 = mkF m 0 #[.val (.ref x0), .val (.ref x1), .unset, .unset, .unset, .unset, .unset, .unset] [] := by first | (simp [entryFrame, mkF, argsToLocals, Value.category]; done) | rfl
def Q_priced4 (Z : State) (a : Addr) (pa : Addr) (b : Addr) (co : Int64) (k : ClassId) (k2 : ClassId) (q0 : Int32) (q1 : Int32) (q2 : Int32) (q3 : Int32) (s0 : Int32) (s1 : Int32) (s2 : Int32) (s3 : Int32) (h0 : Heap) (n0 : Nat) (rv_ : Option Value) (h_ : Heap) (L_ : List Loc) : Prop := rv_ = some (.double (FP.l2d ((((co + own_pick q0 q1 q2 q3 s0) + own_pick q0 q1 q2 q3 s1) + own_pick q0 q1 q2 q3 s2) + own_pick q0 q1 q2 q3 s3))) ∧ Fr n0 L_ ∧ h_ = h0
set_option maxRecDepth 65536 in
set_option maxHeartbeats 40000000 in
theorem rm_priced4 (l : Launch) (Z : State) (a0 : Array Value) (hw : ∀ d ∈ tables_1, d.before a0 Z = true) (ws : List Jvm.Cond) (a : Addr) (pa : Addr) (b : Addr) (co : Int64) (k : ClassId) (k2 : ClassId) (q0 : Int32) (q1 : Int32) (q2 : Int32) (q3 : Int32) (s0 : Int32) (s1 : Int32) (s2 : Int32) (s3 : Int32) (h0 : Heap) (n0 : Nat) (Z0 : n0 ≤ h0.size) (pr0 : Fld Z h0 a "com/example/pushmap/pushmap/schedule/Column" "slots" "[I" (.ref b)) (pr1 : Fld Z h0 a "com/example/pushmap/pushmap/schedule/Column" "cost" "J" (.long co)) (pr2 : Arv Z h0 b k .int (4 : Int32) [(.int s0), (.int s1), (.int s2), (.int s3)] (.int 0)) (pr3 : Arv Z h0 pa k2 .double (4 : Int32) [(.double (FP.i2d q0)), (.double (FP.i2d q1)), (.double (FP.i2d q2)), (.double (FP.i2d q3))] (.double 0)) (hco : own_in co 562949953421312) (hs0 : ¬ s0 < 0 ∧ s0 < 4) (hs1 : ¬ s1 < 0 ∧ s1 < 4) (hs2 : ¬ s2 < 0 ∧ s2 < 4) (hs3 : ¬ s3 < 0 ∧ s3 < 4) :
    MetFree l (⟨"com/example/pushmap/pushmap/schedule/Column", "priced", "([D)D"⟩ : MethodName) (head1 (Jvm.Cond.code (⟨"com/example/pushmap/pushmap/schedule/Column", "priced", "([D)D"⟩ : MethodName) prog_46_method_5_code 8 (some .double) :: ws) ({ frames := 0, cells := 0, slots := 0, locals := 0 } : Room)) (fun as_ U => as_ = #[(.ref a), (.ref pa)] ∧ Z.Warmed39 U.vm ∧ U.heap = h0) (fun _ _ _ _ _ => True) (fun _ U o U' => ∃ rv_ L_, o = .returned rv_ ∧ Q_priced4 Z a pa b co k k2 q0 q1 q2 q3 s0 s1 s2 s3 h0 n0 rv_ U'.heap L_ ∧ FrameEnd U o U' L_ ({ frames := 0, cells := 0, slots := 0, locals := 0 } : Room).cells ({ frames := 0, cells := 0, slots := 0, locals := 0 } : Room).slots) := by
  refine MetFree.of_bodySF (plainFor_of_name own_pn_com_example_pushmap_pushmap_schedule_Column) hisR ?_
  intro p e s m args below meth c s₁ Bd hml0 hP hK
  obtain ⟨rfl, hZ, hh⟩ := hP
  have hx := Bd.exec
  have hby := Bd.bytes
  have hml : c.maxLocals = 8 := hml0
  have hown : s.vm.findClass "com/example/pushmap/pushmap/schedule/Column" = some m.cls := findClass_of_methodNamed Bd.named
  have hnm := (name_of_methodNamed Bd.named Bd.method).1
  have X0 : Stand p l e ({ frames := 0, cells := 0, slots := 0, locals := 0 } : Room) s m #[(.ref a), (.ref pa)] below meth c s₁ [] 0 0 := Stand.of_body Bd
  have e0 : s₁.heap = h0 := by rw [← hh, Bd.state]; rfl
  have N0 := Fr.nil n0
  refine own_Goes.of ?_
  refine own_Goes.nm (fun P hPP => ?_)
  refine own_Goes.st ?_ (fun _ k => castTop (own_ef_priced4 m a pa) k)
  show own_Goes p.tables e below P (s₁.setTop (mkF m 0 #[.val (.ref a), .val (.ref pa), .unset, .unset, .unset, .unset, .unset, .unset] []))
  refine own_Goes.st ?_ (fun _ k => XS.aloadN X0.here hx rfl (hb hby own_d_prog_46_method_5_0) rfl rfl k)
  show own_Goes p.tables e below P (s₁.setTop (mkF m 1 #[.val (.ref a), .val (.ref pa), .unset, .unset, .unset, .unset, .unset, .unset] [(.ref a)]))
  obtain ⟨T1, X1, e1, st1⟩ := getF X0 hx hZ hown (host := "") (Or.inl (hw _ (List.mem_of_getElem? (i := 15) rfl))) Via.refl e0 pr1 (g := (mkF m 1 #[.val (.ref a), .val (.ref pa), .unset, .unset, .unset, .unset, .unset, .unset] [(.ref a)])) rfl rfl (hb hby own_d_prog_46_method_5_1)
  refine own_Goes.st ?_ st1
  show own_Goes p.tables e below P (T1.setTop (mkF m 4 #[.val (.ref a), .val (.ref pa), .unset, .unset, .unset, .unset, .unset, .unset] [(.long co)]))
  refine own_Goes.st ?_ (fun _ k => XS.l2dS X1.here hx rfl (hb hby own_d_prog_46_method_5_4) rfl rfl k)
  show own_Goes p.tables e below P (T1.setTop (mkF m 5 #[.val (.ref a), .val (.ref pa), .unset, .unset, .unset, .unset, .unset, .unset] [(.double (FP.l2d co))]))
  refine own_Goes.st ?_ (fun _ k => XS.dstoreN X1.here hx rfl (hb hby own_d_prog_46_method_5_5) rfl (l' := #[.val (.ref a), .val (.ref pa), .val (.double (FP.l2d co)), .second, .unset, .unset, .unset, .unset]) rfl k)
  show own_Goes p.tables e below P (T1.setTop (mkF m 6 #[.val (.ref a), .val (.ref pa), .val (.double (FP.l2d co)), .second, .unset, .unset, .unset, .unset] []))
  refine own_Goes.st ?_ (fun _ k => XS.aloadN X1.here hx rfl (hb hby own_d_prog_46_method_5_6) rfl rfl k)
  show own_Goes p.tables e below P (T1.setTop (mkF m 7 #[.val (.ref a), .val (.ref pa), .val (.double (FP.l2d co)), .second, .unset, .unset, .unset, .unset] [(.ref a)]))
  obtain ⟨T2, X2, e2, st2⟩ := getF X1 hx hZ hown (host := "") (Or.inl (hw _ (List.mem_of_getElem? (i := 13) rfl))) Via.refl e1 pr0 (g := (mkF m 7 #[.val (.ref a), .val (.ref pa), .val (.double (FP.l2d co)), .second, .unset, .unset, .unset, .unset] [(.ref a)])) rfl rfl (hb hby own_d_prog_46_method_5_7)
  refine own_Goes.st ?_ st2
  show own_Goes p.tables e below P (T2.setTop (mkF m 10 #[.val (.ref a), .val (.ref pa), .val (.double (FP.l2d co)), .second, .unset, .unset, .unset, .unset] [(.ref b)]))
  refine own_Goes.st ?_ (fun _ k => XS.astore X2.here hx rfl (hb hby own_d_prog_46_method_5_10) rfl rfl (l' := #[.val (.ref a), .val (.ref pa), .val (.double (FP.l2d co)), .second, .val (.ref b), .unset, .unset, .unset]) rfl k)
  show own_Goes p.tables e below P (T2.setTop (mkF m 12 #[.val (.ref a), .val (.ref pa), .val (.double (FP.l2d co)), .second, .val (.ref b), .unset, .unset, .unset] []))
  refine own_Goes.st ?_ (fun _ k => XS.aload X2.here hx rfl (hb hby own_d_prog_46_method_5_12) rfl rfl k)
  show own_Goes p.tables e below P (T2.setTop (mkF m 14 #[.val (.ref a), .val (.ref pa), .val (.double (FP.l2d co)), .second, .val (.ref b), .unset, .unset, .unset] [(.ref b)]))
  have Vc3 := pr2
  obtain ⟨cl3, Ar3, qc3, S3, Nn3, Hs3, Gs3⟩ := Vc3
  refine own_Goes.st ?_ (X2.arraylength hx (by rw [e2]; exact Ar3.1) (State.isArrayOf_alike hZ.alike Ar3.2.1) (g := (mkF m 14 #[.val (.ref a), .val (.ref pa), .val (.double (FP.l2d co)), .second, .val (.ref b), .unset, .unset, .unset] [(.ref b)])) rfl rfl (hb hby own_d_prog_46_method_5_14))
  rw [len_of S3 Nn3]
  show own_Goes p.tables e below P (T2.setTop (mkF m 15 #[.val (.ref a), .val (.ref pa), .val (.double (FP.l2d co)), .second, .val (.ref b), .unset, .unset, .unset] [(.int (4 : Int32))]))
  refine own_Goes.st ?_ (fun _ k => XS.istore X2.here hx rfl (hb hby own_d_prog_46_method_5_15) rfl (l' := #[.val (.ref a), .val (.ref pa), .val (.double (FP.l2d co)), .second, .val (.ref b), .val (.int (4 : Int32)), .unset, .unset]) rfl k)
  show own_Goes p.tables e below P (T2.setTop (mkF m 17 #[.val (.ref a), .val (.ref pa), .val (.double (FP.l2d co)), .second, .val (.ref b), .val (.int (4 : Int32)), .unset, .unset] []))
  refine own_Goes.st ?_ (fun _ k => XS.iconst X2.here hx rfl (hb hby own_d_prog_46_method_5_17) k)
  show own_Goes p.tables e below P (T2.setTop (mkF m 18 #[.val (.ref a), .val (.ref pa), .val (.double (FP.l2d co)), .second, .val (.ref b), .val (.int (4 : Int32)), .unset, .unset] [(.int (0 : Int32))]))
  refine own_Goes.st ?_ (fun _ k => XS.istore X2.here hx rfl (hb hby own_d_prog_46_method_5_18) rfl (l' := #[.val (.ref a), .val (.ref pa), .val (.double (FP.l2d co)), .second, .val (.ref b), .val (.int (4 : Int32)), .val (.int (0 : Int32)), .unset]) rfl k)
  show own_Goes p.tables e below P (T2.setTop (mkF m 20 #[.val (.ref a), .val (.ref pa), .val (.double (FP.l2d co)), .second, .val (.ref b), .val (.int (4 : Int32)), .val (.int (0 : Int32)), .unset] []))
  refine own_Goes.st ?_ (fun _ k => XS.iload X2.here hx rfl (hb hby own_d_prog_46_method_5_20) rfl k)
  show own_Goes p.tables e below P (T2.setTop (mkF m 22 #[.val (.ref a), .val (.ref pa), .val (.double (FP.l2d co)), .second, .val (.ref b), .val (.int (4 : Int32)), .val (.int (0 : Int32)), .unset] [(.int (0 : Int32))]))
  refine own_Goes.st ?_ (fun _ k => XS.iload X2.here hx rfl (hb hby own_d_prog_46_method_5_22) rfl k)
  show own_Goes p.tables e below P (T2.setTop (mkF m 24 #[.val (.ref a), .val (.ref pa), .val (.double (FP.l2d co)), .second, .val (.ref b), .val (.int (4 : Int32)), .val (.int (0 : Int32)), .unset] [(.int (4 : Int32)), (.int (0 : Int32))]))
  refine own_Goes.st ?_ (fun _ k => XS.icmpNo X2.here hx rfl (hb hby own_d_prog_46_method_5_24) rfl (tlt (by decide : (0 : Int32) < (4 : Int32))).2.1 k)
  show own_Goes p.tables e below P (T2.setTop (mkF m 27 #[.val (.ref a), .val (.ref pa), .val (.double (FP.l2d co)), .second, .val (.ref b), .val (.int (4 : Int32)), .val (.int (0 : Int32)), .unset] []))
  refine own_Goes.st ?_ (fun _ k => XS.aload X2.here hx rfl (hb hby own_d_prog_46_method_5_27) rfl rfl k)
  show own_Goes p.tables e below P (T2.setTop (mkF m 29 #[.val (.ref a), .val (.ref pa), .val (.double (FP.l2d co)), .second, .val (.ref b), .val (.int (4 : Int32)), .val (.int (0 : Int32)), .unset] [(.ref b)]))
  refine own_Goes.st ?_ (fun _ k => XS.iload X2.here hx rfl (hb hby own_d_prog_46_method_5_29) rfl k)
  show own_Goes p.tables e below P (T2.setTop (mkF m 31 #[.val (.ref a), .val (.ref pa), .val (.double (FP.l2d co)), .second, .val (.ref b), .val (.int (4 : Int32)), .val (.int (0 : Int32)), .unset] [(.int (0 : Int32)), (.ref b)]))
  have hin4 : ¬ ((0 : Int32) < 0 ∨ cl3.slots.size ≤ ((0 : Int32)).toNatClampNeg) := inb_of S3 ⟨by decide, by decide⟩
  refine own_Goes.st ?_ (X2.iaload hx (j := (0 : Int32)) (v := (.int s0)) (by rw [e2]; exact Ar3.1) (State.isArrayOf_alike hZ.alike Ar3.2.1) Ar3.2.2 hin4 (Has.at Hs3 hin4 rfl) (g := (mkF m 31 #[.val (.ref a), .val (.ref pa), .val (.double (FP.l2d co)), .second, .val (.ref b), .val (.int (4 : Int32)), .val (.int (0 : Int32)), .unset] [(.int (0 : Int32)), (.ref b)])) rfl rfl (hb hby own_d_prog_46_method_5_31))
  show own_Goes p.tables e below P (T2.setTop (mkF m 32 #[.val (.ref a), .val (.ref pa), .val (.double (FP.l2d co)), .second, .val (.ref b), .val (.int (4 : Int32)), .val (.int (0 : Int32)), .unset] [(.int s0)]))
  refine own_Goes.st ?_ (fun _ k => XS.istore X2.here hx rfl (hb hby own_d_prog_46_method_5_32) rfl (l' := #[.val (.ref a), .val (.ref pa), .val (.double (FP.l2d co)), .second, .val (.ref b), .val (.int (4 : Int32)), .val (.int (0 : Int32)), .val (.int s0)]) rfl k)
  show own_Goes p.tables e below P (T2.setTop (mkF m 34 #[.val (.ref a), .val (.ref pa), .val (.double (FP.l2d co)), .second, .val (.ref b), .val (.int (4 : Int32)), .val (.int (0 : Int32)), .val (.int s0)] []))
  refine own_Goes.st ?_ (fun _ k => XS.dloadN X2.here hx rfl (hb hby own_d_prog_46_method_5_34) rfl k)
  show own_Goes p.tables e below P (T2.setTop (mkF m 35 #[.val (.ref a), .val (.ref pa), .val (.double (FP.l2d co)), .second, .val (.ref b), .val (.int (4 : Int32)), .val (.int (0 : Int32)), .val (.int s0)] [(.double (FP.l2d co))]))
  refine own_Goes.st ?_ (fun _ k => XS.aloadN X2.here hx rfl (hb hby own_d_prog_46_method_5_35) rfl rfl k)
  show own_Goes p.tables e below P (T2.setTop (mkF m 36 #[.val (.ref a), .val (.ref pa), .val (.double (FP.l2d co)), .second, .val (.ref b), .val (.int (4 : Int32)), .val (.int (0 : Int32)), .val (.int s0)] [(.ref pa), (.double (FP.l2d co))]))
  refine own_Goes.st ?_ (fun _ k => XS.iload X2.here hx rfl (hb hby own_d_prog_46_method_5_36) rfl k)
  show own_Goes p.tables e below P (T2.setTop (mkF m 38 #[.val (.ref a), .val (.ref pa), .val (.double (FP.l2d co)), .second, .val (.ref b), .val (.int (4 : Int32)), .val (.int (0 : Int32)), .val (.int s0)] [(.int s0), (.ref pa), (.double (FP.l2d co))]))
  have Vc5 := pr3
  obtain ⟨cl5, Ar5, qc5, S5, Nn5, Hs5, Gs5⟩ := Vc5
  have hins0 : ¬ (s0 < 0 ∨ cl5.slots.size ≤ (s0).toNatClampNeg) := inb_of S5 hs0
  refine own_Goes.st ?_ (X2.daload hx (j := s0) (v := (.double (FP.l2d (own_pick q0 q1 q2 q3 s0)))) (by rw [e2]; exact Ar5.1) (State.isArrayOf_alike hZ.alike Ar5.2.1) Ar5.2.2 hins0 (Has.at Hs5 hins0 (own_get hs0)) (g := (mkF m 38 #[.val (.ref a), .val (.ref pa), .val (.double (FP.l2d co)), .second, .val (.ref b), .val (.int (4 : Int32)), .val (.int (0 : Int32)), .val (.int s0)] [(.int s0), (.ref pa), (.double (FP.l2d co))])) rfl rfl (hb hby own_d_prog_46_method_5_38))
  show own_Goes p.tables e below P (T2.setTop (mkF m 39 #[.val (.ref a), .val (.ref pa), .val (.double (FP.l2d co)), .second, .val (.ref b), .val (.int (4 : Int32)), .val (.int (0 : Int32)), .val (.int s0)] [(.double (FP.l2d (own_pick q0 q1 q2 q3 s0))), (.double (FP.l2d co))]))
  have hd0 := dadd_w (own_b53 hco (by decide)) (own_pick53 q0 q1 q2 q3 s0)
  refine own_Goes.st ?_ (fun _ k => XS.daddS X2.here hx rfl (hb hby own_d_prog_46_method_5_39) rfl (nn_w hd0) hd0 k)
  have hi0 := own_add q0 q1 q2 q3 s0 hco (by decide)
  show own_Goes p.tables e below P (T2.setTop (mkF m 40 #[.val (.ref a), .val (.ref pa), .val (.double (FP.l2d co)), .second, .val (.ref b), .val (.int (4 : Int32)), .val (.int (0 : Int32)), .val (.int s0)] [(.double (FP.l2d (co + own_pick q0 q1 q2 q3 s0)))]))
  refine own_Goes.st ?_ (fun _ k => XS.dstoreN X2.here hx rfl (hb hby own_d_prog_46_method_5_40) rfl (l' := #[.val (.ref a), .val (.ref pa), .val (.double (FP.l2d (co + own_pick q0 q1 q2 q3 s0))), .second, .val (.ref b), .val (.int (4 : Int32)), .val (.int (0 : Int32)), .val (.int s0)]) rfl k)
  show own_Goes p.tables e below P (T2.setTop (mkF m 41 #[.val (.ref a), .val (.ref pa), .val (.double (FP.l2d (co + own_pick q0 q1 q2 q3 s0))), .second, .val (.ref b), .val (.int (4 : Int32)), .val (.int (0 : Int32)), .val (.int s0)] []))
  refine own_Goes.st ?_ (fun _ k => XS.iinc X2.here hx rfl (hb hby own_d_prog_46_method_5_41) rfl (l' := #[.val (.ref a), .val (.ref pa), .val (.double (FP.l2d (co + own_pick q0 q1 q2 q3 s0))), .second, .val (.ref b), .val (.int (4 : Int32)), .val (.int (1 : Int32)), .val (.int s0)]) rfl k)
  show own_Goes p.tables e below P (T2.setTop (mkF m 44 #[.val (.ref a), .val (.ref pa), .val (.double (FP.l2d (co + own_pick q0 q1 q2 q3 s0))), .second, .val (.ref b), .val (.int (4 : Int32)), .val (.int (1 : Int32)), .val (.int s0)] []))
  refine own_Goes.st ?_ (fun _ k => XS.goto X2.here hx rfl (pc0 := 44) (pc' := 20) rfl (hb hby own_d_prog_46_method_5_44) (by decide) (by decide) k)
  show own_Goes p.tables e below P (T2.setTop (mkF m 20 #[.val (.ref a), .val (.ref pa), .val (.double (FP.l2d (co + own_pick q0 q1 q2 q3 s0))), .second, .val (.ref b), .val (.int (4 : Int32)), .val (.int (1 : Int32)), .val (.int s0)] []))
  refine own_Goes.st ?_ (fun _ k => XS.iload X2.here hx rfl (hb hby own_d_prog_46_method_5_20) rfl k)
  show own_Goes p.tables e below P (T2.setTop (mkF m 22 #[.val (.ref a), .val (.ref pa), .val (.double (FP.l2d (co + own_pick q0 q1 q2 q3 s0))), .second, .val (.ref b), .val (.int (4 : Int32)), .val (.int (1 : Int32)), .val (.int s0)] [(.int (1 : Int32))]))
  refine own_Goes.st ?_ (fun _ k => XS.iload X2.here hx rfl (hb hby own_d_prog_46_method_5_22) rfl k)
  show own_Goes p.tables e below P (T2.setTop (mkF m 24 #[.val (.ref a), .val (.ref pa), .val (.double (FP.l2d (co + own_pick q0 q1 q2 q3 s0))), .second, .val (.ref b), .val (.int (4 : Int32)), .val (.int (1 : Int32)), .val (.int s0)] [(.int (4 : Int32)), (.int (1 : Int32))]))
  refine own_Goes.st ?_ (fun _ k => XS.icmpNo X2.here hx rfl (hb hby own_d_prog_46_method_5_24) rfl (tlt (by decide : (1 : Int32) < (4 : Int32))).2.1 k)
  show own_Goes p.tables e below P (T2.setTop (mkF m 27 #[.val (.ref a), .val (.ref pa), .val (.double (FP.l2d (co + own_pick q0 q1 q2 q3 s0))), .second, .val (.ref b), .val (.int (4 : Int32)), .val (.int (1 : Int32)), .val (.int s0)] []))
  refine own_Goes.st ?_ (fun _ k => XS.aload X2.here hx rfl (hb hby own_d_prog_46_method_5_27) rfl rfl k)
  show own_Goes p.tables e below P (T2.setTop (mkF m 29 #[.val (.ref a), .val (.ref pa), .val (.double (FP.l2d (co + own_pick q0 q1 q2 q3 s0))), .second, .val (.ref b), .val (.int (4 : Int32)), .val (.int (1 : Int32)), .val (.int s0)] [(.ref b)]))
  refine own_Goes.st ?_ (fun _ k => XS.iload X2.here hx rfl (hb hby own_d_prog_46_method_5_29) rfl k)
  show own_Goes p.tables e below P (T2.setTop (mkF m 31 #[.val (.ref a), .val (.ref pa), .val (.double (FP.l2d (co + own_pick q0 q1 q2 q3 s0))), .second, .val (.ref b), .val (.int (4 : Int32)), .val (.int (1 : Int32)), .val (.int s0)] [(.int (1 : Int32)), (.ref b)]))
  have hin6 : ¬ ((1 : Int32) < 0 ∨ cl3.slots.size ≤ ((1 : Int32)).toNatClampNeg) := inb_of S3 ⟨by decide, by decide⟩
  refine own_Goes.st ?_ (X2.iaload hx (j := (1 : Int32)) (v := (.int s1)) (by rw [e2]; exact Ar3.1) (State.isArrayOf_alike hZ.alike Ar3.2.1) Ar3.2.2 hin6 (Has.at Hs3 hin6 rfl) (g := (mkF m 31 #[.val (.ref a), .val (.ref pa), .val (.double (FP.l2d (co + own_pick q0 q1 q2 q3 s0))), .second, .val (.ref b), .val (.int (4 : Int32)), .val (.int (1 : Int32)), .val (.int s0)] [(.int (1 : Int32)), (.ref b)])) rfl rfl (hb hby own_d_prog_46_method_5_31))
  show own_Goes p.tables e below P (T2.setTop (mkF m 32 #[.val (.ref a), .val (.ref pa), .val (.double (FP.l2d (co + own_pick q0 q1 q2 q3 s0))), .second, .val (.ref b), .val (.int (4 : Int32)), .val (.int (1 : Int32)), .val (.int s0)] [(.int s1)]))
  refine own_Goes.st ?_ (fun _ k => XS.istore X2.here hx rfl (hb hby own_d_prog_46_method_5_32) rfl (l' := #[.val (.ref a), .val (.ref pa), .val (.double (FP.l2d (co + own_pick q0 q1 q2 q3 s0))), .second, .val (.ref b), .val (.int (4 : Int32)), .val (.int (1 : Int32)), .val (.int s1)]) rfl k)
  show own_Goes p.tables e below P (T2.setTop (mkF m 34 #[.val (.ref a), .val (.ref pa), .val (.double (FP.l2d (co + own_pick q0 q1 q2 q3 s0))), .second, .val (.ref b), .val (.int (4 : Int32)), .val (.int (1 : Int32)), .val (.int s1)] []))
  refine own_Goes.st ?_ (fun _ k => XS.dloadN X2.here hx rfl (hb hby own_d_prog_46_method_5_34) rfl k)
  show own_Goes p.tables e below P (T2.setTop (mkF m 35 #[.val (.ref a), .val (.ref pa), .val (.double (FP.l2d (co + own_pick q0 q1 q2 q3 s0))), .second, .val (.ref b), .val (.int (4 : Int32)), .val (.int (1 : Int32)), .val (.int s1)] [(.double (FP.l2d (co + own_pick q0 q1 q2 q3 s0)))]))
  refine own_Goes.st ?_ (fun _ k => XS.aloadN X2.here hx rfl (hb hby own_d_prog_46_method_5_35) rfl rfl k)
  show own_Goes p.tables e below P (T2.setTop (mkF m 36 #[.val (.ref a), .val (.ref pa), .val (.double (FP.l2d (co + own_pick q0 q1 q2 q3 s0))), .second, .val (.ref b), .val (.int (4 : Int32)), .val (.int (1 : Int32)), .val (.int s1)] [(.ref pa), (.double (FP.l2d (co + own_pick q0 q1 q2 q3 s0)))]))
  refine own_Goes.st ?_ (fun _ k => XS.iload X2.here hx rfl (hb hby own_d_prog_46_method_5_36) rfl k)
  show own_Goes p.tables e below P (T2.setTop (mkF m 38 #[.val (.ref a), .val (.ref pa), .val (.double (FP.l2d (co + own_pick q0 q1 q2 q3 s0))), .second, .val (.ref b), .val (.int (4 : Int32)), .val (.int (1 : Int32)), .val (.int s1)] [(.int s1), (.ref pa), (.double (FP.l2d (co + own_pick q0 q1 q2 q3 s0)))]))
  have hins1 : ¬ (s1 < 0 ∨ cl5.slots.size ≤ (s1).toNatClampNeg) := inb_of S5 hs1
  refine own_Goes.st ?_ (X2.daload hx (j := s1) (v := (.double (FP.l2d (own_pick q0 q1 q2 q3 s1)))) (by rw [e2]; exact Ar5.1) (State.isArrayOf_alike hZ.alike Ar5.2.1) Ar5.2.2 hins1 (Has.at Hs5 hins1 (own_get hs1)) (g := (mkF m 38 #[.val (.ref a), .val (.ref pa), .val (.double (FP.l2d (co + own_pick q0 q1 q2 q3 s0))), .second, .val (.ref b), .val (.int (4 : Int32)), .val (.int (1 : Int32)), .val (.int s1)] [(.int s1), (.ref pa), (.double (FP.l2d (co + own_pick q0 q1 q2 q3 s0)))])) rfl rfl (hb hby own_d_prog_46_method_5_38))
  show own_Goes p.tables e below P (T2.setTop (mkF m 39 #[.val (.ref a), .val (.ref pa), .val (.double (FP.l2d (co + own_pick q0 q1 q2 q3 s0))), .second, .val (.ref b), .val (.int (4 : Int32)), .val (.int (1 : Int32)), .val (.int s1)] [(.double (FP.l2d (own_pick q0 q1 q2 q3 s1))), (.double (FP.l2d (co + own_pick q0 q1 q2 q3 s0)))]))
  have hd1 := dadd_w (own_b53 hi0 (by decide)) (own_pick53 q0 q1 q2 q3 s1)
  refine own_Goes.st ?_ (fun _ k => XS.daddS X2.here hx rfl (hb hby own_d_prog_46_method_5_39) rfl (nn_w hd1) hd1 k)
  have hi1 := own_add q0 q1 q2 q3 s1 hi0 (by decide)
  show own_Goes p.tables e below P (T2.setTop (mkF m 40 #[.val (.ref a), .val (.ref pa), .val (.double (FP.l2d (co + own_pick q0 q1 q2 q3 s0))), .second, .val (.ref b), .val (.int (4 : Int32)), .val (.int (1 : Int32)), .val (.int s1)] [(.double (FP.l2d ((co + own_pick q0 q1 q2 q3 s0) + own_pick q0 q1 q2 q3 s1)))]))
  refine own_Goes.st ?_ (fun _ k => XS.dstoreN X2.here hx rfl (hb hby own_d_prog_46_method_5_40) rfl (l' := #[.val (.ref a), .val (.ref pa), .val (.double (FP.l2d ((co + own_pick q0 q1 q2 q3 s0) + own_pick q0 q1 q2 q3 s1))), .second, .val (.ref b), .val (.int (4 : Int32)), .val (.int (1 : Int32)), .val (.int s1)]) rfl k)
  show own_Goes p.tables e below P (T2.setTop (mkF m 41 #[.val (.ref a), .val (.ref pa), .val (.double (FP.l2d ((co + own_pick q0 q1 q2 q3 s0) + own_pick q0 q1 q2 q3 s1))), .second, .val (.ref b), .val (.int (4 : Int32)), .val (.int (1 : Int32)), .val (.int s1)] []))
  refine own_Goes.st ?_ (fun _ k => XS.iinc X2.here hx rfl (hb hby own_d_prog_46_method_5_41) rfl (l' := #[.val (.ref a), .val (.ref pa), .val (.double (FP.l2d ((co + own_pick q0 q1 q2 q3 s0) + own_pick q0 q1 q2 q3 s1))), .second, .val (.ref b), .val (.int (4 : Int32)), .val (.int (2 : Int32)), .val (.int s1)]) rfl k)
  show own_Goes p.tables e below P (T2.setTop (mkF m 44 #[.val (.ref a), .val (.ref pa), .val (.double (FP.l2d ((co + own_pick q0 q1 q2 q3 s0) + own_pick q0 q1 q2 q3 s1))), .second, .val (.ref b), .val (.int (4 : Int32)), .val (.int (2 : Int32)), .val (.int s1)] []))
  refine own_Goes.st ?_ (fun _ k => XS.goto X2.here hx rfl (pc0 := 44) (pc' := 20) rfl (hb hby own_d_prog_46_method_5_44) (by decide) (by decide) k)
  show own_Goes p.tables e below P (T2.setTop (mkF m 20 #[.val (.ref a), .val (.ref pa), .val (.double (FP.l2d ((co + own_pick q0 q1 q2 q3 s0) + own_pick q0 q1 q2 q3 s1))), .second, .val (.ref b), .val (.int (4 : Int32)), .val (.int (2 : Int32)), .val (.int s1)] []))
  refine own_Goes.st ?_ (fun _ k => XS.iload X2.here hx rfl (hb hby own_d_prog_46_method_5_20) rfl k)
  show own_Goes p.tables e below P (T2.setTop (mkF m 22 #[.val (.ref a), .val (.ref pa), .val (.double (FP.l2d ((co + own_pick q0 q1 q2 q3 s0) + own_pick q0 q1 q2 q3 s1))), .second, .val (.ref b), .val (.int (4 : Int32)), .val (.int (2 : Int32)), .val (.int s1)] [(.int (2 : Int32))]))
  refine own_Goes.st ?_ (fun _ k => XS.iload X2.here hx rfl (hb hby own_d_prog_46_method_5_22) rfl k)
  show own_Goes p.tables e below P (T2.setTop (mkF m 24 #[.val (.ref a), .val (.ref pa), .val (.double (FP.l2d ((co + own_pick q0 q1 q2 q3 s0) + own_pick q0 q1 q2 q3 s1))), .second, .val (.ref b), .val (.int (4 : Int32)), .val (.int (2 : Int32)), .val (.int s1)] [(.int (4 : Int32)), (.int (2 : Int32))]))
  refine own_Goes.st ?_ (fun _ k => XS.icmpNo X2.here hx rfl (hb hby own_d_prog_46_method_5_24) rfl (tlt (by decide : (2 : Int32) < (4 : Int32))).2.1 k)
  show own_Goes p.tables e below P (T2.setTop (mkF m 27 #[.val (.ref a), .val (.ref pa), .val (.double (FP.l2d ((co + own_pick q0 q1 q2 q3 s0) + own_pick q0 q1 q2 q3 s1))), .second, .val (.ref b), .val (.int (4 : Int32)), .val (.int (2 : Int32)), .val (.int s1)] []))
  refine own_Goes.st ?_ (fun _ k => XS.aload X2.here hx rfl (hb hby own_d_prog_46_method_5_27) rfl rfl k)
  show own_Goes p.tables e below P (T2.setTop (mkF m 29 #[.val (.ref a), .val (.ref pa), .val (.double (FP.l2d ((co + own_pick q0 q1 q2 q3 s0) + own_pick q0 q1 q2 q3 s1))), .second, .val (.ref b), .val (.int (4 : Int32)), .val (.int (2 : Int32)), .val (.int s1)] [(.ref b)]))
  refine own_Goes.st ?_ (fun _ k => XS.iload X2.here hx rfl (hb hby own_d_prog_46_method_5_29) rfl k)
  show own_Goes p.tables e below P (T2.setTop (mkF m 31 #[.val (.ref a), .val (.ref pa), .val (.double (FP.l2d ((co + own_pick q0 q1 q2 q3 s0) + own_pick q0 q1 q2 q3 s1))), .second, .val (.ref b), .val (.int (4 : Int32)), .val (.int (2 : Int32)), .val (.int s1)] [(.int (2 : Int32)), (.ref b)]))
  have hin7 : ¬ ((2 : Int32) < 0 ∨ cl3.slots.size ≤ ((2 : Int32)).toNatClampNeg) := inb_of S3 ⟨by decide, by decide⟩
  refine own_Goes.st ?_ (X2.iaload hx (j := (2 : Int32)) (v := (.int s2)) (by rw [e2]; exact Ar3.1) (State.isArrayOf_alike hZ.alike Ar3.2.1) Ar3.2.2 hin7 (Has.at Hs3 hin7 rfl) (g := (mkF m 31 #[.val (.ref a), .val (.ref pa), .val (.double (FP.l2d ((co + own_pick q0 q1 q2 q3 s0) + own_pick q0 q1 q2 q3 s1))), .second, .val (.ref b), .val (.int (4 : Int32)), .val (.int (2 : Int32)), .val (.int s1)] [(.int (2 : Int32)), (.ref b)])) rfl rfl (hb hby own_d_prog_46_method_5_31))
  show own_Goes p.tables e below P (T2.setTop (mkF m 32 #[.val (.ref a), .val (.ref pa), .val (.double (FP.l2d ((co + own_pick q0 q1 q2 q3 s0) + own_pick q0 q1 q2 q3 s1))), .second, .val (.ref b), .val (.int (4 : Int32)), .val (.int (2 : Int32)), .val (.int s1)] [(.int s2)]))
  refine own_Goes.st ?_ (fun _ k => XS.istore X2.here hx rfl (hb hby own_d_prog_46_method_5_32) rfl (l' := #[.val (.ref a), .val (.ref pa), .val (.double (FP.l2d ((co + own_pick q0 q1 q2 q3 s0) + own_pick q0 q1 q2 q3 s1))), .second, .val (.ref b), .val (.int (4 : Int32)), .val (.int (2 : Int32)), .val (.int s2)]) rfl k)
  show own_Goes p.tables e below P (T2.setTop (mkF m 34 #[.val (.ref a), .val (.ref pa), .val (.double (FP.l2d ((co + own_pick q0 q1 q2 q3 s0) + own_pick q0 q1 q2 q3 s1))), .second, .val (.ref b), .val (.int (4 : Int32)), .val (.int (2 : Int32)), .val (.int s2)] []))
  refine own_Goes.st ?_ (fun _ k => XS.dloadN X2.here hx rfl (hb hby own_d_prog_46_method_5_34) rfl k)
  show own_Goes p.tables e below P (T2.setTop (mkF m 35 #[.val (.ref a), .val (.ref pa), .val (.double (FP.l2d ((co + own_pick q0 q1 q2 q3 s0) + own_pick q0 q1 q2 q3 s1))), .second, .val (.ref b), .val (.int (4 : Int32)), .val (.int (2 : Int32)), .val (.int s2)] [(.double (FP.l2d ((co + own_pick q0 q1 q2 q3 s0) + own_pick q0 q1 q2 q3 s1)))]))
  refine own_Goes.st ?_ (fun _ k => XS.aloadN X2.here hx rfl (hb hby own_d_prog_46_method_5_35) rfl rfl k)
  show own_Goes p.tables e below P (T2.setTop (mkF m 36 #[.val (.ref a), .val (.ref pa), .val (.double (FP.l2d ((co + own_pick q0 q1 q2 q3 s0) + own_pick q0 q1 q2 q3 s1))), .second, .val (.ref b), .val (.int (4 : Int32)), .val (.int (2 : Int32)), .val (.int s2)] [(.ref pa), (.double (FP.l2d ((co + own_pick q0 q1 q2 q3 s0) + own_pick q0 q1 q2 q3 s1)))]))
  refine own_Goes.st ?_ (fun _ k => XS.iload X2.here hx rfl (hb hby own_d_prog_46_method_5_36) rfl k)
  show own_Goes p.tables e below P (T2.setTop (mkF m 38 #[.val (.ref a), .val (.ref pa), .val (.double (FP.l2d ((co + own_pick q0 q1 q2 q3 s0) + own_pick q0 q1 q2 q3 s1))), .second, .val (.ref b), .val (.int (4 : Int32)), .val (.int (2 : Int32)), .val (.int s2)] [(.int s2), (.ref pa), (.double (FP.l2d ((co + own_pick q0 q1 q2 q3 s0) + own_pick q0 q1 q2 q3 s1)))]))
  have hins2 : ¬ (s2 < 0 ∨ cl5.slots.size ≤ (s2).toNatClampNeg) := inb_of S5 hs2
  refine own_Goes.st ?_ (X2.daload hx (j := s2) (v := (.double (FP.l2d (own_pick q0 q1 q2 q3 s2)))) (by rw [e2]; exact Ar5.1) (State.isArrayOf_alike hZ.alike Ar5.2.1) Ar5.2.2 hins2 (Has.at Hs5 hins2 (own_get hs2)) (g := (mkF m 38 #[.val (.ref a), .val (.ref pa), .val (.double (FP.l2d ((co + own_pick q0 q1 q2 q3 s0) + own_pick q0 q1 q2 q3 s1))), .second, .val (.ref b), .val (.int (4 : Int32)), .val (.int (2 : Int32)), .val (.int s2)] [(.int s2), (.ref pa), (.double (FP.l2d ((co + own_pick q0 q1 q2 q3 s0) + own_pick q0 q1 q2 q3 s1)))])) rfl rfl (hb hby own_d_prog_46_method_5_38))
  show own_Goes p.tables e below P (T2.setTop (mkF m 39 #[.val (.ref a), .val (.ref pa), .val (.double (FP.l2d ((co + own_pick q0 q1 q2 q3 s0) + own_pick q0 q1 q2 q3 s1))), .second, .val (.ref b), .val (.int (4 : Int32)), .val (.int (2 : Int32)), .val (.int s2)] [(.double (FP.l2d (own_pick q0 q1 q2 q3 s2))), (.double (FP.l2d ((co + own_pick q0 q1 q2 q3 s0) + own_pick q0 q1 q2 q3 s1)))]))
  have hd2 := dadd_w (own_b53 hi1 (by decide)) (own_pick53 q0 q1 q2 q3 s2)
  refine own_Goes.st ?_ (fun _ k => XS.daddS X2.here hx rfl (hb hby own_d_prog_46_method_5_39) rfl (nn_w hd2) hd2 k)
  have hi2 := own_add q0 q1 q2 q3 s2 hi1 (by decide)
  show own_Goes p.tables e below P (T2.setTop (mkF m 40 #[.val (.ref a), .val (.ref pa), .val (.double (FP.l2d ((co + own_pick q0 q1 q2 q3 s0) + own_pick q0 q1 q2 q3 s1))), .second, .val (.ref b), .val (.int (4 : Int32)), .val (.int (2 : Int32)), .val (.int s2)] [(.double (FP.l2d (((co + own_pick q0 q1 q2 q3 s0) + own_pick q0 q1 q2 q3 s1) + own_pick q0 q1 q2 q3 s2)))]))
  refine own_Goes.st ?_ (fun _ k => XS.dstoreN X2.here hx rfl (hb hby own_d_prog_46_method_5_40) rfl (l' := #[.val (.ref a), .val (.ref pa), .val (.double (FP.l2d (((co + own_pick q0 q1 q2 q3 s0) + own_pick q0 q1 q2 q3 s1) + own_pick q0 q1 q2 q3 s2))), .second, .val (.ref b), .val (.int (4 : Int32)), .val (.int (2 : Int32)), .val (.int s2)]) rfl k)
  show own_Goes p.tables e below P (T2.setTop (mkF m 41 #[.val (.ref a), .val (.ref pa), .val (.double (FP.l2d (((co + own_pick q0 q1 q2 q3 s0) + own_pick q0 q1 q2 q3 s1) + own_pick q0 q1 q2 q3 s2))), .second, .val (.ref b), .val (.int (4 : Int32)), .val (.int (2 : Int32)), .val (.int s2)] []))
  refine own_Goes.st ?_ (fun _ k => XS.iinc X2.here hx rfl (hb hby own_d_prog_46_method_5_41) rfl (l' := #[.val (.ref a), .val (.ref pa), .val (.double (FP.l2d (((co + own_pick q0 q1 q2 q3 s0) + own_pick q0 q1 q2 q3 s1) + own_pick q0 q1 q2 q3 s2))), .second, .val (.ref b), .val (.int (4 : Int32)), .val (.int (3 : Int32)), .val (.int s2)]) rfl k)
  show own_Goes p.tables e below P (T2.setTop (mkF m 44 #[.val (.ref a), .val (.ref pa), .val (.double (FP.l2d (((co + own_pick q0 q1 q2 q3 s0) + own_pick q0 q1 q2 q3 s1) + own_pick q0 q1 q2 q3 s2))), .second, .val (.ref b), .val (.int (4 : Int32)), .val (.int (3 : Int32)), .val (.int s2)] []))
  refine own_Goes.st ?_ (fun _ k => XS.goto X2.here hx rfl (pc0 := 44) (pc' := 20) rfl (hb hby own_d_prog_46_method_5_44) (by decide) (by decide) k)
  show own_Goes p.tables e below P (T2.setTop (mkF m 20 #[.val (.ref a), .val (.ref pa), .val (.double (FP.l2d (((co + own_pick q0 q1 q2 q3 s0) + own_pick q0 q1 q2 q3 s1) + own_pick q0 q1 q2 q3 s2))), .second, .val (.ref b), .val (.int (4 : Int32)), .val (.int (3 : Int32)), .val (.int s2)] []))
  refine own_Goes.st ?_ (fun _ k => XS.iload X2.here hx rfl (hb hby own_d_prog_46_method_5_20) rfl k)
  show own_Goes p.tables e below P (T2.setTop (mkF m 22 #[.val (.ref a), .val (.ref pa), .val (.double (FP.l2d (((co + own_pick q0 q1 q2 q3 s0) + own_pick q0 q1 q2 q3 s1) + own_pick q0 q1 q2 q3 s2))), .second, .val (.ref b), .val (.int (4 : Int32)), .val (.int (3 : Int32)), .val (.int s2)] [(.int (3 : Int32))]))
  refine own_Goes.st ?_ (fun _ k => XS.iload X2.here hx rfl (hb hby own_d_prog_46_method_5_22) rfl k)
  show own_Goes p.tables e below P (T2.setTop (mkF m 24 #[.val (.ref a), .val (.ref pa), .val (.double (FP.l2d (((co + own_pick q0 q1 q2 q3 s0) + own_pick q0 q1 q2 q3 s1) + own_pick q0 q1 q2 q3 s2))), .second, .val (.ref b), .val (.int (4 : Int32)), .val (.int (3 : Int32)), .val (.int s2)] [(.int (4 : Int32)), (.int (3 : Int32))]))
  refine own_Goes.st ?_ (fun _ k => XS.icmpNo X2.here hx rfl (hb hby own_d_prog_46_method_5_24) rfl (tlt (by decide : (3 : Int32) < (4 : Int32))).2.1 k)
  show own_Goes p.tables e below P (T2.setTop (mkF m 27 #[.val (.ref a), .val (.ref pa), .val (.double (FP.l2d (((co + own_pick q0 q1 q2 q3 s0) + own_pick q0 q1 q2 q3 s1) + own_pick q0 q1 q2 q3 s2))), .second, .val (.ref b), .val (.int (4 : Int32)), .val (.int (3 : Int32)), .val (.int s2)] []))
  refine own_Goes.st ?_ (fun _ k => XS.aload X2.here hx rfl (hb hby own_d_prog_46_method_5_27) rfl rfl k)
  show own_Goes p.tables e below P (T2.setTop (mkF m 29 #[.val (.ref a), .val (.ref pa), .val (.double (FP.l2d (((co + own_pick q0 q1 q2 q3 s0) + own_pick q0 q1 q2 q3 s1) + own_pick q0 q1 q2 q3 s2))), .second, .val (.ref b), .val (.int (4 : Int32)), .val (.int (3 : Int32)), .val (.int s2)] [(.ref b)]))
  refine own_Goes.st ?_ (fun _ k => XS.iload X2.here hx rfl (hb hby own_d_prog_46_method_5_29) rfl k)
  show own_Goes p.tables e below P (T2.setTop (mkF m 31 #[.val (.ref a), .val (.ref pa), .val (.double (FP.l2d (((co + own_pick q0 q1 q2 q3 s0) + own_pick q0 q1 q2 q3 s1) + own_pick q0 q1 q2 q3 s2))), .second, .val (.ref b), .val (.int (4 : Int32)), .val (.int (3 : Int32)), .val (.int s2)] [(.int (3 : Int32)), (.ref b)]))
  have hin8 : ¬ ((3 : Int32) < 0 ∨ cl3.slots.size ≤ ((3 : Int32)).toNatClampNeg) := inb_of S3 ⟨by decide, by decide⟩
  refine own_Goes.st ?_ (X2.iaload hx (j := (3 : Int32)) (v := (.int s3)) (by rw [e2]; exact Ar3.1) (State.isArrayOf_alike hZ.alike Ar3.2.1) Ar3.2.2 hin8 (Has.at Hs3 hin8 rfl) (g := (mkF m 31 #[.val (.ref a), .val (.ref pa), .val (.double (FP.l2d (((co + own_pick q0 q1 q2 q3 s0) + own_pick q0 q1 q2 q3 s1) + own_pick q0 q1 q2 q3 s2))), .second, .val (.ref b), .val (.int (4 : Int32)), .val (.int (3 : Int32)), .val (.int s2)] [(.int (3 : Int32)), (.ref b)])) rfl rfl (hb hby own_d_prog_46_method_5_31))
  show own_Goes p.tables e below P (T2.setTop (mkF m 32 #[.val (.ref a), .val (.ref pa), .val (.double (FP.l2d (((co + own_pick q0 q1 q2 q3 s0) + own_pick q0 q1 q2 q3 s1) + own_pick q0 q1 q2 q3 s2))), .second, .val (.ref b), .val (.int (4 : Int32)), .val (.int (3 : Int32)), .val (.int s2)] [(.int s3)]))
  refine own_Goes.st ?_ (fun _ k => XS.istore X2.here hx rfl (hb hby own_d_prog_46_method_5_32) rfl (l' := #[.val (.ref a), .val (.ref pa), .val (.double (FP.l2d (((co + own_pick q0 q1 q2 q3 s0) + own_pick q0 q1 q2 q3 s1) + own_pick q0 q1 q2 q3 s2))), .second, .val (.ref b), .val (.int (4 : Int32)), .val (.int (3 : Int32)), .val (.int s3)]) rfl k)
  show own_Goes p.tables e below P (T2.setTop (mkF m 34 #[.val (.ref a), .val (.ref pa), .val (.double (FP.l2d (((co + own_pick q0 q1 q2 q3 s0) + own_pick q0 q1 q2 q3 s1) + own_pick q0 q1 q2 q3 s2))), .second, .val (.ref b), .val (.int (4 : Int32)), .val (.int (3 : Int32)), .val (.int s3)] []))
  refine own_Goes.st ?_ (fun _ k => XS.dloadN X2.here hx rfl (hb hby own_d_prog_46_method_5_34) rfl k)
  show own_Goes p.tables e below P (T2.setTop (mkF m 35 #[.val (.ref a), .val (.ref pa), .val (.double (FP.l2d (((co + own_pick q0 q1 q2 q3 s0) + own_pick q0 q1 q2 q3 s1) + own_pick q0 q1 q2 q3 s2))), .second, .val (.ref b), .val (.int (4 : Int32)), .val (.int (3 : Int32)), .val (.int s3)] [(.double (FP.l2d (((co + own_pick q0 q1 q2 q3 s0) + own_pick q0 q1 q2 q3 s1) + own_pick q0 q1 q2 q3 s2)))]))
  refine own_Goes.st ?_ (fun _ k => XS.aloadN X2.here hx rfl (hb hby own_d_prog_46_method_5_35) rfl rfl k)
  show own_Goes p.tables e below P (T2.setTop (mkF m 36 #[.val (.ref a), .val (.ref pa), .val (.double (FP.l2d (((co + own_pick q0 q1 q2 q3 s0) + own_pick q0 q1 q2 q3 s1) + own_pick q0 q1 q2 q3 s2))), .second, .val (.ref b), .val (.int (4 : Int32)), .val (.int (3 : Int32)), .val (.int s3)] [(.ref pa), (.double (FP.l2d (((co + own_pick q0 q1 q2 q3 s0) + own_pick q0 q1 q2 q3 s1) + own_pick q0 q1 q2 q3 s2)))]))
  refine own_Goes.st ?_ (fun _ k => XS.iload X2.here hx rfl (hb hby own_d_prog_46_method_5_36) rfl k)
  show own_Goes p.tables e below P (T2.setTop (mkF m 38 #[.val (.ref a), .val (.ref pa), .val (.double (FP.l2d (((co + own_pick q0 q1 q2 q3 s0) + own_pick q0 q1 q2 q3 s1) + own_pick q0 q1 q2 q3 s2))), .second, .val (.ref b), .val (.int (4 : Int32)), .val (.int (3 : Int32)), .val (.int s3)] [(.int s3), (.ref pa), (.double (FP.l2d (((co + own_pick q0 q1 q2 q3 s0) + own_pick q0 q1 q2 q3 s1) + own_pick q0 q1 q2 q3 s2)))]))
  have hins3 : ¬ (s3 < 0 ∨ cl5.slots.size ≤ (s3).toNatClampNeg) := inb_of S5 hs3
  refine own_Goes.st ?_ (X2.daload hx (j := s3) (v := (.double (FP.l2d (own_pick q0 q1 q2 q3 s3)))) (by rw [e2]; exact Ar5.1) (State.isArrayOf_alike hZ.alike Ar5.2.1) Ar5.2.2 hins3 (Has.at Hs5 hins3 (own_get hs3)) (g := (mkF m 38 #[.val (.ref a), .val (.ref pa), .val (.double (FP.l2d (((co + own_pick q0 q1 q2 q3 s0) + own_pick q0 q1 q2 q3 s1) + own_pick q0 q1 q2 q3 s2))), .second, .val (.ref b), .val (.int (4 : Int32)), .val (.int (3 : Int32)), .val (.int s3)] [(.int s3), (.ref pa), (.double (FP.l2d (((co + own_pick q0 q1 q2 q3 s0) + own_pick q0 q1 q2 q3 s1) + own_pick q0 q1 q2 q3 s2)))])) rfl rfl (hb hby own_d_prog_46_method_5_38))
  show own_Goes p.tables e below P (T2.setTop (mkF m 39 #[.val (.ref a), .val (.ref pa), .val (.double (FP.l2d (((co + own_pick q0 q1 q2 q3 s0) + own_pick q0 q1 q2 q3 s1) + own_pick q0 q1 q2 q3 s2))), .second, .val (.ref b), .val (.int (4 : Int32)), .val (.int (3 : Int32)), .val (.int s3)] [(.double (FP.l2d (own_pick q0 q1 q2 q3 s3))), (.double (FP.l2d (((co + own_pick q0 q1 q2 q3 s0) + own_pick q0 q1 q2 q3 s1) + own_pick q0 q1 q2 q3 s2)))]))
  have hd3 := dadd_w (own_b53 hi2 (by decide)) (own_pick53 q0 q1 q2 q3 s3)
  refine own_Goes.st ?_ (fun _ k => XS.daddS X2.here hx rfl (hb hby own_d_prog_46_method_5_39) rfl (nn_w hd3) hd3 k)
  have hi3 := own_add q0 q1 q2 q3 s3 hi2 (by decide)
  show own_Goes p.tables e below P (T2.setTop (mkF m 40 #[.val (.ref a), .val (.ref pa), .val (.double (FP.l2d (((co + own_pick q0 q1 q2 q3 s0) + own_pick q0 q1 q2 q3 s1) + own_pick q0 q1 q2 q3 s2))), .second, .val (.ref b), .val (.int (4 : Int32)), .val (.int (3 : Int32)), .val (.int s3)] [(.double (FP.l2d ((((co + own_pick q0 q1 q2 q3 s0) + own_pick q0 q1 q2 q3 s1) + own_pick q0 q1 q2 q3 s2) + own_pick q0 q1 q2 q3 s3)))]))
  refine own_Goes.st ?_ (fun _ k => XS.dstoreN X2.here hx rfl (hb hby own_d_prog_46_method_5_40) rfl (l' := #[.val (.ref a), .val (.ref pa), .val (.double (FP.l2d ((((co + own_pick q0 q1 q2 q3 s0) + own_pick q0 q1 q2 q3 s1) + own_pick q0 q1 q2 q3 s2) + own_pick q0 q1 q2 q3 s3))), .second, .val (.ref b), .val (.int (4 : Int32)), .val (.int (3 : Int32)), .val (.int s3)]) rfl k)
  show own_Goes p.tables e below P (T2.setTop (mkF m 41 #[.val (.ref a), .val (.ref pa), .val (.double (FP.l2d ((((co + own_pick q0 q1 q2 q3 s0) + own_pick q0 q1 q2 q3 s1) + own_pick q0 q1 q2 q3 s2) + own_pick q0 q1 q2 q3 s3))), .second, .val (.ref b), .val (.int (4 : Int32)), .val (.int (3 : Int32)), .val (.int s3)] []))
  refine own_Goes.st ?_ (fun _ k => XS.iinc X2.here hx rfl (hb hby own_d_prog_46_method_5_41) rfl (l' := #[.val (.ref a), .val (.ref pa), .val (.double (FP.l2d ((((co + own_pick q0 q1 q2 q3 s0) + own_pick q0 q1 q2 q3 s1) + own_pick q0 q1 q2 q3 s2) + own_pick q0 q1 q2 q3 s3))), .second, .val (.ref b), .val (.int (4 : Int32)), .val (.int (4 : Int32)), .val (.int s3)]) rfl k)
  show own_Goes p.tables e below P (T2.setTop (mkF m 44 #[.val (.ref a), .val (.ref pa), .val (.double (FP.l2d ((((co + own_pick q0 q1 q2 q3 s0) + own_pick q0 q1 q2 q3 s1) + own_pick q0 q1 q2 q3 s2) + own_pick q0 q1 q2 q3 s3))), .second, .val (.ref b), .val (.int (4 : Int32)), .val (.int (4 : Int32)), .val (.int s3)] []))
  refine own_Goes.st ?_ (fun _ k => XS.goto X2.here hx rfl (pc0 := 44) (pc' := 20) rfl (hb hby own_d_prog_46_method_5_44) (by decide) (by decide) k)
  show own_Goes p.tables e below P (T2.setTop (mkF m 20 #[.val (.ref a), .val (.ref pa), .val (.double (FP.l2d ((((co + own_pick q0 q1 q2 q3 s0) + own_pick q0 q1 q2 q3 s1) + own_pick q0 q1 q2 q3 s2) + own_pick q0 q1 q2 q3 s3))), .second, .val (.ref b), .val (.int (4 : Int32)), .val (.int (4 : Int32)), .val (.int s3)] []))
  refine own_Goes.st ?_ (fun _ k => XS.iload X2.here hx rfl (hb hby own_d_prog_46_method_5_20) rfl k)
  show own_Goes p.tables e below P (T2.setTop (mkF m 22 #[.val (.ref a), .val (.ref pa), .val (.double (FP.l2d ((((co + own_pick q0 q1 q2 q3 s0) + own_pick q0 q1 q2 q3 s1) + own_pick q0 q1 q2 q3 s2) + own_pick q0 q1 q2 q3 s3))), .second, .val (.ref b), .val (.int (4 : Int32)), .val (.int (4 : Int32)), .val (.int s3)] [(.int (4 : Int32))]))
  refine own_Goes.st ?_ (fun _ k => XS.iload X2.here hx rfl (hb hby own_d_prog_46_method_5_22) rfl k)
  show own_Goes p.tables e below P (T2.setTop (mkF m 24 #[.val (.ref a), .val (.ref pa), .val (.double (FP.l2d ((((co + own_pick q0 q1 q2 q3 s0) + own_pick q0 q1 q2 q3 s1) + own_pick q0 q1 q2 q3 s2) + own_pick q0 q1 q2 q3 s3))), .second, .val (.ref b), .val (.int (4 : Int32)), .val (.int (4 : Int32)), .val (.int s3)] [(.int (4 : Int32)), (.int (4 : Int32))]))
  refine own_Goes.st ?_ (fun _ k => XS.icmpYes X2.here hx rfl (pc0 := 24) (pc' := 47) rfl (hb hby own_d_prog_46_method_5_24) rfl (flt (by decide : ¬ ((4 : Int32) < (4 : Int32)))).2.1 (by decide) (by decide) k)
  show own_Goes p.tables e below P (T2.setTop (mkF m 47 #[.val (.ref a), .val (.ref pa), .val (.double (FP.l2d ((((co + own_pick q0 q1 q2 q3 s0) + own_pick q0 q1 q2 q3 s1) + own_pick q0 q1 q2 q3 s2) + own_pick q0 q1 q2 q3 s3))), .second, .val (.ref b), .val (.int (4 : Int32)), .val (.int (4 : Int32)), .val (.int s3)] []))
  refine own_Goes.st ?_ (fun _ k => XS.dloadN X2.here hx rfl (hb hby own_d_prog_46_method_5_47) rfl k)
  show own_Goes p.tables e below P (T2.setTop (mkF m 48 #[.val (.ref a), .val (.ref pa), .val (.double (FP.l2d ((((co + own_pick q0 q1 q2 q3 s0) + own_pick q0 q1 q2 q3 s1) + own_pick q0 q1 q2 q3 s2) + own_pick q0 q1 q2 q3 s3))), .second, .val (.ref b), .val (.int (4 : Int32)), .val (.int (4 : Int32)), .val (.int s3)] [(.double (FP.l2d ((((co + own_pick q0 q1 q2 q3 s0) + own_pick q0 q1 q2 q3 s1) + own_pick q0 q1 q2 q3 s2) + own_pick q0 q1 q2 q3 s3)))]))
  obtain ⟨fs, hr, hrun, hended, hW, hsame⟩ := X2.leave (v := some (.double (FP.l2d ((((co + own_pick q0 q1 q2 q3 s0) + own_pick q0 q1 q2 q3 s1) + own_pick q0 q1 q2 q3 s2) + own_pick q0 q1 q2 q3 s3)))) (fun h => by rw [Bd.returns] at h; cases h)
  exact own_Goes.fin _ _ (retOut X2 hx (t := .double) Bd.returns rfl (Or.inr (Or.inr (Or.inl ⟨rfl, rfl, _, rfl⟩))) (hb hby own_d_prog_46_method_5_48) hr) (hPP _ _ ⟨hrun, hended, _, _, rfl, (by show Q_priced4 Z a pa b co k k2 q0 q1 q2 q3 s0 s1 s2 s3 h0 n0 _ T2.heap _; rw [e2]; exact ⟨rfl, N0, rfl⟩), ⟨_, rfl⟩, hW, hsame.mono (by decide) (by decide)⟩)
theorem own_ef_law (m : MethodId) (x0 : Int64) (x1 : Int32) (x2 : Int32) (x3 : Int32) (x4 : Int32) (x5 : Int32) : entryFrame m #[(.long x0), (.int x1), (.int x2), (.int x3), (.int x4), (.int x5)] maxLocals = mkF m 0 #[.val (.long x0), .second, .val (.int x1), .val (.int x2), .val (.int x3), .val (.int x4), .val (.int x5), .unset, .unset, .unset, .unset, .unset, .unset, .unset, .unset, .unset, .unset, .unset, .unset, .unset, .unset, .unset, .unset] [] := by first | (simp [entryFrame, mkF, argsToLocals, Value.category, maxLocals]; done) | rfl
theorem own_pn_com_example_pushmap_pushmap_schedule_ColumnPricedPinLaw : plainName "com/example/pushmap/pushmap/schedule/ColumnPricedPinLaw" = true := by first | (simp [plainName, overriddenIn]; done) | decide +kernel
theorem own_pd__28_I_5b_IJ_29_V : parseMethodDescriptor "(I[IJ)V" = some ⟨[.int, (.array .int), .long], none⟩ := by decide +kernel
theorem own_pd__28__5b_D_29_D : parseMethodDescriptor "([D)D" = some ⟨[(.array .double)], some .double⟩ := by decide +kernel
def Q_law (n0 : Nat) (v : Option Value) (L : List Loc) : Prop := v = some (.int 1) ∧ Fr n0 L
set_option maxRecDepth 65536 in
set_option maxHeartbeats 40000000 in
theorem rm_law (l : Launch) (Z : State) (a0 : Array Value) (hw : ∀ d ∈ tables_1, d.before a0 Z = true) (ws : List Jvm.Cond) (p0 : Int64) (p1 : Int32) (p2 : Int32) (p3 : Int32) (p4 : Int32) (p5 : Int32) (h0 : Heap) (n0 : Nat) (Z0 : n0 ≤ h0.size) :
    MetFree l x (head1 (Jvm.Cond.code x code maxLocals ret :: ws) room_1) (fun as_ U => as_ = #[(.long p0), (.int p1), (.int p2), (.int p3), (.int p4), (.int p5)] ∧ Z.Warmed39 U.vm ∧ U.heap = h0) (fun _ _ _ _ _ => True) (fun _ U o U' => ∃ v L, o = .returned v ∧ Q_law n0 v L ∧ FrameEnd U o U' L 16 128) := by
  refine MetFree.of_bodySF (plainFor_of_name own_pn_com_example_pushmap_pushmap_schedule_ColumnPricedPinLaw) hisR ?_
  intro p e s m args below meth c s₁ Bd hml0 hP hK
  obtain ⟨rfl, hZ, hh⟩ := hP
  have hx := Bd.exec
  have hby := Bd.bytes
  have hml : c.maxLocals = 23 := hml0
  have hown : s.vm.findClass "com/example/pushmap/pushmap/schedule/ColumnPricedPinLaw" = some m.cls := findClass_of_methodNamed Bd.named
  have hnm := (name_of_methodNamed Bd.named Bd.method).1
  have X0 : Stand p l e room_1 s m #[(.long p0), (.int p1), (.int p2), (.int p3), (.int p4), (.int p5)] below meth c s₁ [] 0 0 := Stand.of_body Bd
  have e0 : s₁.heap = h0 := by rw [← hh, Bd.state]; rfl
  have N0 := Fr.nil n0
  refine own_Goes.of ?_
  refine own_Goes.nm (fun P hPP => ?_)
  refine own_Goes.st ?_ (fun _ k => castTop (own_ef_law m p0 p1 p2 p3 p4 p5) k)
  show own_Goes p.tables e below P (s₁.setTop (mkF m 0 #[.val (.long p0), .second, .val (.int p1), .val (.int p2), .val (.int p3), .val (.int p4), .val (.int p5), .unset, .unset, .unset, .unset, .unset, .unset, .unset, .unset, .unset, .unset, .unset, .unset, .unset, .unset, .unset, .unset] []))
  refine own_Goes.st ?_ (fun _ k => XS.iloadN X0.here hx rfl (hb hby at_0) rfl k)
  refine own_Goes.st ?_ (fun _ k => XS.bipush X0.here hx rfl (hb hby at_1) k)
  refine own_Goes.st ?_ (fun _ k => XS.iand X0.here hx rfl (hb hby at_3) rfl k)
  refine own_Goes.st ?_ (fun _ k => XS.istore X0.here hx rfl (hb hby at_4) rfl (l' := #[.val (.long p0), .second, .val (.int p1), .val (.int p2), .val (.int p3), .val (.int p4), .val (.int p5), .val (.int (p1 &&& (15 : Int32))), .unset, .unset, .unset, .unset, .unset, .unset, .unset, .unset, .unset, .unset, .unset, .unset, .unset, .unset, .unset]) rfl k)
  show own_Goes p.tables e below P (s₁.setTop (mkF m 6 #[.val (.long p0), .second, .val (.int p1), .val (.int p2), .val (.int p3), .val (.int p4), .val (.int p5), .val (.int (p1 &&& (15 : Int32))), .unset, .unset, .unset, .unset, .unset, .unset, .unset, .unset, .unset, .unset, .unset, .unset, .unset, .unset, .unset] []))
  generalize hkk : (p1 &&& (15 : Int32)) = kk
  show own_Goes p.tables e below P (s₁.setTop (mkF m 6 #[.val (.long p0), .second, .val (.int p1), .val (.int p2), .val (.int p3), .val (.int p4), .val (.int p5), .val (.int kk), .unset, .unset, .unset, .unset, .unset, .unset, .unset, .unset, .unset, .unset, .unset, .unset, .unset, .unset, .unset] []))
  have T0n : ∀ (T1 : State) (lo1 : List Loc) (X1 : Stand p l e room_1 s m #[(.long p0), (.int p1), (.int p2), (.int p3), (.int p4), (.int p5)] below meth c T1 lo1 1 4) (h1 : Heap) (e1 : T1.heap = h1) (N1 : Fr n0 lo1) (Z1 : n0 ≤ h1.size) (sa : Addr) (ks : ClassId) (kk bb0 bb1 bb2 bb3 : Int32) (co : Int64) (_ : Arv Z h1 sa ks .int (0 : Int32) [] (.int 0)) (_ : co = own_ref co bb0 bb1 bb2 bb3 p2 p3 p4 p5), own_Goes p.tables e below P (T1.setTop (mkF m 170 #[.val (.long p0), .second, .val (.int p1), .val (.int p2), .val (.int p3), .val (.int p4), .val (.int p5), .val (.int kk), .val (.int bb0), .val (.int bb1), .val (.int bb2), .val (.int bb3), .val (.int (0 : Int32)), .val (.ref sa), .val (.int (0 : Int32)), .val (.long co), .second, .unset, .unset, .unset, .unset, .unset, .unset] [])) := by
    intro T1 lo1 X1 h1 e1 N1 Z1 sa ks kk bb0 bb1 bb2 bb3 co Vs hsum
    refine own_Goes.st ?_ (fun _ k => XS.iconst X1.here hx rfl (hb hby at_170) k)
    obtain ⟨T2, h2, k2, X2, e2, E2, A2, J2, st2⟩ := newPE X1 hx hZ (hw _ (List.mem_of_getElem? (i := 1) rfl)) e1 (g := (mkF m 171 #[.val (.long p0), .second, .val (.int p1), .val (.int p2), .val (.int p3), .val (.int p4), .val (.int p5), .val (.int kk), .val (.int bb0), .val (.int bb1), .val (.int bb2), .val (.int bb3), .val (.int (0 : Int32)), .val (.ref sa), .val (.int (0 : Int32)), .val (.long co), .second, .unset, .unset, .unset, .unset, .unset, .unset] [(.int (4 : Int32))])) rfl (hb hby at_171) rfl (by decide) (cap := 4) (by decide) (by decide) (by decide) (by decide) (ad := "[D") rfl
    obtain ⟨b2, g2⟩ : ∃ z, z = h1.size := ⟨_, rfl⟩
    rw [← g2] at A2 J2 st2
    have ne3 : sa ≠ b2 := Nat.ne_of_lt (Nat.lt_of_lt_of_eq Vs.lt g2.symm)
    have ge_b2 : n0 ≤ b2 := Nat.le_trans Z1 (Nat.le_of_eq g2.symm)
    refine own_Goes.st ?_ st2
    have Z4 : n0 ≤ h2.size := Nat.le_trans Z1 E2.1
    have V5 : Arv Z h2 b2 k2 .double (4 : Int32) [(.double (0 : UInt64)), (.double (0 : UInt64)), (.double (0 : UInt64)), (.double (0 : UInt64))] (.double 0) := (Arv.new A2 (by decide)).pad (pad_rep [] _ 4)
    show own_Goes p.tables e below P (T2.setTop (mkF m 173 #[.val (.long p0), .second, .val (.int p1), .val (.int p2), .val (.int p3), .val (.int p4), .val (.int p5), .val (.int kk), .val (.int bb0), .val (.int bb1), .val (.int bb2), .val (.int bb3), .val (.int (0 : Int32)), .val (.ref sa), .val (.int (0 : Int32)), .val (.long co), .second, .unset, .unset, .unset, .unset, .unset, .unset] [(.ref b2)]))
    refine own_Goes.st ?_ (fun _ k => XS.astore X2.here hx rfl (hb hby at_173) rfl rfl (l' := #[.val (.long p0), .second, .val (.int p1), .val (.int p2), .val (.int p3), .val (.int p4), .val (.int p5), .val (.int kk), .val (.int bb0), .val (.int bb1), .val (.int bb2), .val (.int bb3), .val (.int (0 : Int32)), .val (.ref sa), .val (.int (0 : Int32)), .val (.long co), .second, .val (.ref b2), .unset, .unset, .unset, .unset, .unset]) rfl k)
    refine own_Goes.st ?_ (fun _ k => XS.aload X2.here hx rfl (hb hby at_175) rfl rfl k)
    refine own_Goes.st ?_ (fun _ k => XS.iconst X2.here hx rfl (hb hby at_177) k)
    refine own_Goes.st ?_ (fun _ k => XS.iloadN X2.here hx rfl (hb hby at_178) rfl k)
    refine own_Goes.st ?_ (fun _ k => XS.i2dS X2.here hx rfl (hb hby at_179) rfl rfl k)
    have Vc6 := V5
    obtain ⟨cl6, Ar6, qc6, S6, Nn6, Hs6, Gs6⟩ := Vc6
    have hin7 : ¬ ((0 : Int32) < 0 ∨ cl6.slots.size ≤ ((0 : Int32)).toNatClampNeg) := inb_of S6 ⟨by decide, by decide⟩
    obtain ⟨T7, h7, X7, e7, W7, st7⟩ := stD X2 hx hZ e2 Ar6 (j := (0 : Int32)) hin7 (g := (mkF m 180 #[.val (.long p0), .second, .val (.int p1), .val (.int p2), .val (.int p3), .val (.int p4), .val (.int p5), .val (.int kk), .val (.int bb0), .val (.int bb1), .val (.int bb2), .val (.int bb3), .val (.int (0 : Int32)), .val (.ref sa), .val (.int (0 : Int32)), .val (.long co), .second, .val (.ref b2), .unset, .unset, .unset, .unset, .unset] [(.double (FP.i2d p2)), (.int (0 : Int32)), (.ref b2)])) rfl rfl (hb hby at_180)
    refine own_Goes.st ?_ st7
    have V8 : Arv Z h7 b2 k2 .double (4 : Int32) [(.double (FP.i2d p2)), (.double (0 : UInt64)), (.double (0 : UInt64)), (.double (0 : UInt64))] (.double 0) := Arv.set Ar6 qc6 S6 Nn6 Hs6 Gs6 rfl W7 0 rfl (Nat.le_of_ble_eq_true rfl)
    have Z9 : n0 ≤ h7.size := by rw [W7.size]; exact Z4
    have N10 := Fr.snoc X7 N1 ge_b2
    show own_Goes p.tables e below P (T7.setTop (mkF m 181 #[.val (.long p0), .second, .val (.int p1), .val (.int p2), .val (.int p3), .val (.int p4), .val (.int p5), .val (.int kk), .val (.int bb0), .val (.int bb1), .val (.int bb2), .val (.int bb3), .val (.int (0 : Int32)), .val (.ref sa), .val (.int (0 : Int32)), .val (.long co), .second, .val (.ref b2), .unset, .unset, .unset, .unset, .unset] []))
    refine own_Goes.st ?_ (fun _ k => XS.aload X7.here hx rfl (hb hby at_181) rfl rfl k)
    refine own_Goes.st ?_ (fun _ k => XS.iconst X7.here hx rfl (hb hby at_183) k)
    refine own_Goes.st ?_ (fun _ k => XS.iload X7.here hx rfl (hb hby at_184) rfl k)
    refine own_Goes.st ?_ (fun _ k => XS.i2dS X7.here hx rfl (hb hby at_186) rfl rfl k)
    have Vc11 := V8
    obtain ⟨cl11, Ar11, qc11, S11, Nn11, Hs11, Gs11⟩ := Vc11
    have hin12 : ¬ ((1 : Int32) < 0 ∨ cl11.slots.size ≤ ((1 : Int32)).toNatClampNeg) := inb_of S11 ⟨by decide, by decide⟩
    obtain ⟨T12, h12, X12, e12, W12, st12⟩ := stD X7 hx hZ e7 Ar11 (j := (1 : Int32)) hin12 (g := (mkF m 187 #[.val (.long p0), .second, .val (.int p1), .val (.int p2), .val (.int p3), .val (.int p4), .val (.int p5), .val (.int kk), .val (.int bb0), .val (.int bb1), .val (.int bb2), .val (.int bb3), .val (.int (0 : Int32)), .val (.ref sa), .val (.int (0 : Int32)), .val (.long co), .second, .val (.ref b2), .unset, .unset, .unset, .unset, .unset] [(.double (FP.i2d p3)), (.int (1 : Int32)), (.ref b2)])) rfl rfl (hb hby at_187)
    refine own_Goes.st ?_ st12
    have V13 : Arv Z h12 b2 k2 .double (4 : Int32) [(.double (FP.i2d p2)), (.double (FP.i2d p3)), (.double (0 : UInt64)), (.double (0 : UInt64))] (.double 0) := Arv.set Ar11 qc11 S11 Nn11 Hs11 Gs11 rfl W12 1 rfl (Nat.le_of_ble_eq_true rfl)
    have Z14 : n0 ≤ h12.size := by rw [W12.size]; exact Z9
    have N15 := Fr.snoc X12 N10 ge_b2
    show own_Goes p.tables e below P (T12.setTop (mkF m 188 #[.val (.long p0), .second, .val (.int p1), .val (.int p2), .val (.int p3), .val (.int p4), .val (.int p5), .val (.int kk), .val (.int bb0), .val (.int bb1), .val (.int bb2), .val (.int bb3), .val (.int (0 : Int32)), .val (.ref sa), .val (.int (0 : Int32)), .val (.long co), .second, .val (.ref b2), .unset, .unset, .unset, .unset, .unset] []))
    refine own_Goes.st ?_ (fun _ k => XS.aload X12.here hx rfl (hb hby at_188) rfl rfl k)
    refine own_Goes.st ?_ (fun _ k => XS.iconst X12.here hx rfl (hb hby at_190) k)
    refine own_Goes.st ?_ (fun _ k => XS.iload X12.here hx rfl (hb hby at_191) rfl k)
    refine own_Goes.st ?_ (fun _ k => XS.i2dS X12.here hx rfl (hb hby at_193) rfl rfl k)
    have Vc16 := V13
    obtain ⟨cl16, Ar16, qc16, S16, Nn16, Hs16, Gs16⟩ := Vc16
    have hin17 : ¬ ((2 : Int32) < 0 ∨ cl16.slots.size ≤ ((2 : Int32)).toNatClampNeg) := inb_of S16 ⟨by decide, by decide⟩
    obtain ⟨T17, h17, X17, e17, W17, st17⟩ := stD X12 hx hZ e12 Ar16 (j := (2 : Int32)) hin17 (g := (mkF m 194 #[.val (.long p0), .second, .val (.int p1), .val (.int p2), .val (.int p3), .val (.int p4), .val (.int p5), .val (.int kk), .val (.int bb0), .val (.int bb1), .val (.int bb2), .val (.int bb3), .val (.int (0 : Int32)), .val (.ref sa), .val (.int (0 : Int32)), .val (.long co), .second, .val (.ref b2), .unset, .unset, .unset, .unset, .unset] [(.double (FP.i2d p4)), (.int (2 : Int32)), (.ref b2)])) rfl rfl (hb hby at_194)
    refine own_Goes.st ?_ st17
    have V18 : Arv Z h17 b2 k2 .double (4 : Int32) [(.double (FP.i2d p2)), (.double (FP.i2d p3)), (.double (FP.i2d p4)), (.double (0 : UInt64))] (.double 0) := Arv.set Ar16 qc16 S16 Nn16 Hs16 Gs16 rfl W17 2 rfl (Nat.le_of_ble_eq_true rfl)
    have Z19 : n0 ≤ h17.size := by rw [W17.size]; exact Z14
    have N20 := Fr.snoc X17 N15 ge_b2
    show own_Goes p.tables e below P (T17.setTop (mkF m 195 #[.val (.long p0), .second, .val (.int p1), .val (.int p2), .val (.int p3), .val (.int p4), .val (.int p5), .val (.int kk), .val (.int bb0), .val (.int bb1), .val (.int bb2), .val (.int bb3), .val (.int (0 : Int32)), .val (.ref sa), .val (.int (0 : Int32)), .val (.long co), .second, .val (.ref b2), .unset, .unset, .unset, .unset, .unset] []))
    refine own_Goes.st ?_ (fun _ k => XS.aload X17.here hx rfl (hb hby at_195) rfl rfl k)
    refine own_Goes.st ?_ (fun _ k => XS.iconst X17.here hx rfl (hb hby at_197) k)
    refine own_Goes.st ?_ (fun _ k => XS.iload X17.here hx rfl (hb hby at_198) rfl k)
    refine own_Goes.st ?_ (fun _ k => XS.i2dS X17.here hx rfl (hb hby at_200) rfl rfl k)
    have Vc21 := V18
    obtain ⟨cl21, Ar21, qc21, S21, Nn21, Hs21, Gs21⟩ := Vc21
    have hin22 : ¬ ((3 : Int32) < 0 ∨ cl21.slots.size ≤ ((3 : Int32)).toNatClampNeg) := inb_of S21 ⟨by decide, by decide⟩
    obtain ⟨T22, h22, X22, e22, W22, st22⟩ := stD X17 hx hZ e17 Ar21 (j := (3 : Int32)) hin22 (g := (mkF m 201 #[.val (.long p0), .second, .val (.int p1), .val (.int p2), .val (.int p3), .val (.int p4), .val (.int p5), .val (.int kk), .val (.int bb0), .val (.int bb1), .val (.int bb2), .val (.int bb3), .val (.int (0 : Int32)), .val (.ref sa), .val (.int (0 : Int32)), .val (.long co), .second, .val (.ref b2), .unset, .unset, .unset, .unset, .unset] [(.double (FP.i2d p5)), (.int (3 : Int32)), (.ref b2)])) rfl rfl (hb hby at_201)
    refine own_Goes.st ?_ st22
    have V23 : Arv Z h22 b2 k2 .double (4 : Int32) [(.double (FP.i2d p2)), (.double (FP.i2d p3)), (.double (FP.i2d p4)), (.double (FP.i2d p5))] (.double 0) := Arv.set Ar21 qc21 S21 Nn21 Hs21 Gs21 rfl W22 3 rfl (Nat.le_of_ble_eq_true rfl)
    have Z24 : n0 ≤ h22.size := by rw [W22.size]; exact Z19
    have N25 := Fr.snoc X22 N20 ge_b2
    show own_Goes p.tables e below P (T22.setTop (mkF m 202 #[.val (.long p0), .second, .val (.int p1), .val (.int p2), .val (.int p3), .val (.int p4), .val (.int p5), .val (.int kk), .val (.int bb0), .val (.int bb1), .val (.int bb2), .val (.int bb3), .val (.int (0 : Int32)), .val (.ref sa), .val (.int (0 : Int32)), .val (.long co), .second, .val (.ref b2), .unset, .unset, .unset, .unset, .unset] []))
    obtain ⟨T26, h26, X26, e26, E26, A26, D26, -, st26⟩ := newO X22 hx hZ hown (hw _ (List.mem_of_getElem? (i := 2) rfl)) (hw _ (List.mem_of_getElem? (i := 3) rfl)) (hw _ (List.mem_of_getElem? (i := 4) rfl)) e22 (g := (mkF m 202 #[.val (.long p0), .second, .val (.int p1), .val (.int p2), .val (.int p3), .val (.int p4), .val (.int p5), .val (.int kk), .val (.int bb0), .val (.int bb1), .val (.int bb2), .val (.int bb3), .val (.int (0 : Int32)), .val (.ref sa), .val (.int (0 : Int32)), .val (.long co), .second, .val (.ref b2), .unset, .unset, .unset, .unset, .unset] [])) rfl (hb hby at_202) (by decide) (by decide)
    obtain ⟨a26, g26⟩ : ∃ z, z = h22.size := ⟨_, rfl⟩
    rw [← g26] at A26 D26 st26
    have F27 : Arv Z h22 sa ks .int (0 : Int32) [] (.int 0) := (((((Vs.ext E2).other W7 ne3).other W12 ne3).other W17 ne3).other W22 ne3)
    have ne28 : sa ≠ a26 := Nat.ne_of_lt (Nat.lt_of_lt_of_eq F27.lt g26.symm)
    have F29 : Exa Z h22 b2 "[D" := ((((J2.wr W7).wr W12).wr W17).wr W22)
    have ne30 : b2 ≠ a26 := Nat.ne_of_lt (Nat.lt_of_lt_of_eq F29.lt g26.symm)
    have ge_a26 : n0 ≤ a26 := Nat.le_trans Z24 (Nat.le_of_eq g26.symm)
    refine own_Goes.st ?_ st26
    have Z31 : n0 ≤ h26.size := Nat.le_trans Z24 E26.1
    have F32 : Fld Z h26 a26 "com/example/pushmap/pushmap/schedule/Column" "object" "I" (.int (0 : Int32)) := D26 (Or.inr (hw _ (List.mem_of_getElem? (i := 12) rfl))) (ty := .int) (by decide)
    have F33 : Fld Z h26 a26 "com/example/pushmap/pushmap/schedule/Column" "slots" "[I" .null := D26 (Or.inr (hw _ (List.mem_of_getElem? (i := 14) rfl))) (ty := (.array .int)) (by decide)
    have F34 : Fld Z h26 a26 "com/example/pushmap/pushmap/schedule/Column" "cost" "J" (.long (0 : Int64)) := D26 (Or.inr (hw _ (List.mem_of_getElem? (i := 16) rfl))) (ty := .long) (by decide)
    show own_Goes p.tables e below P (T26.setTop (mkF m 205 #[.val (.long p0), .second, .val (.int p1), .val (.int p2), .val (.int p3), .val (.int p4), .val (.int p5), .val (.int kk), .val (.int bb0), .val (.int bb1), .val (.int bb2), .val (.int bb3), .val (.int (0 : Int32)), .val (.ref sa), .val (.int (0 : Int32)), .val (.long co), .second, .val (.ref b2), .unset, .unset, .unset, .unset, .unset] [(.ref a26)]))
    refine own_Goes.st ?_ (fun _ k => XS.dup X26.here hx rfl (hb hby at_205) rfl rfl k)
    refine own_Goes.st ?_ (fun _ k => XS.iloadN X26.here hx rfl (hb hby at_206) rfl k)
    refine own_Goes.st ?_ (fun _ k => XS.iconst X26.here hx rfl (hb hby at_207) k)
    refine own_Goes.st ?_ (fun _ k => XS.ishr X26.here hx rfl (hb hby at_208) rfl k)
    refine own_Goes.st ?_ (fun _ k => XS.aload X26.here hx rfl (hb hby at_209) rfl rfl k)
    refine own_Goes.st ?_ (fun _ k => XS.lload X26.here hx rfl (hb hby at_211) rfl k)
    show own_Goes p.tables e below P (T26.setTop (mkF m 213 #[.val (.long p0), .second, .val (.int p1), .val (.int p2), .val (.int p3), .val (.int p4), .val (.int p5), .val (.int kk), .val (.int bb0), .val (.int bb1), .val (.int bb2), .val (.int bb3), .val (.int (0 : Int32)), .val (.ref sa), .val (.int (0 : Int32)), .val (.long co), .second, .val (.ref b2), .unset, .unset, .unset, .unset, .unset] [(.long co), (.ref sa), (.int (p1 >>> ((4 : Int32) &&& 31))), (.ref a26), (.ref a26)]))
    obtain ⟨_, _, ⟨T35, L35, k35, n35⟩, -, X35, ⟨Lc35, hQ35, l35, y35, z35⟩, st35⟩ := X26.specialBack hx (y := (⟨"com/example/pushmap/pushmap/schedule/Column", "<init>", "(I[IJ)V"⟩ : MethodName)) rfl hown (mvT hZ (hw _ (List.mem_of_getElem? (i := 5) rfl))) (mvT hZ (hw _ (List.mem_of_getElem? (i := 6) rfl))) (mvT hZ (hw _ (List.mem_of_getElem? (i := 7) rfl))) (by decide) (backOf (W := 1) (rm_new l Z a0 hw [] a26 (p1 >>> ((4 : Int32) &&& 31)) sa co (.int (0 : Int32)) .null (.long (0 : Int64)) h26 n0 Z31 A26 F32 F33 F34 ge_a26) hZ (hw _ (List.mem_of_getElem? (i := 7) rfl)) (hw _ (List.mem_of_getElem? (i := 4) rfl)) (by decide) (by decide)) (g := (mkF m 213 #[.val (.long p0), .second, .val (.int p1), .val (.int p2), .val (.int p3), .val (.int p4), .val (.int p5), .val (.int kk), .val (.int bb0), .val (.int bb1), .val (.int bb2), .val (.int bb3), .val (.int (0 : Int32)), .val (.ref sa), .val (.int (0 : Int32)), .val (.long co), .second, .val (.ref b2), .unset, .unset, .unset, .unset, .unset] [(.long co), (.ref sa), (.int (p1 >>> ((4 : Int32) &&& 31))), (.ref a26), (.ref a26)])) rfl (by rw [hml]; rfl) (Steps.refl _) (a := a26) (argsL := [(.int (p1 >>> ((4 : Int32) &&& 31))), (.ref sa), (.long co)]) (rest := [(.ref a26)]) (lenOf own_pd__28_I_5b_IJ_29_V rfl) rfl (by show 2 * 0 + _ ≤ _; exact Nat.le_of_eq rfl) (hb hby at_213) (fun _ _ => ⟨rfl, e26, (by decide : 3 + 0 ≤ _), (by decide : 11 + 0 ≤ _)⟩)
    dsimp only [Pt.U, Pt.locs, Pt.cells, Pt.slots] at X35 l35 y35 z35 st35 hQ35
    rw [l35, y35, z35] at X35
    obtain ⟨rfl, Nq35, K35, f36, f37, f38⟩ := hQ35
    have N35 := Fr.app N25 Nq35
    refine own_Goes.tr st35 ?_
    have Z39 : n0 ≤ T35.heap.size := Nat.le_trans Z31 K35.1
    show own_Goes p.tables e below P (T35.setTop (mkF m 216 #[.val (.long p0), .second, .val (.int p1), .val (.int p2), .val (.int p3), .val (.int p4), .val (.int p5), .val (.int kk), .val (.int bb0), .val (.int bb1), .val (.int bb2), .val (.int bb3), .val (.int (0 : Int32)), .val (.ref sa), .val (.int (0 : Int32)), .val (.long co), .second, .val (.ref b2), .unset, .unset, .unset, .unset, .unset] [(.ref a26)]))
    refine own_Goes.st ?_ (fun _ k => XS.astore X35.here hx rfl (hb hby at_216) rfl rfl (l' := #[.val (.long p0), .second, .val (.int p1), .val (.int p2), .val (.int p3), .val (.int p4), .val (.int p5), .val (.int kk), .val (.int bb0), .val (.int bb1), .val (.int bb2), .val (.int bb3), .val (.int (0 : Int32)), .val (.ref sa), .val (.int (0 : Int32)), .val (.long co), .second, .val (.ref b2), .val (.ref a26), .unset, .unset, .unset, .unset]) rfl k)
    refine own_Goes.st ?_ (fun _ k => XS.aload X35.here hx rfl (hb hby at_218) rfl rfl k)
    refine own_Goes.st ?_ (fun _ k => XS.aload X35.here hx rfl (hb hby at_220) rfl rfl k)
    have F40 : Arv Z T35.heap sa ks .int (0 : Int32) [] (.int 0) := ((F27.ext E26).keep K35 (ninS ne28 nin0))
    have F41 : Arv Z T35.heap b2 k2 .double (4 : Int32) [(.double (FP.i2d p2)), (.double (FP.i2d p3)), (.double (FP.i2d p4)), (.double (FP.i2d p5))] (.double 0) := ((V23.ext E26).keep K35 (ninS ne30 nin0))
    obtain ⟨cq42, kq42, q42a, q42b, q42c⟩ := isOf hZ rfl f36
    obtain ⟨_, _, ⟨T42, L42, k42, n42⟩, -, X42, ⟨Lc42, hQ42, l42, y42, z42⟩, st42⟩ := X35.virtualBack hx (y := (⟨"com/example/pushmap/pushmap/schedule/Column", "priced", "([D)D"⟩ : MethodName)) (z := (⟨"com/example/pushmap/pushmap/schedule/Column", "priced", "([D)D"⟩ : MethodName)) hown (mvT hZ (hw _ (List.mem_of_getElem? (i := 17) rfl))) (mvT hZ (hw _ (List.mem_of_getElem? (i := 18) rfl))) (notFace_of_selects (args := #[]) (mvT hZ (hw _ (List.mem_of_getElem? (i := 20) rfl)))) (mvT hZ (hw _ (List.mem_of_getElem? (i := 20) rfl))) (mvT hZ (hw _ (List.mem_of_getElem? (i := 19) rfl))) (by decide) (backOf (W := 0) (rm_priced0 l Z a0 hw [] a26 b2 sa co ks k2 p2 p3 p4 p5 T35.heap n0 Z39 f37 f38 F40 F41) hZ (hw _ (List.mem_of_getElem? (i := 21) rfl)) (hw _ (List.mem_of_getElem? (i := 4) rfl)) (by decide) (by decide)) q42a q42c (g := (mkF m 222 #[.val (.long p0), .second, .val (.int p1), .val (.int p2), .val (.int p3), .val (.int p4), .val (.int p5), .val (.int kk), .val (.int bb0), .val (.int bb1), .val (.int bb2), .val (.int bb3), .val (.int (0 : Int32)), .val (.ref sa), .val (.int (0 : Int32)), .val (.long co), .second, .val (.ref b2), .val (.ref a26), .unset, .unset, .unset, .unset] [(.ref b2), (.ref a26)])) rfl (by rw [hml]; rfl) (Steps.refl _) (argsL := [(.ref b2)]) (rest := []) (lenOf own_pd__28__5b_D_29_D rfl) rfl (by show 2 * 0 + _ ≤ _; exact Nat.le_of_eq rfl) (hb hby at_222) (fun _ _ => ⟨rfl, rfl, (by decide : 3 + 0 ≤ _), (by decide : 11 + 0 ≤ _)⟩)
    dsimp only [Pt.U, Pt.locs, Pt.cells, Pt.slots] at X42 l42 y42 z42 st42 hQ42
    rw [l42, y42, z42] at X42
    obtain ⟨rfl, Nq42, e42⟩ := hQ42
    have N42 := Fr.app N35 Nq42
    refine own_Goes.tr st42 ?_
    show own_Goes p.tables e below P (T42.setTop (mkF m 225 #[.val (.long p0), .second, .val (.int p1), .val (.int p2), .val (.int p3), .val (.int p4), .val (.int p5), .val (.int kk), .val (.int bb0), .val (.int bb1), .val (.int bb2), .val (.int bb3), .val (.int (0 : Int32)), .val (.ref sa), .val (.int (0 : Int32)), .val (.long co), .second, .val (.ref b2), .val (.ref a26), .unset, .unset, .unset, .unset] [(.double (FP.l2d co))]))
    refine own_Goes.st ?_ (fun _ k => XS.dstore X42.here hx rfl (hb hby at_225) rfl (l' := #[.val (.long p0), .second, .val (.int p1), .val (.int p2), .val (.int p3), .val (.int p4), .val (.int p5), .val (.int kk), .val (.int bb0), .val (.int bb1), .val (.int bb2), .val (.int bb3), .val (.int (0 : Int32)), .val (.ref sa), .val (.int (0 : Int32)), .val (.long co), .second, .val (.ref b2), .val (.ref a26), .val (.double (FP.l2d co)), .second, .unset, .unset]) rfl k)
    refine own_Goes.st ?_ (fun _ k => XS.lload X42.here hx rfl (hb hby at_227) rfl k)
    refine own_Goes.st ?_ (fun _ k => XS.lstore X42.here hx rfl (hb hby at_229) rfl (l' := #[.val (.long p0), .second, .val (.int p1), .val (.int p2), .val (.int p3), .val (.int p4), .val (.int p5), .val (.int kk), .val (.int bb0), .val (.int bb1), .val (.int bb2), .val (.int bb3), .val (.int (0 : Int32)), .val (.ref sa), .val (.int (0 : Int32)), .val (.long co), .second, .val (.ref b2), .val (.ref a26), .val (.double (FP.l2d co)), .second, .val (.long co), .second]) rfl k)
    have J4 : ∀ (rr : Int64) (_ : rr = (own_one bb3 (own_one bb2 (own_one bb1 (own_one bb0 co p2) p3) p4) p5)), own_Goes p.tables e below P (T42.setTop (mkF m 282 #[.val (.long p0), .second, .val (.int p1), .val (.int p2), .val (.int p3), .val (.int p4), .val (.int p5), .val (.int kk), .val (.int bb0), .val (.int bb1), .val (.int bb2), .val (.int bb3), .val (.int (0 : Int32)), .val (.ref sa), .val (.int (0 : Int32)), .val (.long co), .second, .val (.ref b2), .val (.ref a26), .val (.double (FP.l2d co)), .second, .val (.long rr), .second] [])) := by
      intro rr hrr
      refine own_Goes.st ?_ (fun _ k => XS.dload X42.here hx rfl (hb hby at_282) rfl k)
      refine own_Goes.st ?_ (fun _ k => XS.lload X42.here hx rfl (hb hby at_284) rfl k)
      refine own_Goes.st ?_ (fun _ k => XS.l2dS X42.here hx rfl (hb hby at_286) rfl rfl k)
      show own_Goes p.tables e below P (T42.setTop (mkF m 287 #[.val (.long p0), .second, .val (.int p1), .val (.int p2), .val (.int p3), .val (.int p4), .val (.int p5), .val (.int kk), .val (.int bb0), .val (.int bb1), .val (.int bb2), .val (.int bb3), .val (.int (0 : Int32)), .val (.ref sa), .val (.int (0 : Int32)), .val (.long co), .second, .val (.ref b2), .val (.ref a26), .val (.double (FP.l2d co)), .second, .val (.long rr), .second] [(.double (FP.l2d rr)), (.double (FP.l2d co))]))
      refine own_Goes.st ?_ (fun _ k => XS.dcmpS X42.here hx rfl (hb hby at_287) rfl rfl k)
      show own_Goes p.tables e below P (T42.setTop (mkF m 288 #[.val (.long p0), .second, .val (.int p1), .val (.int p2), .val (.int p3), .val (.int p4), .val (.int p5), .val (.int kk), .val (.int bb0), .val (.int bb1), .val (.int bb2), .val (.int bb3), .val (.int (0 : Int32)), .val (.ref sa), .val (.int (0 : Int32)), .val (.long co), .second, .val (.ref b2), .val (.ref a26), .val (.double (FP.l2d co)), .second, .val (.long rr), .second] [(.int (cmpValue (FP.dcmp (FP.l2d co) (FP.l2d rr)) .l))]))
      rw [own_cmp (hsum.trans hrr.symm) .l]
      show own_Goes p.tables e below P (T42.setTop (mkF m 288 #[.val (.long p0), .second, .val (.int p1), .val (.int p2), .val (.int p3), .val (.int p4), .val (.int p5), .val (.int kk), .val (.int bb0), .val (.int bb1), .val (.int bb2), .val (.int bb3), .val (.int (0 : Int32)), .val (.ref sa), .val (.int (0 : Int32)), .val (.long co), .second, .val (.ref b2), .val (.ref a26), .val (.double (FP.l2d co)), .second, .val (.long rr), .second] [(.int (0 : Int32))]))
      refine own_Goes.st ?_ (fun _ k => XS.ifNo X42.here hx rfl (hb hby at_288) rfl ((if0 _ _).trans (teq (by decide : (0 : Int32) = (0 : Int32))).2) k)
      refine own_Goes.st ?_ (fun _ k => XS.iconst X42.here hx rfl (hb hby at_291) k)
      refine own_Goes.st ?_ (fun _ k => XS.goto X42.here hx rfl (pc0 := 292) (pc' := 296) rfl (hb hby at_292) (by decide) (by decide) k)
      obtain ⟨fs, hr, hrun, hended, hW, hsame⟩ := X42.leave (v := some (.int (1 : Int32))) (fun h => by rw [Bd.returns] at h; cases h)
      exact own_Goes.fin _ _ (retOut X42 hx (t := .boolean) Bd.returns rfl (Or.inl ⟨rfl, Or.inr (Or.inl rfl), _, rfl⟩) (hb hby at_296) hr) (hPP _ _ ⟨hrun, hended, _, _, rfl, (by show Q_law n0 _ _; exact ⟨rfl, N42⟩), ⟨_, rfl⟩, hW, hsame.mono (by decide) (by decide)⟩)
    have J3 : ∀ (rr : Int64) (_ : rr = (own_one bb2 (own_one bb1 (own_one bb0 co p2) p3) p4)), own_Goes p.tables e below P (T42.setTop (mkF m 269 #[.val (.long p0), .second, .val (.int p1), .val (.int p2), .val (.int p3), .val (.int p4), .val (.int p5), .val (.int kk), .val (.int bb0), .val (.int bb1), .val (.int bb2), .val (.int bb3), .val (.int (0 : Int32)), .val (.ref sa), .val (.int (0 : Int32)), .val (.long co), .second, .val (.ref b2), .val (.ref a26), .val (.double (FP.l2d co)), .second, .val (.long rr), .second] [])) := by
      intro rr hrr
      refine own_Goes.st ?_ (fun _ k => XS.iload X42.here hx rfl (hb hby at_269) rfl k)
      by_cases hb3 : bb3 = (0 : Int32)
      · skip
        refine own_Goes.st ?_ (fun _ k => XS.ifYes X42.here hx rfl (pc0 := 271) (pc' := 282) rfl (hb hby at_271) rfl ((if0 _ _).trans (teq hb3).1) (by decide) (by decide) k)
        exact (J4 _ (by rw [own_one, if_pos hb3]; exact hrr))
      · skip
        refine own_Goes.st ?_ (fun _ k => XS.ifNo X42.here hx rfl (hb hby at_271) rfl ((if0 _ _).trans (feq hb3).1) k)
        refine own_Goes.st ?_ (fun _ k => XS.lload X42.here hx rfl (hb hby at_274) rfl k)
        show own_Goes p.tables e below P (T42.setTop (mkF m 276 #[.val (.long p0), .second, .val (.int p1), .val (.int p2), .val (.int p3), .val (.int p4), .val (.int p5), .val (.int kk), .val (.int bb0), .val (.int bb1), .val (.int bb2), .val (.int bb3), .val (.int (0 : Int32)), .val (.ref sa), .val (.int (0 : Int32)), .val (.long co), .second, .val (.ref b2), .val (.ref a26), .val (.double (FP.l2d co)), .second, .val (.long rr), .second] [(.long rr)]))
        refine own_Goes.st ?_ (fun _ k => XS.iload X42.here hx rfl (hb hby at_276) rfl k)
        refine own_Goes.st ?_ (fun _ k => XS.i2l X42.here hx rfl (hb hby at_278) rfl k)
        refine own_Goes.st ?_ (fun _ k => XS.ladd X42.here hx rfl (hb hby at_279) rfl k)
        refine own_Goes.st ?_ (fun _ k => XS.lstore X42.here hx rfl (hb hby at_280) rfl (l' := #[.val (.long p0), .second, .val (.int p1), .val (.int p2), .val (.int p3), .val (.int p4), .val (.int p5), .val (.int kk), .val (.int bb0), .val (.int bb1), .val (.int bb2), .val (.int bb3), .val (.int (0 : Int32)), .val (.ref sa), .val (.int (0 : Int32)), .val (.long co), .second, .val (.ref b2), .val (.ref a26), .val (.double (FP.l2d co)), .second, .val (.long (rr + ((p5).toInt64))), .second]) rfl k)
        exact (J4 _ (by rw [own_one, if_neg hb3]; rw [hrr]))
    have J2 : ∀ (rr : Int64) (_ : rr = (own_one bb1 (own_one bb0 co p2) p3)), own_Goes p.tables e below P (T42.setTop (mkF m 256 #[.val (.long p0), .second, .val (.int p1), .val (.int p2), .val (.int p3), .val (.int p4), .val (.int p5), .val (.int kk), .val (.int bb0), .val (.int bb1), .val (.int bb2), .val (.int bb3), .val (.int (0 : Int32)), .val (.ref sa), .val (.int (0 : Int32)), .val (.long co), .second, .val (.ref b2), .val (.ref a26), .val (.double (FP.l2d co)), .second, .val (.long rr), .second] [])) := by
      intro rr hrr
      refine own_Goes.st ?_ (fun _ k => XS.iload X42.here hx rfl (hb hby at_256) rfl k)
      by_cases hb2 : bb2 = (0 : Int32)
      · skip
        refine own_Goes.st ?_ (fun _ k => XS.ifYes X42.here hx rfl (pc0 := 258) (pc' := 269) rfl (hb hby at_258) rfl ((if0 _ _).trans (teq hb2).1) (by decide) (by decide) k)
        exact (J3 _ (by rw [own_one, if_pos hb2]; exact hrr))
      · skip
        refine own_Goes.st ?_ (fun _ k => XS.ifNo X42.here hx rfl (hb hby at_258) rfl ((if0 _ _).trans (feq hb2).1) k)
        refine own_Goes.st ?_ (fun _ k => XS.lload X42.here hx rfl (hb hby at_261) rfl k)
        show own_Goes p.tables e below P (T42.setTop (mkF m 263 #[.val (.long p0), .second, .val (.int p1), .val (.int p2), .val (.int p3), .val (.int p4), .val (.int p5), .val (.int kk), .val (.int bb0), .val (.int bb1), .val (.int bb2), .val (.int bb3), .val (.int (0 : Int32)), .val (.ref sa), .val (.int (0 : Int32)), .val (.long co), .second, .val (.ref b2), .val (.ref a26), .val (.double (FP.l2d co)), .second, .val (.long rr), .second] [(.long rr)]))
        refine own_Goes.st ?_ (fun _ k => XS.iload X42.here hx rfl (hb hby at_263) rfl k)
        refine own_Goes.st ?_ (fun _ k => XS.i2l X42.here hx rfl (hb hby at_265) rfl k)
        refine own_Goes.st ?_ (fun _ k => XS.ladd X42.here hx rfl (hb hby at_266) rfl k)
        refine own_Goes.st ?_ (fun _ k => XS.lstore X42.here hx rfl (hb hby at_267) rfl (l' := #[.val (.long p0), .second, .val (.int p1), .val (.int p2), .val (.int p3), .val (.int p4), .val (.int p5), .val (.int kk), .val (.int bb0), .val (.int bb1), .val (.int bb2), .val (.int bb3), .val (.int (0 : Int32)), .val (.ref sa), .val (.int (0 : Int32)), .val (.long co), .second, .val (.ref b2), .val (.ref a26), .val (.double (FP.l2d co)), .second, .val (.long (rr + ((p4).toInt64))), .second]) rfl k)
        exact (J3 _ (by rw [own_one, if_neg hb2]; rw [hrr]))
    have J1 : ∀ (rr : Int64) (_ : rr = (own_one bb0 co p2)), own_Goes p.tables e below P (T42.setTop (mkF m 243 #[.val (.long p0), .second, .val (.int p1), .val (.int p2), .val (.int p3), .val (.int p4), .val (.int p5), .val (.int kk), .val (.int bb0), .val (.int bb1), .val (.int bb2), .val (.int bb3), .val (.int (0 : Int32)), .val (.ref sa), .val (.int (0 : Int32)), .val (.long co), .second, .val (.ref b2), .val (.ref a26), .val (.double (FP.l2d co)), .second, .val (.long rr), .second] [])) := by
      intro rr hrr
      refine own_Goes.st ?_ (fun _ k => XS.iload X42.here hx rfl (hb hby at_243) rfl k)
      by_cases hb1 : bb1 = (0 : Int32)
      · skip
        refine own_Goes.st ?_ (fun _ k => XS.ifYes X42.here hx rfl (pc0 := 245) (pc' := 256) rfl (hb hby at_245) rfl ((if0 _ _).trans (teq hb1).1) (by decide) (by decide) k)
        exact (J2 _ (by rw [own_one, if_pos hb1]; exact hrr))
      · skip
        refine own_Goes.st ?_ (fun _ k => XS.ifNo X42.here hx rfl (hb hby at_245) rfl ((if0 _ _).trans (feq hb1).1) k)
        refine own_Goes.st ?_ (fun _ k => XS.lload X42.here hx rfl (hb hby at_248) rfl k)
        show own_Goes p.tables e below P (T42.setTop (mkF m 250 #[.val (.long p0), .second, .val (.int p1), .val (.int p2), .val (.int p3), .val (.int p4), .val (.int p5), .val (.int kk), .val (.int bb0), .val (.int bb1), .val (.int bb2), .val (.int bb3), .val (.int (0 : Int32)), .val (.ref sa), .val (.int (0 : Int32)), .val (.long co), .second, .val (.ref b2), .val (.ref a26), .val (.double (FP.l2d co)), .second, .val (.long rr), .second] [(.long rr)]))
        refine own_Goes.st ?_ (fun _ k => XS.iload X42.here hx rfl (hb hby at_250) rfl k)
        refine own_Goes.st ?_ (fun _ k => XS.i2l X42.here hx rfl (hb hby at_252) rfl k)
        refine own_Goes.st ?_ (fun _ k => XS.ladd X42.here hx rfl (hb hby at_253) rfl k)
        refine own_Goes.st ?_ (fun _ k => XS.lstore X42.here hx rfl (hb hby at_254) rfl (l' := #[.val (.long p0), .second, .val (.int p1), .val (.int p2), .val (.int p3), .val (.int p4), .val (.int p5), .val (.int kk), .val (.int bb0), .val (.int bb1), .val (.int bb2), .val (.int bb3), .val (.int (0 : Int32)), .val (.ref sa), .val (.int (0 : Int32)), .val (.long co), .second, .val (.ref b2), .val (.ref a26), .val (.double (FP.l2d co)), .second, .val (.long (rr + ((p3).toInt64))), .second]) rfl k)
        exact (J2 _ (by rw [own_one, if_neg hb1]; rw [hrr]))
    refine own_Goes.st ?_ (fun _ k => XS.iload X42.here hx rfl (hb hby at_231) rfl k)
    by_cases hb0 : bb0 = (0 : Int32)
    · skip
      refine own_Goes.st ?_ (fun _ k => XS.ifYes X42.here hx rfl (pc0 := 233) (pc' := 243) rfl (hb hby at_233) rfl ((if0 _ _).trans (teq hb0).1) (by decide) (by decide) k)
      exact (J1 _ (by rw [own_one, if_pos hb0]))
    · skip
      refine own_Goes.st ?_ (fun _ k => XS.ifNo X42.here hx rfl (hb hby at_233) rfl ((if0 _ _).trans (feq hb0).1) k)
      refine own_Goes.st ?_ (fun _ k => XS.lload X42.here hx rfl (hb hby at_236) rfl k)
      show own_Goes p.tables e below P (T42.setTop (mkF m 238 #[.val (.long p0), .second, .val (.int p1), .val (.int p2), .val (.int p3), .val (.int p4), .val (.int p5), .val (.int kk), .val (.int bb0), .val (.int bb1), .val (.int bb2), .val (.int bb3), .val (.int (0 : Int32)), .val (.ref sa), .val (.int (0 : Int32)), .val (.long co), .second, .val (.ref b2), .val (.ref a26), .val (.double (FP.l2d co)), .second, .val (.long co), .second] [(.long co)]))
      refine own_Goes.st ?_ (fun _ k => XS.iloadN X42.here hx rfl (hb hby at_238) rfl k)
      refine own_Goes.st ?_ (fun _ k => XS.i2l X42.here hx rfl (hb hby at_239) rfl k)
      refine own_Goes.st ?_ (fun _ k => XS.ladd X42.here hx rfl (hb hby at_240) rfl k)
      refine own_Goes.st ?_ (fun _ k => XS.lstore X42.here hx rfl (hb hby at_241) rfl (l' := #[.val (.long p0), .second, .val (.int p1), .val (.int p2), .val (.int p3), .val (.int p4), .val (.int p5), .val (.int kk), .val (.int bb0), .val (.int bb1), .val (.int bb2), .val (.int bb3), .val (.int (0 : Int32)), .val (.ref sa), .val (.int (0 : Int32)), .val (.long co), .second, .val (.ref b2), .val (.ref a26), .val (.double (FP.l2d co)), .second, .val (.long (co + ((p2).toInt64))), .second]) rfl k)
      exact (J1 _ (by rw [own_one, if_neg hb0]))
  have T1n : ∀ (T43 : State) (lo43 : List Loc) (X43 : Stand p l e room_1 s m #[(.long p0), (.int p1), (.int p2), (.int p3), (.int p4), (.int p5)] below meth c T43 lo43 1 4) (h43 : Heap) (e43 : T43.heap = h43) (N43 : Fr n0 lo43) (Z43 : n0 ≤ h43.size) (sa : Addr) (ks : ClassId) (kk bb0 bb1 bb2 bb3 s0 : Int32) (co : Int64) (_ : Arv Z h43 sa ks .int (1 : Int32) [(.int s0)] (.int 0)) (_ : own_in co 562949953421312) (_ : ¬ s0 < 0 ∧ s0 < 4) (_ : (co + own_pick p2 p3 p4 p5 s0) = own_ref co bb0 bb1 bb2 bb3 p2 p3 p4 p5), own_Goes p.tables e below P (T43.setTop (mkF m 170 #[.val (.long p0), .second, .val (.int p1), .val (.int p2), .val (.int p3), .val (.int p4), .val (.int p5), .val (.int kk), .val (.int bb0), .val (.int bb1), .val (.int bb2), .val (.int bb3), .val (.int (1 : Int32)), .val (.ref sa), .val (.int (1 : Int32)), .val (.long co), .second, .unset, .unset, .unset, .unset, .unset, .unset] [])) := by
    intro T43 lo43 X43 h43 e43 N43 Z43 sa ks kk bb0 bb1 bb2 bb3 s0 co Vs hco hs0 hsum
    refine own_Goes.st ?_ (fun _ k => XS.iconst X43.here hx rfl (hb hby at_170) k)
    obtain ⟨T44, h44, k44, X44, e44, E44, A44, J44, st44⟩ := newPE X43 hx hZ (hw _ (List.mem_of_getElem? (i := 1) rfl)) e43 (g := (mkF m 171 #[.val (.long p0), .second, .val (.int p1), .val (.int p2), .val (.int p3), .val (.int p4), .val (.int p5), .val (.int kk), .val (.int bb0), .val (.int bb1), .val (.int bb2), .val (.int bb3), .val (.int (1 : Int32)), .val (.ref sa), .val (.int (1 : Int32)), .val (.long co), .second, .unset, .unset, .unset, .unset, .unset, .unset] [(.int (4 : Int32))])) rfl (hb hby at_171) rfl (by decide) (cap := 4) (by decide) (by decide) (by decide) (by decide) (ad := "[D") rfl
    obtain ⟨b44, g44⟩ : ∃ z, z = h43.size := ⟨_, rfl⟩
    rw [← g44] at A44 J44 st44
    have ne45 : sa ≠ b44 := Nat.ne_of_lt (Nat.lt_of_lt_of_eq Vs.lt g44.symm)
    have ge_b44 : n0 ≤ b44 := Nat.le_trans Z43 (Nat.le_of_eq g44.symm)
    refine own_Goes.st ?_ st44
    have Z46 : n0 ≤ h44.size := Nat.le_trans Z43 E44.1
    have V47 : Arv Z h44 b44 k44 .double (4 : Int32) [(.double (0 : UInt64)), (.double (0 : UInt64)), (.double (0 : UInt64)), (.double (0 : UInt64))] (.double 0) := (Arv.new A44 (by decide)).pad (pad_rep [] _ 4)
    show own_Goes p.tables e below P (T44.setTop (mkF m 173 #[.val (.long p0), .second, .val (.int p1), .val (.int p2), .val (.int p3), .val (.int p4), .val (.int p5), .val (.int kk), .val (.int bb0), .val (.int bb1), .val (.int bb2), .val (.int bb3), .val (.int (1 : Int32)), .val (.ref sa), .val (.int (1 : Int32)), .val (.long co), .second, .unset, .unset, .unset, .unset, .unset, .unset] [(.ref b44)]))
    refine own_Goes.st ?_ (fun _ k => XS.astore X44.here hx rfl (hb hby at_173) rfl rfl (l' := #[.val (.long p0), .second, .val (.int p1), .val (.int p2), .val (.int p3), .val (.int p4), .val (.int p5), .val (.int kk), .val (.int bb0), .val (.int bb1), .val (.int bb2), .val (.int bb3), .val (.int (1 : Int32)), .val (.ref sa), .val (.int (1 : Int32)), .val (.long co), .second, .val (.ref b44), .unset, .unset, .unset, .unset, .unset]) rfl k)
    refine own_Goes.st ?_ (fun _ k => XS.aload X44.here hx rfl (hb hby at_175) rfl rfl k)
    refine own_Goes.st ?_ (fun _ k => XS.iconst X44.here hx rfl (hb hby at_177) k)
    refine own_Goes.st ?_ (fun _ k => XS.iloadN X44.here hx rfl (hb hby at_178) rfl k)
    refine own_Goes.st ?_ (fun _ k => XS.i2dS X44.here hx rfl (hb hby at_179) rfl rfl k)
    have Vc48 := V47
    obtain ⟨cl48, Ar48, qc48, S48, Nn48, Hs48, Gs48⟩ := Vc48
    have hin49 : ¬ ((0 : Int32) < 0 ∨ cl48.slots.size ≤ ((0 : Int32)).toNatClampNeg) := inb_of S48 ⟨by decide, by decide⟩
    obtain ⟨T49, h49, X49, e49, W49, st49⟩ := stD X44 hx hZ e44 Ar48 (j := (0 : Int32)) hin49 (g := (mkF m 180 #[.val (.long p0), .second, .val (.int p1), .val (.int p2), .val (.int p3), .val (.int p4), .val (.int p5), .val (.int kk), .val (.int bb0), .val (.int bb1), .val (.int bb2), .val (.int bb3), .val (.int (1 : Int32)), .val (.ref sa), .val (.int (1 : Int32)), .val (.long co), .second, .val (.ref b44), .unset, .unset, .unset, .unset, .unset] [(.double (FP.i2d p2)), (.int (0 : Int32)), (.ref b44)])) rfl rfl (hb hby at_180)
    refine own_Goes.st ?_ st49
    have V50 : Arv Z h49 b44 k44 .double (4 : Int32) [(.double (FP.i2d p2)), (.double (0 : UInt64)), (.double (0 : UInt64)), (.double (0 : UInt64))] (.double 0) := Arv.set Ar48 qc48 S48 Nn48 Hs48 Gs48 rfl W49 0 rfl (Nat.le_of_ble_eq_true rfl)
    have Z51 : n0 ≤ h49.size := by rw [W49.size]; exact Z46
    have N52 := Fr.snoc X49 N43 ge_b44
    show own_Goes p.tables e below P (T49.setTop (mkF m 181 #[.val (.long p0), .second, .val (.int p1), .val (.int p2), .val (.int p3), .val (.int p4), .val (.int p5), .val (.int kk), .val (.int bb0), .val (.int bb1), .val (.int bb2), .val (.int bb3), .val (.int (1 : Int32)), .val (.ref sa), .val (.int (1 : Int32)), .val (.long co), .second, .val (.ref b44), .unset, .unset, .unset, .unset, .unset] []))
    refine own_Goes.st ?_ (fun _ k => XS.aload X49.here hx rfl (hb hby at_181) rfl rfl k)
    refine own_Goes.st ?_ (fun _ k => XS.iconst X49.here hx rfl (hb hby at_183) k)
    refine own_Goes.st ?_ (fun _ k => XS.iload X49.here hx rfl (hb hby at_184) rfl k)
    refine own_Goes.st ?_ (fun _ k => XS.i2dS X49.here hx rfl (hb hby at_186) rfl rfl k)
    have Vc53 := V50
    obtain ⟨cl53, Ar53, qc53, S53, Nn53, Hs53, Gs53⟩ := Vc53
    have hin54 : ¬ ((1 : Int32) < 0 ∨ cl53.slots.size ≤ ((1 : Int32)).toNatClampNeg) := inb_of S53 ⟨by decide, by decide⟩
    obtain ⟨T54, h54, X54, e54, W54, st54⟩ := stD X49 hx hZ e49 Ar53 (j := (1 : Int32)) hin54 (g := (mkF m 187 #[.val (.long p0), .second, .val (.int p1), .val (.int p2), .val (.int p3), .val (.int p4), .val (.int p5), .val (.int kk), .val (.int bb0), .val (.int bb1), .val (.int bb2), .val (.int bb3), .val (.int (1 : Int32)), .val (.ref sa), .val (.int (1 : Int32)), .val (.long co), .second, .val (.ref b44), .unset, .unset, .unset, .unset, .unset] [(.double (FP.i2d p3)), (.int (1 : Int32)), (.ref b44)])) rfl rfl (hb hby at_187)
    refine own_Goes.st ?_ st54
    have V55 : Arv Z h54 b44 k44 .double (4 : Int32) [(.double (FP.i2d p2)), (.double (FP.i2d p3)), (.double (0 : UInt64)), (.double (0 : UInt64))] (.double 0) := Arv.set Ar53 qc53 S53 Nn53 Hs53 Gs53 rfl W54 1 rfl (Nat.le_of_ble_eq_true rfl)
    have Z56 : n0 ≤ h54.size := by rw [W54.size]; exact Z51
    have N57 := Fr.snoc X54 N52 ge_b44
    show own_Goes p.tables e below P (T54.setTop (mkF m 188 #[.val (.long p0), .second, .val (.int p1), .val (.int p2), .val (.int p3), .val (.int p4), .val (.int p5), .val (.int kk), .val (.int bb0), .val (.int bb1), .val (.int bb2), .val (.int bb3), .val (.int (1 : Int32)), .val (.ref sa), .val (.int (1 : Int32)), .val (.long co), .second, .val (.ref b44), .unset, .unset, .unset, .unset, .unset] []))
    refine own_Goes.st ?_ (fun _ k => XS.aload X54.here hx rfl (hb hby at_188) rfl rfl k)
    refine own_Goes.st ?_ (fun _ k => XS.iconst X54.here hx rfl (hb hby at_190) k)
    refine own_Goes.st ?_ (fun _ k => XS.iload X54.here hx rfl (hb hby at_191) rfl k)
    refine own_Goes.st ?_ (fun _ k => XS.i2dS X54.here hx rfl (hb hby at_193) rfl rfl k)
    have Vc58 := V55
    obtain ⟨cl58, Ar58, qc58, S58, Nn58, Hs58, Gs58⟩ := Vc58
    have hin59 : ¬ ((2 : Int32) < 0 ∨ cl58.slots.size ≤ ((2 : Int32)).toNatClampNeg) := inb_of S58 ⟨by decide, by decide⟩
    obtain ⟨T59, h59, X59, e59, W59, st59⟩ := stD X54 hx hZ e54 Ar58 (j := (2 : Int32)) hin59 (g := (mkF m 194 #[.val (.long p0), .second, .val (.int p1), .val (.int p2), .val (.int p3), .val (.int p4), .val (.int p5), .val (.int kk), .val (.int bb0), .val (.int bb1), .val (.int bb2), .val (.int bb3), .val (.int (1 : Int32)), .val (.ref sa), .val (.int (1 : Int32)), .val (.long co), .second, .val (.ref b44), .unset, .unset, .unset, .unset, .unset] [(.double (FP.i2d p4)), (.int (2 : Int32)), (.ref b44)])) rfl rfl (hb hby at_194)
    refine own_Goes.st ?_ st59
    have V60 : Arv Z h59 b44 k44 .double (4 : Int32) [(.double (FP.i2d p2)), (.double (FP.i2d p3)), (.double (FP.i2d p4)), (.double (0 : UInt64))] (.double 0) := Arv.set Ar58 qc58 S58 Nn58 Hs58 Gs58 rfl W59 2 rfl (Nat.le_of_ble_eq_true rfl)
    have Z61 : n0 ≤ h59.size := by rw [W59.size]; exact Z56
    have N62 := Fr.snoc X59 N57 ge_b44
    show own_Goes p.tables e below P (T59.setTop (mkF m 195 #[.val (.long p0), .second, .val (.int p1), .val (.int p2), .val (.int p3), .val (.int p4), .val (.int p5), .val (.int kk), .val (.int bb0), .val (.int bb1), .val (.int bb2), .val (.int bb3), .val (.int (1 : Int32)), .val (.ref sa), .val (.int (1 : Int32)), .val (.long co), .second, .val (.ref b44), .unset, .unset, .unset, .unset, .unset] []))
    refine own_Goes.st ?_ (fun _ k => XS.aload X59.here hx rfl (hb hby at_195) rfl rfl k)
    refine own_Goes.st ?_ (fun _ k => XS.iconst X59.here hx rfl (hb hby at_197) k)
    refine own_Goes.st ?_ (fun _ k => XS.iload X59.here hx rfl (hb hby at_198) rfl k)
    refine own_Goes.st ?_ (fun _ k => XS.i2dS X59.here hx rfl (hb hby at_200) rfl rfl k)
    have Vc63 := V60
    obtain ⟨cl63, Ar63, qc63, S63, Nn63, Hs63, Gs63⟩ := Vc63
    have hin64 : ¬ ((3 : Int32) < 0 ∨ cl63.slots.size ≤ ((3 : Int32)).toNatClampNeg) := inb_of S63 ⟨by decide, by decide⟩
    obtain ⟨T64, h64, X64, e64, W64, st64⟩ := stD X59 hx hZ e59 Ar63 (j := (3 : Int32)) hin64 (g := (mkF m 201 #[.val (.long p0), .second, .val (.int p1), .val (.int p2), .val (.int p3), .val (.int p4), .val (.int p5), .val (.int kk), .val (.int bb0), .val (.int bb1), .val (.int bb2), .val (.int bb3), .val (.int (1 : Int32)), .val (.ref sa), .val (.int (1 : Int32)), .val (.long co), .second, .val (.ref b44), .unset, .unset, .unset, .unset, .unset] [(.double (FP.i2d p5)), (.int (3 : Int32)), (.ref b44)])) rfl rfl (hb hby at_201)
    refine own_Goes.st ?_ st64
    have V65 : Arv Z h64 b44 k44 .double (4 : Int32) [(.double (FP.i2d p2)), (.double (FP.i2d p3)), (.double (FP.i2d p4)), (.double (FP.i2d p5))] (.double 0) := Arv.set Ar63 qc63 S63 Nn63 Hs63 Gs63 rfl W64 3 rfl (Nat.le_of_ble_eq_true rfl)
    have Z66 : n0 ≤ h64.size := by rw [W64.size]; exact Z61
    have N67 := Fr.snoc X64 N62 ge_b44
    show own_Goes p.tables e below P (T64.setTop (mkF m 202 #[.val (.long p0), .second, .val (.int p1), .val (.int p2), .val (.int p3), .val (.int p4), .val (.int p5), .val (.int kk), .val (.int bb0), .val (.int bb1), .val (.int bb2), .val (.int bb3), .val (.int (1 : Int32)), .val (.ref sa), .val (.int (1 : Int32)), .val (.long co), .second, .val (.ref b44), .unset, .unset, .unset, .unset, .unset] []))
    obtain ⟨T68, h68, X68, e68, E68, A68, D68, -, st68⟩ := newO X64 hx hZ hown (hw _ (List.mem_of_getElem? (i := 2) rfl)) (hw _ (List.mem_of_getElem? (i := 3) rfl)) (hw _ (List.mem_of_getElem? (i := 4) rfl)) e64 (g := (mkF m 202 #[.val (.long p0), .second, .val (.int p1), .val (.int p2), .val (.int p3), .val (.int p4), .val (.int p5), .val (.int kk), .val (.int bb0), .val (.int bb1), .val (.int bb2), .val (.int bb3), .val (.int (1 : Int32)), .val (.ref sa), .val (.int (1 : Int32)), .val (.long co), .second, .val (.ref b44), .unset, .unset, .unset, .unset, .unset] [])) rfl (hb hby at_202) (by decide) (by decide)
    obtain ⟨a68, g68⟩ : ∃ z, z = h64.size := ⟨_, rfl⟩
    rw [← g68] at A68 D68 st68
    have F69 : Arv Z h64 sa ks .int (1 : Int32) [(.int s0)] (.int 0) := (((((Vs.ext E44).other W49 ne45).other W54 ne45).other W59 ne45).other W64 ne45)
    have ne70 : sa ≠ a68 := Nat.ne_of_lt (Nat.lt_of_lt_of_eq F69.lt g68.symm)
    have F71 : Exa Z h64 b44 "[D" := ((((J44.wr W49).wr W54).wr W59).wr W64)
    have ne72 : b44 ≠ a68 := Nat.ne_of_lt (Nat.lt_of_lt_of_eq F71.lt g68.symm)
    have ge_a68 : n0 ≤ a68 := Nat.le_trans Z66 (Nat.le_of_eq g68.symm)
    refine own_Goes.st ?_ st68
    have Z73 : n0 ≤ h68.size := Nat.le_trans Z66 E68.1
    have F74 : Fld Z h68 a68 "com/example/pushmap/pushmap/schedule/Column" "object" "I" (.int (0 : Int32)) := D68 (Or.inr (hw _ (List.mem_of_getElem? (i := 12) rfl))) (ty := .int) (by decide)
    have F75 : Fld Z h68 a68 "com/example/pushmap/pushmap/schedule/Column" "slots" "[I" .null := D68 (Or.inr (hw _ (List.mem_of_getElem? (i := 14) rfl))) (ty := (.array .int)) (by decide)
    have F76 : Fld Z h68 a68 "com/example/pushmap/pushmap/schedule/Column" "cost" "J" (.long (0 : Int64)) := D68 (Or.inr (hw _ (List.mem_of_getElem? (i := 16) rfl))) (ty := .long) (by decide)
    show own_Goes p.tables e below P (T68.setTop (mkF m 205 #[.val (.long p0), .second, .val (.int p1), .val (.int p2), .val (.int p3), .val (.int p4), .val (.int p5), .val (.int kk), .val (.int bb0), .val (.int bb1), .val (.int bb2), .val (.int bb3), .val (.int (1 : Int32)), .val (.ref sa), .val (.int (1 : Int32)), .val (.long co), .second, .val (.ref b44), .unset, .unset, .unset, .unset, .unset] [(.ref a68)]))
    refine own_Goes.st ?_ (fun _ k => XS.dup X68.here hx rfl (hb hby at_205) rfl rfl k)
    refine own_Goes.st ?_ (fun _ k => XS.iloadN X68.here hx rfl (hb hby at_206) rfl k)
    refine own_Goes.st ?_ (fun _ k => XS.iconst X68.here hx rfl (hb hby at_207) k)
    refine own_Goes.st ?_ (fun _ k => XS.ishr X68.here hx rfl (hb hby at_208) rfl k)
    refine own_Goes.st ?_ (fun _ k => XS.aload X68.here hx rfl (hb hby at_209) rfl rfl k)
    refine own_Goes.st ?_ (fun _ k => XS.lload X68.here hx rfl (hb hby at_211) rfl k)
    show own_Goes p.tables e below P (T68.setTop (mkF m 213 #[.val (.long p0), .second, .val (.int p1), .val (.int p2), .val (.int p3), .val (.int p4), .val (.int p5), .val (.int kk), .val (.int bb0), .val (.int bb1), .val (.int bb2), .val (.int bb3), .val (.int (1 : Int32)), .val (.ref sa), .val (.int (1 : Int32)), .val (.long co), .second, .val (.ref b44), .unset, .unset, .unset, .unset, .unset] [(.long co), (.ref sa), (.int (p1 >>> ((4 : Int32) &&& 31))), (.ref a68), (.ref a68)]))
    obtain ⟨_, _, ⟨T77, L77, k77, n77⟩, -, X77, ⟨Lc77, hQ77, l77, y77, z77⟩, st77⟩ := X68.specialBack hx (y := (⟨"com/example/pushmap/pushmap/schedule/Column", "<init>", "(I[IJ)V"⟩ : MethodName)) rfl hown (mvT hZ (hw _ (List.mem_of_getElem? (i := 5) rfl))) (mvT hZ (hw _ (List.mem_of_getElem? (i := 6) rfl))) (mvT hZ (hw _ (List.mem_of_getElem? (i := 7) rfl))) (by decide) (backOf (W := 1) (rm_new l Z a0 hw [] a68 (p1 >>> ((4 : Int32) &&& 31)) sa co (.int (0 : Int32)) .null (.long (0 : Int64)) h68 n0 Z73 A68 F74 F75 F76 ge_a68) hZ (hw _ (List.mem_of_getElem? (i := 7) rfl)) (hw _ (List.mem_of_getElem? (i := 4) rfl)) (by decide) (by decide)) (g := (mkF m 213 #[.val (.long p0), .second, .val (.int p1), .val (.int p2), .val (.int p3), .val (.int p4), .val (.int p5), .val (.int kk), .val (.int bb0), .val (.int bb1), .val (.int bb2), .val (.int bb3), .val (.int (1 : Int32)), .val (.ref sa), .val (.int (1 : Int32)), .val (.long co), .second, .val (.ref b44), .unset, .unset, .unset, .unset, .unset] [(.long co), (.ref sa), (.int (p1 >>> ((4 : Int32) &&& 31))), (.ref a68), (.ref a68)])) rfl (by rw [hml]; rfl) (Steps.refl _) (a := a68) (argsL := [(.int (p1 >>> ((4 : Int32) &&& 31))), (.ref sa), (.long co)]) (rest := [(.ref a68)]) (lenOf own_pd__28_I_5b_IJ_29_V rfl) rfl (by show 2 * 0 + _ ≤ _; exact Nat.le_of_eq rfl) (hb hby at_213) (fun _ _ => ⟨rfl, e68, (by decide : 3 + 0 ≤ _), (by decide : 11 + 0 ≤ _)⟩)
    dsimp only [Pt.U, Pt.locs, Pt.cells, Pt.slots] at X77 l77 y77 z77 st77 hQ77
    rw [l77, y77, z77] at X77
    obtain ⟨rfl, Nq77, K77, f78, f79, f80⟩ := hQ77
    have N77 := Fr.app N67 Nq77
    refine own_Goes.tr st77 ?_
    have Z81 : n0 ≤ T77.heap.size := Nat.le_trans Z73 K77.1
    show own_Goes p.tables e below P (T77.setTop (mkF m 216 #[.val (.long p0), .second, .val (.int p1), .val (.int p2), .val (.int p3), .val (.int p4), .val (.int p5), .val (.int kk), .val (.int bb0), .val (.int bb1), .val (.int bb2), .val (.int bb3), .val (.int (1 : Int32)), .val (.ref sa), .val (.int (1 : Int32)), .val (.long co), .second, .val (.ref b44), .unset, .unset, .unset, .unset, .unset] [(.ref a68)]))
    refine own_Goes.st ?_ (fun _ k => XS.astore X77.here hx rfl (hb hby at_216) rfl rfl (l' := #[.val (.long p0), .second, .val (.int p1), .val (.int p2), .val (.int p3), .val (.int p4), .val (.int p5), .val (.int kk), .val (.int bb0), .val (.int bb1), .val (.int bb2), .val (.int bb3), .val (.int (1 : Int32)), .val (.ref sa), .val (.int (1 : Int32)), .val (.long co), .second, .val (.ref b44), .val (.ref a68), .unset, .unset, .unset, .unset]) rfl k)
    refine own_Goes.st ?_ (fun _ k => XS.aload X77.here hx rfl (hb hby at_218) rfl rfl k)
    refine own_Goes.st ?_ (fun _ k => XS.aload X77.here hx rfl (hb hby at_220) rfl rfl k)
    have F82 : Arv Z T77.heap sa ks .int (1 : Int32) [(.int s0)] (.int 0) := ((F69.ext E68).keep K77 (ninS ne70 nin0))
    have F83 : Arv Z T77.heap b44 k44 .double (4 : Int32) [(.double (FP.i2d p2)), (.double (FP.i2d p3)), (.double (FP.i2d p4)), (.double (FP.i2d p5))] (.double 0) := ((V65.ext E68).keep K77 (ninS ne72 nin0))
    obtain ⟨cq84, kq84, q84a, q84b, q84c⟩ := isOf hZ rfl f78
    obtain ⟨_, _, ⟨T84, L84, k84, n84⟩, -, X84, ⟨Lc84, hQ84, l84, y84, z84⟩, st84⟩ := X77.virtualBack hx (y := (⟨"com/example/pushmap/pushmap/schedule/Column", "priced", "([D)D"⟩ : MethodName)) (z := (⟨"com/example/pushmap/pushmap/schedule/Column", "priced", "([D)D"⟩ : MethodName)) hown (mvT hZ (hw _ (List.mem_of_getElem? (i := 17) rfl))) (mvT hZ (hw _ (List.mem_of_getElem? (i := 18) rfl))) (notFace_of_selects (args := #[]) (mvT hZ (hw _ (List.mem_of_getElem? (i := 20) rfl)))) (mvT hZ (hw _ (List.mem_of_getElem? (i := 20) rfl))) (mvT hZ (hw _ (List.mem_of_getElem? (i := 19) rfl))) (by decide) (backOf (W := 0) (rm_priced1 l Z a0 hw [] a68 b44 sa co ks k44 p2 p3 p4 p5 s0 T77.heap n0 Z81 f79 f80 F82 F83 hco hs0) hZ (hw _ (List.mem_of_getElem? (i := 21) rfl)) (hw _ (List.mem_of_getElem? (i := 4) rfl)) (by decide) (by decide)) q84a q84c (g := (mkF m 222 #[.val (.long p0), .second, .val (.int p1), .val (.int p2), .val (.int p3), .val (.int p4), .val (.int p5), .val (.int kk), .val (.int bb0), .val (.int bb1), .val (.int bb2), .val (.int bb3), .val (.int (1 : Int32)), .val (.ref sa), .val (.int (1 : Int32)), .val (.long co), .second, .val (.ref b44), .val (.ref a68), .unset, .unset, .unset, .unset] [(.ref b44), (.ref a68)])) rfl (by rw [hml]; rfl) (Steps.refl _) (argsL := [(.ref b44)]) (rest := []) (lenOf own_pd__28__5b_D_29_D rfl) rfl (by show 2 * 0 + _ ≤ _; exact Nat.le_of_eq rfl) (hb hby at_222) (fun _ _ => ⟨rfl, rfl, (by decide : 3 + 0 ≤ _), (by decide : 11 + 0 ≤ _)⟩)
    dsimp only [Pt.U, Pt.locs, Pt.cells, Pt.slots] at X84 l84 y84 z84 st84 hQ84
    rw [l84, y84, z84] at X84
    obtain ⟨rfl, Nq84, e84⟩ := hQ84
    have N84 := Fr.app N77 Nq84
    refine own_Goes.tr st84 ?_
    show own_Goes p.tables e below P (T84.setTop (mkF m 225 #[.val (.long p0), .second, .val (.int p1), .val (.int p2), .val (.int p3), .val (.int p4), .val (.int p5), .val (.int kk), .val (.int bb0), .val (.int bb1), .val (.int bb2), .val (.int bb3), .val (.int (1 : Int32)), .val (.ref sa), .val (.int (1 : Int32)), .val (.long co), .second, .val (.ref b44), .val (.ref a68), .unset, .unset, .unset, .unset] [(.double (FP.l2d (co + own_pick p2 p3 p4 p5 s0)))]))
    refine own_Goes.st ?_ (fun _ k => XS.dstore X84.here hx rfl (hb hby at_225) rfl (l' := #[.val (.long p0), .second, .val (.int p1), .val (.int p2), .val (.int p3), .val (.int p4), .val (.int p5), .val (.int kk), .val (.int bb0), .val (.int bb1), .val (.int bb2), .val (.int bb3), .val (.int (1 : Int32)), .val (.ref sa), .val (.int (1 : Int32)), .val (.long co), .second, .val (.ref b44), .val (.ref a68), .val (.double (FP.l2d (co + own_pick p2 p3 p4 p5 s0))), .second, .unset, .unset]) rfl k)
    refine own_Goes.st ?_ (fun _ k => XS.lload X84.here hx rfl (hb hby at_227) rfl k)
    refine own_Goes.st ?_ (fun _ k => XS.lstore X84.here hx rfl (hb hby at_229) rfl (l' := #[.val (.long p0), .second, .val (.int p1), .val (.int p2), .val (.int p3), .val (.int p4), .val (.int p5), .val (.int kk), .val (.int bb0), .val (.int bb1), .val (.int bb2), .val (.int bb3), .val (.int (1 : Int32)), .val (.ref sa), .val (.int (1 : Int32)), .val (.long co), .second, .val (.ref b44), .val (.ref a68), .val (.double (FP.l2d (co + own_pick p2 p3 p4 p5 s0))), .second, .val (.long co), .second]) rfl k)
    have J4 : ∀ (rr : Int64) (_ : rr = (own_one bb3 (own_one bb2 (own_one bb1 (own_one bb0 co p2) p3) p4) p5)), own_Goes p.tables e below P (T84.setTop (mkF m 282 #[.val (.long p0), .second, .val (.int p1), .val (.int p2), .val (.int p3), .val (.int p4), .val (.int p5), .val (.int kk), .val (.int bb0), .val (.int bb1), .val (.int bb2), .val (.int bb3), .val (.int (1 : Int32)), .val (.ref sa), .val (.int (1 : Int32)), .val (.long co), .second, .val (.ref b44), .val (.ref a68), .val (.double (FP.l2d (co + own_pick p2 p3 p4 p5 s0))), .second, .val (.long rr), .second] [])) := by
      intro rr hrr
      refine own_Goes.st ?_ (fun _ k => XS.dload X84.here hx rfl (hb hby at_282) rfl k)
      refine own_Goes.st ?_ (fun _ k => XS.lload X84.here hx rfl (hb hby at_284) rfl k)
      refine own_Goes.st ?_ (fun _ k => XS.l2dS X84.here hx rfl (hb hby at_286) rfl rfl k)
      show own_Goes p.tables e below P (T84.setTop (mkF m 287 #[.val (.long p0), .second, .val (.int p1), .val (.int p2), .val (.int p3), .val (.int p4), .val (.int p5), .val (.int kk), .val (.int bb0), .val (.int bb1), .val (.int bb2), .val (.int bb3), .val (.int (1 : Int32)), .val (.ref sa), .val (.int (1 : Int32)), .val (.long co), .second, .val (.ref b44), .val (.ref a68), .val (.double (FP.l2d (co + own_pick p2 p3 p4 p5 s0))), .second, .val (.long rr), .second] [(.double (FP.l2d rr)), (.double (FP.l2d (co + own_pick p2 p3 p4 p5 s0)))]))
      refine own_Goes.st ?_ (fun _ k => XS.dcmpS X84.here hx rfl (hb hby at_287) rfl rfl k)
      show own_Goes p.tables e below P (T84.setTop (mkF m 288 #[.val (.long p0), .second, .val (.int p1), .val (.int p2), .val (.int p3), .val (.int p4), .val (.int p5), .val (.int kk), .val (.int bb0), .val (.int bb1), .val (.int bb2), .val (.int bb3), .val (.int (1 : Int32)), .val (.ref sa), .val (.int (1 : Int32)), .val (.long co), .second, .val (.ref b44), .val (.ref a68), .val (.double (FP.l2d (co + own_pick p2 p3 p4 p5 s0))), .second, .val (.long rr), .second] [(.int (cmpValue (FP.dcmp (FP.l2d (co + own_pick p2 p3 p4 p5 s0)) (FP.l2d rr)) .l))]))
      rw [own_cmp (hsum.trans hrr.symm) .l]
      show own_Goes p.tables e below P (T84.setTop (mkF m 288 #[.val (.long p0), .second, .val (.int p1), .val (.int p2), .val (.int p3), .val (.int p4), .val (.int p5), .val (.int kk), .val (.int bb0), .val (.int bb1), .val (.int bb2), .val (.int bb3), .val (.int (1 : Int32)), .val (.ref sa), .val (.int (1 : Int32)), .val (.long co), .second, .val (.ref b44), .val (.ref a68), .val (.double (FP.l2d (co + own_pick p2 p3 p4 p5 s0))), .second, .val (.long rr), .second] [(.int (0 : Int32))]))
      refine own_Goes.st ?_ (fun _ k => XS.ifNo X84.here hx rfl (hb hby at_288) rfl ((if0 _ _).trans (teq (by decide : (0 : Int32) = (0 : Int32))).2) k)
      refine own_Goes.st ?_ (fun _ k => XS.iconst X84.here hx rfl (hb hby at_291) k)
      refine own_Goes.st ?_ (fun _ k => XS.goto X84.here hx rfl (pc0 := 292) (pc' := 296) rfl (hb hby at_292) (by decide) (by decide) k)
      obtain ⟨fs, hr, hrun, hended, hW, hsame⟩ := X84.leave (v := some (.int (1 : Int32))) (fun h => by rw [Bd.returns] at h; cases h)
      exact own_Goes.fin _ _ (retOut X84 hx (t := .boolean) Bd.returns rfl (Or.inl ⟨rfl, Or.inr (Or.inl rfl), _, rfl⟩) (hb hby at_296) hr) (hPP _ _ ⟨hrun, hended, _, _, rfl, (by show Q_law n0 _ _; exact ⟨rfl, N84⟩), ⟨_, rfl⟩, hW, hsame.mono (by decide) (by decide)⟩)
    have J3 : ∀ (rr : Int64) (_ : rr = (own_one bb2 (own_one bb1 (own_one bb0 co p2) p3) p4)), own_Goes p.tables e below P (T84.setTop (mkF m 269 #[.val (.long p0), .second, .val (.int p1), .val (.int p2), .val (.int p3), .val (.int p4), .val (.int p5), .val (.int kk), .val (.int bb0), .val (.int bb1), .val (.int bb2), .val (.int bb3), .val (.int (1 : Int32)), .val (.ref sa), .val (.int (1 : Int32)), .val (.long co), .second, .val (.ref b44), .val (.ref a68), .val (.double (FP.l2d (co + own_pick p2 p3 p4 p5 s0))), .second, .val (.long rr), .second] [])) := by
      intro rr hrr
      refine own_Goes.st ?_ (fun _ k => XS.iload X84.here hx rfl (hb hby at_269) rfl k)
      by_cases hb3 : bb3 = (0 : Int32)
      · skip
        refine own_Goes.st ?_ (fun _ k => XS.ifYes X84.here hx rfl (pc0 := 271) (pc' := 282) rfl (hb hby at_271) rfl ((if0 _ _).trans (teq hb3).1) (by decide) (by decide) k)
        exact (J4 _ (by rw [own_one, if_pos hb3]; exact hrr))
      · skip
        refine own_Goes.st ?_ (fun _ k => XS.ifNo X84.here hx rfl (hb hby at_271) rfl ((if0 _ _).trans (feq hb3).1) k)
        refine own_Goes.st ?_ (fun _ k => XS.lload X84.here hx rfl (hb hby at_274) rfl k)
        show own_Goes p.tables e below P (T84.setTop (mkF m 276 #[.val (.long p0), .second, .val (.int p1), .val (.int p2), .val (.int p3), .val (.int p4), .val (.int p5), .val (.int kk), .val (.int bb0), .val (.int bb1), .val (.int bb2), .val (.int bb3), .val (.int (1 : Int32)), .val (.ref sa), .val (.int (1 : Int32)), .val (.long co), .second, .val (.ref b44), .val (.ref a68), .val (.double (FP.l2d (co + own_pick p2 p3 p4 p5 s0))), .second, .val (.long rr), .second] [(.long rr)]))
        refine own_Goes.st ?_ (fun _ k => XS.iload X84.here hx rfl (hb hby at_276) rfl k)
        refine own_Goes.st ?_ (fun _ k => XS.i2l X84.here hx rfl (hb hby at_278) rfl k)
        refine own_Goes.st ?_ (fun _ k => XS.ladd X84.here hx rfl (hb hby at_279) rfl k)
        refine own_Goes.st ?_ (fun _ k => XS.lstore X84.here hx rfl (hb hby at_280) rfl (l' := #[.val (.long p0), .second, .val (.int p1), .val (.int p2), .val (.int p3), .val (.int p4), .val (.int p5), .val (.int kk), .val (.int bb0), .val (.int bb1), .val (.int bb2), .val (.int bb3), .val (.int (1 : Int32)), .val (.ref sa), .val (.int (1 : Int32)), .val (.long co), .second, .val (.ref b44), .val (.ref a68), .val (.double (FP.l2d (co + own_pick p2 p3 p4 p5 s0))), .second, .val (.long (rr + ((p5).toInt64))), .second]) rfl k)
        exact (J4 _ (by rw [own_one, if_neg hb3]; rw [hrr]))
    have J2 : ∀ (rr : Int64) (_ : rr = (own_one bb1 (own_one bb0 co p2) p3)), own_Goes p.tables e below P (T84.setTop (mkF m 256 #[.val (.long p0), .second, .val (.int p1), .val (.int p2), .val (.int p3), .val (.int p4), .val (.int p5), .val (.int kk), .val (.int bb0), .val (.int bb1), .val (.int bb2), .val (.int bb3), .val (.int (1 : Int32)), .val (.ref sa), .val (.int (1 : Int32)), .val (.long co), .second, .val (.ref b44), .val (.ref a68), .val (.double (FP.l2d (co + own_pick p2 p3 p4 p5 s0))), .second, .val (.long rr), .second] [])) := by
      intro rr hrr
      refine own_Goes.st ?_ (fun _ k => XS.iload X84.here hx rfl (hb hby at_256) rfl k)
      by_cases hb2 : bb2 = (0 : Int32)
      · skip
        refine own_Goes.st ?_ (fun _ k => XS.ifYes X84.here hx rfl (pc0 := 258) (pc' := 269) rfl (hb hby at_258) rfl ((if0 _ _).trans (teq hb2).1) (by decide) (by decide) k)
        exact (J3 _ (by rw [own_one, if_pos hb2]; exact hrr))
      · skip
        refine own_Goes.st ?_ (fun _ k => XS.ifNo X84.here hx rfl (hb hby at_258) rfl ((if0 _ _).trans (feq hb2).1) k)
        refine own_Goes.st ?_ (fun _ k => XS.lload X84.here hx rfl (hb hby at_261) rfl k)
        show own_Goes p.tables e below P (T84.setTop (mkF m 263 #[.val (.long p0), .second, .val (.int p1), .val (.int p2), .val (.int p3), .val (.int p4), .val (.int p5), .val (.int kk), .val (.int bb0), .val (.int bb1), .val (.int bb2), .val (.int bb3), .val (.int (1 : Int32)), .val (.ref sa), .val (.int (1 : Int32)), .val (.long co), .second, .val (.ref b44), .val (.ref a68), .val (.double (FP.l2d (co + own_pick p2 p3 p4 p5 s0))), .second, .val (.long rr), .second] [(.long rr)]))
        refine own_Goes.st ?_ (fun _ k => XS.iload X84.here hx rfl (hb hby at_263) rfl k)
        refine own_Goes.st ?_ (fun _ k => XS.i2l X84.here hx rfl (hb hby at_265) rfl k)
        refine own_Goes.st ?_ (fun _ k => XS.ladd X84.here hx rfl (hb hby at_266) rfl k)
        refine own_Goes.st ?_ (fun _ k => XS.lstore X84.here hx rfl (hb hby at_267) rfl (l' := #[.val (.long p0), .second, .val (.int p1), .val (.int p2), .val (.int p3), .val (.int p4), .val (.int p5), .val (.int kk), .val (.int bb0), .val (.int bb1), .val (.int bb2), .val (.int bb3), .val (.int (1 : Int32)), .val (.ref sa), .val (.int (1 : Int32)), .val (.long co), .second, .val (.ref b44), .val (.ref a68), .val (.double (FP.l2d (co + own_pick p2 p3 p4 p5 s0))), .second, .val (.long (rr + ((p4).toInt64))), .second]) rfl k)
        exact (J3 _ (by rw [own_one, if_neg hb2]; rw [hrr]))
    have J1 : ∀ (rr : Int64) (_ : rr = (own_one bb0 co p2)), own_Goes p.tables e below P (T84.setTop (mkF m 243 #[.val (.long p0), .second, .val (.int p1), .val (.int p2), .val (.int p3), .val (.int p4), .val (.int p5), .val (.int kk), .val (.int bb0), .val (.int bb1), .val (.int bb2), .val (.int bb3), .val (.int (1 : Int32)), .val (.ref sa), .val (.int (1 : Int32)), .val (.long co), .second, .val (.ref b44), .val (.ref a68), .val (.double (FP.l2d (co + own_pick p2 p3 p4 p5 s0))), .second, .val (.long rr), .second] [])) := by
      intro rr hrr
      refine own_Goes.st ?_ (fun _ k => XS.iload X84.here hx rfl (hb hby at_243) rfl k)
      by_cases hb1 : bb1 = (0 : Int32)
      · skip
        refine own_Goes.st ?_ (fun _ k => XS.ifYes X84.here hx rfl (pc0 := 245) (pc' := 256) rfl (hb hby at_245) rfl ((if0 _ _).trans (teq hb1).1) (by decide) (by decide) k)
        exact (J2 _ (by rw [own_one, if_pos hb1]; exact hrr))
      · skip
        refine own_Goes.st ?_ (fun _ k => XS.ifNo X84.here hx rfl (hb hby at_245) rfl ((if0 _ _).trans (feq hb1).1) k)
        refine own_Goes.st ?_ (fun _ k => XS.lload X84.here hx rfl (hb hby at_248) rfl k)
        show own_Goes p.tables e below P (T84.setTop (mkF m 250 #[.val (.long p0), .second, .val (.int p1), .val (.int p2), .val (.int p3), .val (.int p4), .val (.int p5), .val (.int kk), .val (.int bb0), .val (.int bb1), .val (.int bb2), .val (.int bb3), .val (.int (1 : Int32)), .val (.ref sa), .val (.int (1 : Int32)), .val (.long co), .second, .val (.ref b44), .val (.ref a68), .val (.double (FP.l2d (co + own_pick p2 p3 p4 p5 s0))), .second, .val (.long rr), .second] [(.long rr)]))
        refine own_Goes.st ?_ (fun _ k => XS.iload X84.here hx rfl (hb hby at_250) rfl k)
        refine own_Goes.st ?_ (fun _ k => XS.i2l X84.here hx rfl (hb hby at_252) rfl k)
        refine own_Goes.st ?_ (fun _ k => XS.ladd X84.here hx rfl (hb hby at_253) rfl k)
        refine own_Goes.st ?_ (fun _ k => XS.lstore X84.here hx rfl (hb hby at_254) rfl (l' := #[.val (.long p0), .second, .val (.int p1), .val (.int p2), .val (.int p3), .val (.int p4), .val (.int p5), .val (.int kk), .val (.int bb0), .val (.int bb1), .val (.int bb2), .val (.int bb3), .val (.int (1 : Int32)), .val (.ref sa), .val (.int (1 : Int32)), .val (.long co), .second, .val (.ref b44), .val (.ref a68), .val (.double (FP.l2d (co + own_pick p2 p3 p4 p5 s0))), .second, .val (.long (rr + ((p3).toInt64))), .second]) rfl k)
        exact (J2 _ (by rw [own_one, if_neg hb1]; rw [hrr]))
    refine own_Goes.st ?_ (fun _ k => XS.iload X84.here hx rfl (hb hby at_231) rfl k)
    by_cases hb0 : bb0 = (0 : Int32)
    · skip
      refine own_Goes.st ?_ (fun _ k => XS.ifYes X84.here hx rfl (pc0 := 233) (pc' := 243) rfl (hb hby at_233) rfl ((if0 _ _).trans (teq hb0).1) (by decide) (by decide) k)
      exact (J1 _ (by rw [own_one, if_pos hb0]))
    · skip
      refine own_Goes.st ?_ (fun _ k => XS.ifNo X84.here hx rfl (hb hby at_233) rfl ((if0 _ _).trans (feq hb0).1) k)
      refine own_Goes.st ?_ (fun _ k => XS.lload X84.here hx rfl (hb hby at_236) rfl k)
      show own_Goes p.tables e below P (T84.setTop (mkF m 238 #[.val (.long p0), .second, .val (.int p1), .val (.int p2), .val (.int p3), .val (.int p4), .val (.int p5), .val (.int kk), .val (.int bb0), .val (.int bb1), .val (.int bb2), .val (.int bb3), .val (.int (1 : Int32)), .val (.ref sa), .val (.int (1 : Int32)), .val (.long co), .second, .val (.ref b44), .val (.ref a68), .val (.double (FP.l2d (co + own_pick p2 p3 p4 p5 s0))), .second, .val (.long co), .second] [(.long co)]))
      refine own_Goes.st ?_ (fun _ k => XS.iloadN X84.here hx rfl (hb hby at_238) rfl k)
      refine own_Goes.st ?_ (fun _ k => XS.i2l X84.here hx rfl (hb hby at_239) rfl k)
      refine own_Goes.st ?_ (fun _ k => XS.ladd X84.here hx rfl (hb hby at_240) rfl k)
      refine own_Goes.st ?_ (fun _ k => XS.lstore X84.here hx rfl (hb hby at_241) rfl (l' := #[.val (.long p0), .second, .val (.int p1), .val (.int p2), .val (.int p3), .val (.int p4), .val (.int p5), .val (.int kk), .val (.int bb0), .val (.int bb1), .val (.int bb2), .val (.int bb3), .val (.int (1 : Int32)), .val (.ref sa), .val (.int (1 : Int32)), .val (.long co), .second, .val (.ref b44), .val (.ref a68), .val (.double (FP.l2d (co + own_pick p2 p3 p4 p5 s0))), .second, .val (.long (co + ((p2).toInt64))), .second]) rfl k)
      exact (J1 _ (by rw [own_one, if_neg hb0]))
  have T2n : ∀ (T85 : State) (lo85 : List Loc) (X85 : Stand p l e room_1 s m #[(.long p0), (.int p1), (.int p2), (.int p3), (.int p4), (.int p5)] below meth c T85 lo85 1 4) (h85 : Heap) (e85 : T85.heap = h85) (N85 : Fr n0 lo85) (Z85 : n0 ≤ h85.size) (sa : Addr) (ks : ClassId) (kk bb0 bb1 bb2 bb3 s0 s1 : Int32) (co : Int64) (_ : Arv Z h85 sa ks .int (2 : Int32) [(.int s0), (.int s1)] (.int 0)) (_ : own_in co 562949953421312) (_ : ¬ s0 < 0 ∧ s0 < 4) (_ : ¬ s1 < 0 ∧ s1 < 4) (_ : ((co + own_pick p2 p3 p4 p5 s0) + own_pick p2 p3 p4 p5 s1) = own_ref co bb0 bb1 bb2 bb3 p2 p3 p4 p5), own_Goes p.tables e below P (T85.setTop (mkF m 170 #[.val (.long p0), .second, .val (.int p1), .val (.int p2), .val (.int p3), .val (.int p4), .val (.int p5), .val (.int kk), .val (.int bb0), .val (.int bb1), .val (.int bb2), .val (.int bb3), .val (.int (2 : Int32)), .val (.ref sa), .val (.int (2 : Int32)), .val (.long co), .second, .unset, .unset, .unset, .unset, .unset, .unset] [])) := by
    intro T85 lo85 X85 h85 e85 N85 Z85 sa ks kk bb0 bb1 bb2 bb3 s0 s1 co Vs hco hs0 hs1 hsum
    refine own_Goes.st ?_ (fun _ k => XS.iconst X85.here hx rfl (hb hby at_170) k)
    obtain ⟨T86, h86, k86, X86, e86, E86, A86, J86, st86⟩ := newPE X85 hx hZ (hw _ (List.mem_of_getElem? (i := 1) rfl)) e85 (g := (mkF m 171 #[.val (.long p0), .second, .val (.int p1), .val (.int p2), .val (.int p3), .val (.int p4), .val (.int p5), .val (.int kk), .val (.int bb0), .val (.int bb1), .val (.int bb2), .val (.int bb3), .val (.int (2 : Int32)), .val (.ref sa), .val (.int (2 : Int32)), .val (.long co), .second, .unset, .unset, .unset, .unset, .unset, .unset] [(.int (4 : Int32))])) rfl (hb hby at_171) rfl (by decide) (cap := 4) (by decide) (by decide) (by decide) (by decide) (ad := "[D") rfl
    obtain ⟨b86, g86⟩ : ∃ z, z = h85.size := ⟨_, rfl⟩
    rw [← g86] at A86 J86 st86
    have ne87 : sa ≠ b86 := Nat.ne_of_lt (Nat.lt_of_lt_of_eq Vs.lt g86.symm)
    have ge_b86 : n0 ≤ b86 := Nat.le_trans Z85 (Nat.le_of_eq g86.symm)
    refine own_Goes.st ?_ st86
    have Z88 : n0 ≤ h86.size := Nat.le_trans Z85 E86.1
    have V89 : Arv Z h86 b86 k86 .double (4 : Int32) [(.double (0 : UInt64)), (.double (0 : UInt64)), (.double (0 : UInt64)), (.double (0 : UInt64))] (.double 0) := (Arv.new A86 (by decide)).pad (pad_rep [] _ 4)
    show own_Goes p.tables e below P (T86.setTop (mkF m 173 #[.val (.long p0), .second, .val (.int p1), .val (.int p2), .val (.int p3), .val (.int p4), .val (.int p5), .val (.int kk), .val (.int bb0), .val (.int bb1), .val (.int bb2), .val (.int bb3), .val (.int (2 : Int32)), .val (.ref sa), .val (.int (2 : Int32)), .val (.long co), .second, .unset, .unset, .unset, .unset, .unset, .unset] [(.ref b86)]))
    refine own_Goes.st ?_ (fun _ k => XS.astore X86.here hx rfl (hb hby at_173) rfl rfl (l' := #[.val (.long p0), .second, .val (.int p1), .val (.int p2), .val (.int p3), .val (.int p4), .val (.int p5), .val (.int kk), .val (.int bb0), .val (.int bb1), .val (.int bb2), .val (.int bb3), .val (.int (2 : Int32)), .val (.ref sa), .val (.int (2 : Int32)), .val (.long co), .second, .val (.ref b86), .unset, .unset, .unset, .unset, .unset]) rfl k)
    refine own_Goes.st ?_ (fun _ k => XS.aload X86.here hx rfl (hb hby at_175) rfl rfl k)
    refine own_Goes.st ?_ (fun _ k => XS.iconst X86.here hx rfl (hb hby at_177) k)
    refine own_Goes.st ?_ (fun _ k => XS.iloadN X86.here hx rfl (hb hby at_178) rfl k)
    refine own_Goes.st ?_ (fun _ k => XS.i2dS X86.here hx rfl (hb hby at_179) rfl rfl k)
    have Vc90 := V89
    obtain ⟨cl90, Ar90, qc90, S90, Nn90, Hs90, Gs90⟩ := Vc90
    have hin91 : ¬ ((0 : Int32) < 0 ∨ cl90.slots.size ≤ ((0 : Int32)).toNatClampNeg) := inb_of S90 ⟨by decide, by decide⟩
    obtain ⟨T91, h91, X91, e91, W91, st91⟩ := stD X86 hx hZ e86 Ar90 (j := (0 : Int32)) hin91 (g := (mkF m 180 #[.val (.long p0), .second, .val (.int p1), .val (.int p2), .val (.int p3), .val (.int p4), .val (.int p5), .val (.int kk), .val (.int bb0), .val (.int bb1), .val (.int bb2), .val (.int bb3), .val (.int (2 : Int32)), .val (.ref sa), .val (.int (2 : Int32)), .val (.long co), .second, .val (.ref b86), .unset, .unset, .unset, .unset, .unset] [(.double (FP.i2d p2)), (.int (0 : Int32)), (.ref b86)])) rfl rfl (hb hby at_180)
    refine own_Goes.st ?_ st91
    have V92 : Arv Z h91 b86 k86 .double (4 : Int32) [(.double (FP.i2d p2)), (.double (0 : UInt64)), (.double (0 : UInt64)), (.double (0 : UInt64))] (.double 0) := Arv.set Ar90 qc90 S90 Nn90 Hs90 Gs90 rfl W91 0 rfl (Nat.le_of_ble_eq_true rfl)
    have Z93 : n0 ≤ h91.size := by rw [W91.size]; exact Z88
    have N94 := Fr.snoc X91 N85 ge_b86
    show own_Goes p.tables e below P (T91.setTop (mkF m 181 #[.val (.long p0), .second, .val (.int p1), .val (.int p2), .val (.int p3), .val (.int p4), .val (.int p5), .val (.int kk), .val (.int bb0), .val (.int bb1), .val (.int bb2), .val (.int bb3), .val (.int (2 : Int32)), .val (.ref sa), .val (.int (2 : Int32)), .val (.long co), .second, .val (.ref b86), .unset, .unset, .unset, .unset, .unset] []))
    refine own_Goes.st ?_ (fun _ k => XS.aload X91.here hx rfl (hb hby at_181) rfl rfl k)
    refine own_Goes.st ?_ (fun _ k => XS.iconst X91.here hx rfl (hb hby at_183) k)
    refine own_Goes.st ?_ (fun _ k => XS.iload X91.here hx rfl (hb hby at_184) rfl k)
    refine own_Goes.st ?_ (fun _ k => XS.i2dS X91.here hx rfl (hb hby at_186) rfl rfl k)
    have Vc95 := V92
    obtain ⟨cl95, Ar95, qc95, S95, Nn95, Hs95, Gs95⟩ := Vc95
    have hin96 : ¬ ((1 : Int32) < 0 ∨ cl95.slots.size ≤ ((1 : Int32)).toNatClampNeg) := inb_of S95 ⟨by decide, by decide⟩
    obtain ⟨T96, h96, X96, e96, W96, st96⟩ := stD X91 hx hZ e91 Ar95 (j := (1 : Int32)) hin96 (g := (mkF m 187 #[.val (.long p0), .second, .val (.int p1), .val (.int p2), .val (.int p3), .val (.int p4), .val (.int p5), .val (.int kk), .val (.int bb0), .val (.int bb1), .val (.int bb2), .val (.int bb3), .val (.int (2 : Int32)), .val (.ref sa), .val (.int (2 : Int32)), .val (.long co), .second, .val (.ref b86), .unset, .unset, .unset, .unset, .unset] [(.double (FP.i2d p3)), (.int (1 : Int32)), (.ref b86)])) rfl rfl (hb hby at_187)
    refine own_Goes.st ?_ st96
    have V97 : Arv Z h96 b86 k86 .double (4 : Int32) [(.double (FP.i2d p2)), (.double (FP.i2d p3)), (.double (0 : UInt64)), (.double (0 : UInt64))] (.double 0) := Arv.set Ar95 qc95 S95 Nn95 Hs95 Gs95 rfl W96 1 rfl (Nat.le_of_ble_eq_true rfl)
    have Z98 : n0 ≤ h96.size := by rw [W96.size]; exact Z93
    have N99 := Fr.snoc X96 N94 ge_b86
    show own_Goes p.tables e below P (T96.setTop (mkF m 188 #[.val (.long p0), .second, .val (.int p1), .val (.int p2), .val (.int p3), .val (.int p4), .val (.int p5), .val (.int kk), .val (.int bb0), .val (.int bb1), .val (.int bb2), .val (.int bb3), .val (.int (2 : Int32)), .val (.ref sa), .val (.int (2 : Int32)), .val (.long co), .second, .val (.ref b86), .unset, .unset, .unset, .unset, .unset] []))
    refine own_Goes.st ?_ (fun _ k => XS.aload X96.here hx rfl (hb hby at_188) rfl rfl k)
    refine own_Goes.st ?_ (fun _ k => XS.iconst X96.here hx rfl (hb hby at_190) k)
    refine own_Goes.st ?_ (fun _ k => XS.iload X96.here hx rfl (hb hby at_191) rfl k)
    refine own_Goes.st ?_ (fun _ k => XS.i2dS X96.here hx rfl (hb hby at_193) rfl rfl k)
    have Vc100 := V97
    obtain ⟨cl100, Ar100, qc100, S100, Nn100, Hs100, Gs100⟩ := Vc100
    have hin101 : ¬ ((2 : Int32) < 0 ∨ cl100.slots.size ≤ ((2 : Int32)).toNatClampNeg) := inb_of S100 ⟨by decide, by decide⟩
    obtain ⟨T101, h101, X101, e101, W101, st101⟩ := stD X96 hx hZ e96 Ar100 (j := (2 : Int32)) hin101 (g := (mkF m 194 #[.val (.long p0), .second, .val (.int p1), .val (.int p2), .val (.int p3), .val (.int p4), .val (.int p5), .val (.int kk), .val (.int bb0), .val (.int bb1), .val (.int bb2), .val (.int bb3), .val (.int (2 : Int32)), .val (.ref sa), .val (.int (2 : Int32)), .val (.long co), .second, .val (.ref b86), .unset, .unset, .unset, .unset, .unset] [(.double (FP.i2d p4)), (.int (2 : Int32)), (.ref b86)])) rfl rfl (hb hby at_194)
    refine own_Goes.st ?_ st101
    have V102 : Arv Z h101 b86 k86 .double (4 : Int32) [(.double (FP.i2d p2)), (.double (FP.i2d p3)), (.double (FP.i2d p4)), (.double (0 : UInt64))] (.double 0) := Arv.set Ar100 qc100 S100 Nn100 Hs100 Gs100 rfl W101 2 rfl (Nat.le_of_ble_eq_true rfl)
    have Z103 : n0 ≤ h101.size := by rw [W101.size]; exact Z98
    have N104 := Fr.snoc X101 N99 ge_b86
    show own_Goes p.tables e below P (T101.setTop (mkF m 195 #[.val (.long p0), .second, .val (.int p1), .val (.int p2), .val (.int p3), .val (.int p4), .val (.int p5), .val (.int kk), .val (.int bb0), .val (.int bb1), .val (.int bb2), .val (.int bb3), .val (.int (2 : Int32)), .val (.ref sa), .val (.int (2 : Int32)), .val (.long co), .second, .val (.ref b86), .unset, .unset, .unset, .unset, .unset] []))
    refine own_Goes.st ?_ (fun _ k => XS.aload X101.here hx rfl (hb hby at_195) rfl rfl k)
    refine own_Goes.st ?_ (fun _ k => XS.iconst X101.here hx rfl (hb hby at_197) k)
    refine own_Goes.st ?_ (fun _ k => XS.iload X101.here hx rfl (hb hby at_198) rfl k)
    refine own_Goes.st ?_ (fun _ k => XS.i2dS X101.here hx rfl (hb hby at_200) rfl rfl k)
    have Vc105 := V102
    obtain ⟨cl105, Ar105, qc105, S105, Nn105, Hs105, Gs105⟩ := Vc105
    have hin106 : ¬ ((3 : Int32) < 0 ∨ cl105.slots.size ≤ ((3 : Int32)).toNatClampNeg) := inb_of S105 ⟨by decide, by decide⟩
    obtain ⟨T106, h106, X106, e106, W106, st106⟩ := stD X101 hx hZ e101 Ar105 (j := (3 : Int32)) hin106 (g := (mkF m 201 #[.val (.long p0), .second, .val (.int p1), .val (.int p2), .val (.int p3), .val (.int p4), .val (.int p5), .val (.int kk), .val (.int bb0), .val (.int bb1), .val (.int bb2), .val (.int bb3), .val (.int (2 : Int32)), .val (.ref sa), .val (.int (2 : Int32)), .val (.long co), .second, .val (.ref b86), .unset, .unset, .unset, .unset, .unset] [(.double (FP.i2d p5)), (.int (3 : Int32)), (.ref b86)])) rfl rfl (hb hby at_201)
    refine own_Goes.st ?_ st106
    have V107 : Arv Z h106 b86 k86 .double (4 : Int32) [(.double (FP.i2d p2)), (.double (FP.i2d p3)), (.double (FP.i2d p4)), (.double (FP.i2d p5))] (.double 0) := Arv.set Ar105 qc105 S105 Nn105 Hs105 Gs105 rfl W106 3 rfl (Nat.le_of_ble_eq_true rfl)
    have Z108 : n0 ≤ h106.size := by rw [W106.size]; exact Z103
    have N109 := Fr.snoc X106 N104 ge_b86
    show own_Goes p.tables e below P (T106.setTop (mkF m 202 #[.val (.long p0), .second, .val (.int p1), .val (.int p2), .val (.int p3), .val (.int p4), .val (.int p5), .val (.int kk), .val (.int bb0), .val (.int bb1), .val (.int bb2), .val (.int bb3), .val (.int (2 : Int32)), .val (.ref sa), .val (.int (2 : Int32)), .val (.long co), .second, .val (.ref b86), .unset, .unset, .unset, .unset, .unset] []))
    obtain ⟨T110, h110, X110, e110, E110, A110, D110, -, st110⟩ := newO X106 hx hZ hown (hw _ (List.mem_of_getElem? (i := 2) rfl)) (hw _ (List.mem_of_getElem? (i := 3) rfl)) (hw _ (List.mem_of_getElem? (i := 4) rfl)) e106 (g := (mkF m 202 #[.val (.long p0), .second, .val (.int p1), .val (.int p2), .val (.int p3), .val (.int p4), .val (.int p5), .val (.int kk), .val (.int bb0), .val (.int bb1), .val (.int bb2), .val (.int bb3), .val (.int (2 : Int32)), .val (.ref sa), .val (.int (2 : Int32)), .val (.long co), .second, .val (.ref b86), .unset, .unset, .unset, .unset, .unset] [])) rfl (hb hby at_202) (by decide) (by decide)
    obtain ⟨a110, g110⟩ : ∃ z, z = h106.size := ⟨_, rfl⟩
    rw [← g110] at A110 D110 st110
    have F111 : Arv Z h106 sa ks .int (2 : Int32) [(.int s0), (.int s1)] (.int 0) := (((((Vs.ext E86).other W91 ne87).other W96 ne87).other W101 ne87).other W106 ne87)
    have ne112 : sa ≠ a110 := Nat.ne_of_lt (Nat.lt_of_lt_of_eq F111.lt g110.symm)
    have F113 : Exa Z h106 b86 "[D" := ((((J86.wr W91).wr W96).wr W101).wr W106)
    have ne114 : b86 ≠ a110 := Nat.ne_of_lt (Nat.lt_of_lt_of_eq F113.lt g110.symm)
    have ge_a110 : n0 ≤ a110 := Nat.le_trans Z108 (Nat.le_of_eq g110.symm)
    refine own_Goes.st ?_ st110
    have Z115 : n0 ≤ h110.size := Nat.le_trans Z108 E110.1
    have F116 : Fld Z h110 a110 "com/example/pushmap/pushmap/schedule/Column" "object" "I" (.int (0 : Int32)) := D110 (Or.inr (hw _ (List.mem_of_getElem? (i := 12) rfl))) (ty := .int) (by decide)
    have F117 : Fld Z h110 a110 "com/example/pushmap/pushmap/schedule/Column" "slots" "[I" .null := D110 (Or.inr (hw _ (List.mem_of_getElem? (i := 14) rfl))) (ty := (.array .int)) (by decide)
    have F118 : Fld Z h110 a110 "com/example/pushmap/pushmap/schedule/Column" "cost" "J" (.long (0 : Int64)) := D110 (Or.inr (hw _ (List.mem_of_getElem? (i := 16) rfl))) (ty := .long) (by decide)
    show own_Goes p.tables e below P (T110.setTop (mkF m 205 #[.val (.long p0), .second, .val (.int p1), .val (.int p2), .val (.int p3), .val (.int p4), .val (.int p5), .val (.int kk), .val (.int bb0), .val (.int bb1), .val (.int bb2), .val (.int bb3), .val (.int (2 : Int32)), .val (.ref sa), .val (.int (2 : Int32)), .val (.long co), .second, .val (.ref b86), .unset, .unset, .unset, .unset, .unset] [(.ref a110)]))
    refine own_Goes.st ?_ (fun _ k => XS.dup X110.here hx rfl (hb hby at_205) rfl rfl k)
    refine own_Goes.st ?_ (fun _ k => XS.iloadN X110.here hx rfl (hb hby at_206) rfl k)
    refine own_Goes.st ?_ (fun _ k => XS.iconst X110.here hx rfl (hb hby at_207) k)
    refine own_Goes.st ?_ (fun _ k => XS.ishr X110.here hx rfl (hb hby at_208) rfl k)
    refine own_Goes.st ?_ (fun _ k => XS.aload X110.here hx rfl (hb hby at_209) rfl rfl k)
    refine own_Goes.st ?_ (fun _ k => XS.lload X110.here hx rfl (hb hby at_211) rfl k)
    show own_Goes p.tables e below P (T110.setTop (mkF m 213 #[.val (.long p0), .second, .val (.int p1), .val (.int p2), .val (.int p3), .val (.int p4), .val (.int p5), .val (.int kk), .val (.int bb0), .val (.int bb1), .val (.int bb2), .val (.int bb3), .val (.int (2 : Int32)), .val (.ref sa), .val (.int (2 : Int32)), .val (.long co), .second, .val (.ref b86), .unset, .unset, .unset, .unset, .unset] [(.long co), (.ref sa), (.int (p1 >>> ((4 : Int32) &&& 31))), (.ref a110), (.ref a110)]))
    obtain ⟨_, _, ⟨T119, L119, k119, n119⟩, -, X119, ⟨Lc119, hQ119, l119, y119, z119⟩, st119⟩ := X110.specialBack hx (y := (⟨"com/example/pushmap/pushmap/schedule/Column", "<init>", "(I[IJ)V"⟩ : MethodName)) rfl hown (mvT hZ (hw _ (List.mem_of_getElem? (i := 5) rfl))) (mvT hZ (hw _ (List.mem_of_getElem? (i := 6) rfl))) (mvT hZ (hw _ (List.mem_of_getElem? (i := 7) rfl))) (by decide) (backOf (W := 1) (rm_new l Z a0 hw [] a110 (p1 >>> ((4 : Int32) &&& 31)) sa co (.int (0 : Int32)) .null (.long (0 : Int64)) h110 n0 Z115 A110 F116 F117 F118 ge_a110) hZ (hw _ (List.mem_of_getElem? (i := 7) rfl)) (hw _ (List.mem_of_getElem? (i := 4) rfl)) (by decide) (by decide)) (g := (mkF m 213 #[.val (.long p0), .second, .val (.int p1), .val (.int p2), .val (.int p3), .val (.int p4), .val (.int p5), .val (.int kk), .val (.int bb0), .val (.int bb1), .val (.int bb2), .val (.int bb3), .val (.int (2 : Int32)), .val (.ref sa), .val (.int (2 : Int32)), .val (.long co), .second, .val (.ref b86), .unset, .unset, .unset, .unset, .unset] [(.long co), (.ref sa), (.int (p1 >>> ((4 : Int32) &&& 31))), (.ref a110), (.ref a110)])) rfl (by rw [hml]; rfl) (Steps.refl _) (a := a110) (argsL := [(.int (p1 >>> ((4 : Int32) &&& 31))), (.ref sa), (.long co)]) (rest := [(.ref a110)]) (lenOf own_pd__28_I_5b_IJ_29_V rfl) rfl (by show 2 * 0 + _ ≤ _; exact Nat.le_of_eq rfl) (hb hby at_213) (fun _ _ => ⟨rfl, e110, (by decide : 3 + 0 ≤ _), (by decide : 11 + 0 ≤ _)⟩)
    dsimp only [Pt.U, Pt.locs, Pt.cells, Pt.slots] at X119 l119 y119 z119 st119 hQ119
    rw [l119, y119, z119] at X119
    obtain ⟨rfl, Nq119, K119, f120, f121, f122⟩ := hQ119
    have N119 := Fr.app N109 Nq119
    refine own_Goes.tr st119 ?_
    have Z123 : n0 ≤ T119.heap.size := Nat.le_trans Z115 K119.1
    show own_Goes p.tables e below P (T119.setTop (mkF m 216 #[.val (.long p0), .second, .val (.int p1), .val (.int p2), .val (.int p3), .val (.int p4), .val (.int p5), .val (.int kk), .val (.int bb0), .val (.int bb1), .val (.int bb2), .val (.int bb3), .val (.int (2 : Int32)), .val (.ref sa), .val (.int (2 : Int32)), .val (.long co), .second, .val (.ref b86), .unset, .unset, .unset, .unset, .unset] [(.ref a110)]))
    refine own_Goes.st ?_ (fun _ k => XS.astore X119.here hx rfl (hb hby at_216) rfl rfl (l' := #[.val (.long p0), .second, .val (.int p1), .val (.int p2), .val (.int p3), .val (.int p4), .val (.int p5), .val (.int kk), .val (.int bb0), .val (.int bb1), .val (.int bb2), .val (.int bb3), .val (.int (2 : Int32)), .val (.ref sa), .val (.int (2 : Int32)), .val (.long co), .second, .val (.ref b86), .val (.ref a110), .unset, .unset, .unset, .unset]) rfl k)
    refine own_Goes.st ?_ (fun _ k => XS.aload X119.here hx rfl (hb hby at_218) rfl rfl k)
    refine own_Goes.st ?_ (fun _ k => XS.aload X119.here hx rfl (hb hby at_220) rfl rfl k)
    have F124 : Arv Z T119.heap sa ks .int (2 : Int32) [(.int s0), (.int s1)] (.int 0) := ((F111.ext E110).keep K119 (ninS ne112 nin0))
    have F125 : Arv Z T119.heap b86 k86 .double (4 : Int32) [(.double (FP.i2d p2)), (.double (FP.i2d p3)), (.double (FP.i2d p4)), (.double (FP.i2d p5))] (.double 0) := ((V107.ext E110).keep K119 (ninS ne114 nin0))
    obtain ⟨cq126, kq126, q126a, q126b, q126c⟩ := isOf hZ rfl f120
    obtain ⟨_, _, ⟨T126, L126, k126, n126⟩, -, X126, ⟨Lc126, hQ126, l126, y126, z126⟩, st126⟩ := X119.virtualBack hx (y := (⟨"com/example/pushmap/pushmap/schedule/Column", "priced", "([D)D"⟩ : MethodName)) (z := (⟨"com/example/pushmap/pushmap/schedule/Column", "priced", "([D)D"⟩ : MethodName)) hown (mvT hZ (hw _ (List.mem_of_getElem? (i := 17) rfl))) (mvT hZ (hw _ (List.mem_of_getElem? (i := 18) rfl))) (notFace_of_selects (args := #[]) (mvT hZ (hw _ (List.mem_of_getElem? (i := 20) rfl)))) (mvT hZ (hw _ (List.mem_of_getElem? (i := 20) rfl))) (mvT hZ (hw _ (List.mem_of_getElem? (i := 19) rfl))) (by decide) (backOf (W := 0) (rm_priced2 l Z a0 hw [] a110 b86 sa co ks k86 p2 p3 p4 p5 s0 s1 T119.heap n0 Z123 f121 f122 F124 F125 hco hs0 hs1) hZ (hw _ (List.mem_of_getElem? (i := 21) rfl)) (hw _ (List.mem_of_getElem? (i := 4) rfl)) (by decide) (by decide)) q126a q126c (g := (mkF m 222 #[.val (.long p0), .second, .val (.int p1), .val (.int p2), .val (.int p3), .val (.int p4), .val (.int p5), .val (.int kk), .val (.int bb0), .val (.int bb1), .val (.int bb2), .val (.int bb3), .val (.int (2 : Int32)), .val (.ref sa), .val (.int (2 : Int32)), .val (.long co), .second, .val (.ref b86), .val (.ref a110), .unset, .unset, .unset, .unset] [(.ref b86), (.ref a110)])) rfl (by rw [hml]; rfl) (Steps.refl _) (argsL := [(.ref b86)]) (rest := []) (lenOf own_pd__28__5b_D_29_D rfl) rfl (by show 2 * 0 + _ ≤ _; exact Nat.le_of_eq rfl) (hb hby at_222) (fun _ _ => ⟨rfl, rfl, (by decide : 3 + 0 ≤ _), (by decide : 11 + 0 ≤ _)⟩)
    dsimp only [Pt.U, Pt.locs, Pt.cells, Pt.slots] at X126 l126 y126 z126 st126 hQ126
    rw [l126, y126, z126] at X126
    obtain ⟨rfl, Nq126, e126⟩ := hQ126
    have N126 := Fr.app N119 Nq126
    refine own_Goes.tr st126 ?_
    show own_Goes p.tables e below P (T126.setTop (mkF m 225 #[.val (.long p0), .second, .val (.int p1), .val (.int p2), .val (.int p3), .val (.int p4), .val (.int p5), .val (.int kk), .val (.int bb0), .val (.int bb1), .val (.int bb2), .val (.int bb3), .val (.int (2 : Int32)), .val (.ref sa), .val (.int (2 : Int32)), .val (.long co), .second, .val (.ref b86), .val (.ref a110), .unset, .unset, .unset, .unset] [(.double (FP.l2d ((co + own_pick p2 p3 p4 p5 s0) + own_pick p2 p3 p4 p5 s1)))]))
    refine own_Goes.st ?_ (fun _ k => XS.dstore X126.here hx rfl (hb hby at_225) rfl (l' := #[.val (.long p0), .second, .val (.int p1), .val (.int p2), .val (.int p3), .val (.int p4), .val (.int p5), .val (.int kk), .val (.int bb0), .val (.int bb1), .val (.int bb2), .val (.int bb3), .val (.int (2 : Int32)), .val (.ref sa), .val (.int (2 : Int32)), .val (.long co), .second, .val (.ref b86), .val (.ref a110), .val (.double (FP.l2d ((co + own_pick p2 p3 p4 p5 s0) + own_pick p2 p3 p4 p5 s1))), .second, .unset, .unset]) rfl k)
    refine own_Goes.st ?_ (fun _ k => XS.lload X126.here hx rfl (hb hby at_227) rfl k)
    refine own_Goes.st ?_ (fun _ k => XS.lstore X126.here hx rfl (hb hby at_229) rfl (l' := #[.val (.long p0), .second, .val (.int p1), .val (.int p2), .val (.int p3), .val (.int p4), .val (.int p5), .val (.int kk), .val (.int bb0), .val (.int bb1), .val (.int bb2), .val (.int bb3), .val (.int (2 : Int32)), .val (.ref sa), .val (.int (2 : Int32)), .val (.long co), .second, .val (.ref b86), .val (.ref a110), .val (.double (FP.l2d ((co + own_pick p2 p3 p4 p5 s0) + own_pick p2 p3 p4 p5 s1))), .second, .val (.long co), .second]) rfl k)
    have J4 : ∀ (rr : Int64) (_ : rr = (own_one bb3 (own_one bb2 (own_one bb1 (own_one bb0 co p2) p3) p4) p5)), own_Goes p.tables e below P (T126.setTop (mkF m 282 #[.val (.long p0), .second, .val (.int p1), .val (.int p2), .val (.int p3), .val (.int p4), .val (.int p5), .val (.int kk), .val (.int bb0), .val (.int bb1), .val (.int bb2), .val (.int bb3), .val (.int (2 : Int32)), .val (.ref sa), .val (.int (2 : Int32)), .val (.long co), .second, .val (.ref b86), .val (.ref a110), .val (.double (FP.l2d ((co + own_pick p2 p3 p4 p5 s0) + own_pick p2 p3 p4 p5 s1))), .second, .val (.long rr), .second] [])) := by
      intro rr hrr
      refine own_Goes.st ?_ (fun _ k => XS.dload X126.here hx rfl (hb hby at_282) rfl k)
      refine own_Goes.st ?_ (fun _ k => XS.lload X126.here hx rfl (hb hby at_284) rfl k)
      refine own_Goes.st ?_ (fun _ k => XS.l2dS X126.here hx rfl (hb hby at_286) rfl rfl k)
      show own_Goes p.tables e below P (T126.setTop (mkF m 287 #[.val (.long p0), .second, .val (.int p1), .val (.int p2), .val (.int p3), .val (.int p4), .val (.int p5), .val (.int kk), .val (.int bb0), .val (.int bb1), .val (.int bb2), .val (.int bb3), .val (.int (2 : Int32)), .val (.ref sa), .val (.int (2 : Int32)), .val (.long co), .second, .val (.ref b86), .val (.ref a110), .val (.double (FP.l2d ((co + own_pick p2 p3 p4 p5 s0) + own_pick p2 p3 p4 p5 s1))), .second, .val (.long rr), .second] [(.double (FP.l2d rr)), (.double (FP.l2d ((co + own_pick p2 p3 p4 p5 s0) + own_pick p2 p3 p4 p5 s1)))]))
      refine own_Goes.st ?_ (fun _ k => XS.dcmpS X126.here hx rfl (hb hby at_287) rfl rfl k)
      show own_Goes p.tables e below P (T126.setTop (mkF m 288 #[.val (.long p0), .second, .val (.int p1), .val (.int p2), .val (.int p3), .val (.int p4), .val (.int p5), .val (.int kk), .val (.int bb0), .val (.int bb1), .val (.int bb2), .val (.int bb3), .val (.int (2 : Int32)), .val (.ref sa), .val (.int (2 : Int32)), .val (.long co), .second, .val (.ref b86), .val (.ref a110), .val (.double (FP.l2d ((co + own_pick p2 p3 p4 p5 s0) + own_pick p2 p3 p4 p5 s1))), .second, .val (.long rr), .second] [(.int (cmpValue (FP.dcmp (FP.l2d ((co + own_pick p2 p3 p4 p5 s0) + own_pick p2 p3 p4 p5 s1)) (FP.l2d rr)) .l))]))
      rw [own_cmp (hsum.trans hrr.symm) .l]
      show own_Goes p.tables e below P (T126.setTop (mkF m 288 #[.val (.long p0), .second, .val (.int p1), .val (.int p2), .val (.int p3), .val (.int p4), .val (.int p5), .val (.int kk), .val (.int bb0), .val (.int bb1), .val (.int bb2), .val (.int bb3), .val (.int (2 : Int32)), .val (.ref sa), .val (.int (2 : Int32)), .val (.long co), .second, .val (.ref b86), .val (.ref a110), .val (.double (FP.l2d ((co + own_pick p2 p3 p4 p5 s0) + own_pick p2 p3 p4 p5 s1))), .second, .val (.long rr), .second] [(.int (0 : Int32))]))
      refine own_Goes.st ?_ (fun _ k => XS.ifNo X126.here hx rfl (hb hby at_288) rfl ((if0 _ _).trans (teq (by decide : (0 : Int32) = (0 : Int32))).2) k)
      refine own_Goes.st ?_ (fun _ k => XS.iconst X126.here hx rfl (hb hby at_291) k)
      refine own_Goes.st ?_ (fun _ k => XS.goto X126.here hx rfl (pc0 := 292) (pc' := 296) rfl (hb hby at_292) (by decide) (by decide) k)
      obtain ⟨fs, hr, hrun, hended, hW, hsame⟩ := X126.leave (v := some (.int (1 : Int32))) (fun h => by rw [Bd.returns] at h; cases h)
      exact own_Goes.fin _ _ (retOut X126 hx (t := .boolean) Bd.returns rfl (Or.inl ⟨rfl, Or.inr (Or.inl rfl), _, rfl⟩) (hb hby at_296) hr) (hPP _ _ ⟨hrun, hended, _, _, rfl, (by show Q_law n0 _ _; exact ⟨rfl, N126⟩), ⟨_, rfl⟩, hW, hsame.mono (by decide) (by decide)⟩)
    have J3 : ∀ (rr : Int64) (_ : rr = (own_one bb2 (own_one bb1 (own_one bb0 co p2) p3) p4)), own_Goes p.tables e below P (T126.setTop (mkF m 269 #[.val (.long p0), .second, .val (.int p1), .val (.int p2), .val (.int p3), .val (.int p4), .val (.int p5), .val (.int kk), .val (.int bb0), .val (.int bb1), .val (.int bb2), .val (.int bb3), .val (.int (2 : Int32)), .val (.ref sa), .val (.int (2 : Int32)), .val (.long co), .second, .val (.ref b86), .val (.ref a110), .val (.double (FP.l2d ((co + own_pick p2 p3 p4 p5 s0) + own_pick p2 p3 p4 p5 s1))), .second, .val (.long rr), .second] [])) := by
      intro rr hrr
      refine own_Goes.st ?_ (fun _ k => XS.iload X126.here hx rfl (hb hby at_269) rfl k)
      by_cases hb3 : bb3 = (0 : Int32)
      · skip
        refine own_Goes.st ?_ (fun _ k => XS.ifYes X126.here hx rfl (pc0 := 271) (pc' := 282) rfl (hb hby at_271) rfl ((if0 _ _).trans (teq hb3).1) (by decide) (by decide) k)
        exact (J4 _ (by rw [own_one, if_pos hb3]; exact hrr))
      · skip
        refine own_Goes.st ?_ (fun _ k => XS.ifNo X126.here hx rfl (hb hby at_271) rfl ((if0 _ _).trans (feq hb3).1) k)
        refine own_Goes.st ?_ (fun _ k => XS.lload X126.here hx rfl (hb hby at_274) rfl k)
        show own_Goes p.tables e below P (T126.setTop (mkF m 276 #[.val (.long p0), .second, .val (.int p1), .val (.int p2), .val (.int p3), .val (.int p4), .val (.int p5), .val (.int kk), .val (.int bb0), .val (.int bb1), .val (.int bb2), .val (.int bb3), .val (.int (2 : Int32)), .val (.ref sa), .val (.int (2 : Int32)), .val (.long co), .second, .val (.ref b86), .val (.ref a110), .val (.double (FP.l2d ((co + own_pick p2 p3 p4 p5 s0) + own_pick p2 p3 p4 p5 s1))), .second, .val (.long rr), .second] [(.long rr)]))
        refine own_Goes.st ?_ (fun _ k => XS.iload X126.here hx rfl (hb hby at_276) rfl k)
        refine own_Goes.st ?_ (fun _ k => XS.i2l X126.here hx rfl (hb hby at_278) rfl k)
        refine own_Goes.st ?_ (fun _ k => XS.ladd X126.here hx rfl (hb hby at_279) rfl k)
        refine own_Goes.st ?_ (fun _ k => XS.lstore X126.here hx rfl (hb hby at_280) rfl (l' := #[.val (.long p0), .second, .val (.int p1), .val (.int p2), .val (.int p3), .val (.int p4), .val (.int p5), .val (.int kk), .val (.int bb0), .val (.int bb1), .val (.int bb2), .val (.int bb3), .val (.int (2 : Int32)), .val (.ref sa), .val (.int (2 : Int32)), .val (.long co), .second, .val (.ref b86), .val (.ref a110), .val (.double (FP.l2d ((co + own_pick p2 p3 p4 p5 s0) + own_pick p2 p3 p4 p5 s1))), .second, .val (.long (rr + ((p5).toInt64))), .second]) rfl k)
        exact (J4 _ (by rw [own_one, if_neg hb3]; rw [hrr]))
    have J2 : ∀ (rr : Int64) (_ : rr = (own_one bb1 (own_one bb0 co p2) p3)), own_Goes p.tables e below P (T126.setTop (mkF m 256 #[.val (.long p0), .second, .val (.int p1), .val (.int p2), .val (.int p3), .val (.int p4), .val (.int p5), .val (.int kk), .val (.int bb0), .val (.int bb1), .val (.int bb2), .val (.int bb3), .val (.int (2 : Int32)), .val (.ref sa), .val (.int (2 : Int32)), .val (.long co), .second, .val (.ref b86), .val (.ref a110), .val (.double (FP.l2d ((co + own_pick p2 p3 p4 p5 s0) + own_pick p2 p3 p4 p5 s1))), .second, .val (.long rr), .second] [])) := by
      intro rr hrr
      refine own_Goes.st ?_ (fun _ k => XS.iload X126.here hx rfl (hb hby at_256) rfl k)
      by_cases hb2 : bb2 = (0 : Int32)
      · skip
        refine own_Goes.st ?_ (fun _ k => XS.ifYes X126.here hx rfl (pc0 := 258) (pc' := 269) rfl (hb hby at_258) rfl ((if0 _ _).trans (teq hb2).1) (by decide) (by decide) k)
        exact (J3 _ (by rw [own_one, if_pos hb2]; exact hrr))
      · skip
        refine own_Goes.st ?_ (fun _ k => XS.ifNo X126.here hx rfl (hb hby at_258) rfl ((if0 _ _).trans (feq hb2).1) k)
        refine own_Goes.st ?_ (fun _ k => XS.lload X126.here hx rfl (hb hby at_261) rfl k)
        show own_Goes p.tables e below P (T126.setTop (mkF m 263 #[.val (.long p0), .second, .val (.int p1), .val (.int p2), .val (.int p3), .val (.int p4), .val (.int p5), .val (.int kk), .val (.int bb0), .val (.int bb1), .val (.int bb2), .val (.int bb3), .val (.int (2 : Int32)), .val (.ref sa), .val (.int (2 : Int32)), .val (.long co), .second, .val (.ref b86), .val (.ref a110), .val (.double (FP.l2d ((co + own_pick p2 p3 p4 p5 s0) + own_pick p2 p3 p4 p5 s1))), .second, .val (.long rr), .second] [(.long rr)]))
        refine own_Goes.st ?_ (fun _ k => XS.iload X126.here hx rfl (hb hby at_263) rfl k)
        refine own_Goes.st ?_ (fun _ k => XS.i2l X126.here hx rfl (hb hby at_265) rfl k)
        refine own_Goes.st ?_ (fun _ k => XS.ladd X126.here hx rfl (hb hby at_266) rfl k)
        refine own_Goes.st ?_ (fun _ k => XS.lstore X126.here hx rfl (hb hby at_267) rfl (l' := #[.val (.long p0), .second, .val (.int p1), .val (.int p2), .val (.int p3), .val (.int p4), .val (.int p5), .val (.int kk), .val (.int bb0), .val (.int bb1), .val (.int bb2), .val (.int bb3), .val (.int (2 : Int32)), .val (.ref sa), .val (.int (2 : Int32)), .val (.long co), .second, .val (.ref b86), .val (.ref a110), .val (.double (FP.l2d ((co + own_pick p2 p3 p4 p5 s0) + own_pick p2 p3 p4 p5 s1))), .second, .val (.long (rr + ((p4).toInt64))), .second]) rfl k)
        exact (J3 _ (by rw [own_one, if_neg hb2]; rw [hrr]))
    have J1 : ∀ (rr : Int64) (_ : rr = (own_one bb0 co p2)), own_Goes p.tables e below P (T126.setTop (mkF m 243 #[.val (.long p0), .second, .val (.int p1), .val (.int p2), .val (.int p3), .val (.int p4), .val (.int p5), .val (.int kk), .val (.int bb0), .val (.int bb1), .val (.int bb2), .val (.int bb3), .val (.int (2 : Int32)), .val (.ref sa), .val (.int (2 : Int32)), .val (.long co), .second, .val (.ref b86), .val (.ref a110), .val (.double (FP.l2d ((co + own_pick p2 p3 p4 p5 s0) + own_pick p2 p3 p4 p5 s1))), .second, .val (.long rr), .second] [])) := by
      intro rr hrr
      refine own_Goes.st ?_ (fun _ k => XS.iload X126.here hx rfl (hb hby at_243) rfl k)
      by_cases hb1 : bb1 = (0 : Int32)
      · skip
        refine own_Goes.st ?_ (fun _ k => XS.ifYes X126.here hx rfl (pc0 := 245) (pc' := 256) rfl (hb hby at_245) rfl ((if0 _ _).trans (teq hb1).1) (by decide) (by decide) k)
        exact (J2 _ (by rw [own_one, if_pos hb1]; exact hrr))
      · skip
        refine own_Goes.st ?_ (fun _ k => XS.ifNo X126.here hx rfl (hb hby at_245) rfl ((if0 _ _).trans (feq hb1).1) k)
        refine own_Goes.st ?_ (fun _ k => XS.lload X126.here hx rfl (hb hby at_248) rfl k)
        show own_Goes p.tables e below P (T126.setTop (mkF m 250 #[.val (.long p0), .second, .val (.int p1), .val (.int p2), .val (.int p3), .val (.int p4), .val (.int p5), .val (.int kk), .val (.int bb0), .val (.int bb1), .val (.int bb2), .val (.int bb3), .val (.int (2 : Int32)), .val (.ref sa), .val (.int (2 : Int32)), .val (.long co), .second, .val (.ref b86), .val (.ref a110), .val (.double (FP.l2d ((co + own_pick p2 p3 p4 p5 s0) + own_pick p2 p3 p4 p5 s1))), .second, .val (.long rr), .second] [(.long rr)]))
        refine own_Goes.st ?_ (fun _ k => XS.iload X126.here hx rfl (hb hby at_250) rfl k)
        refine own_Goes.st ?_ (fun _ k => XS.i2l X126.here hx rfl (hb hby at_252) rfl k)
        refine own_Goes.st ?_ (fun _ k => XS.ladd X126.here hx rfl (hb hby at_253) rfl k)
        refine own_Goes.st ?_ (fun _ k => XS.lstore X126.here hx rfl (hb hby at_254) rfl (l' := #[.val (.long p0), .second, .val (.int p1), .val (.int p2), .val (.int p3), .val (.int p4), .val (.int p5), .val (.int kk), .val (.int bb0), .val (.int bb1), .val (.int bb2), .val (.int bb3), .val (.int (2 : Int32)), .val (.ref sa), .val (.int (2 : Int32)), .val (.long co), .second, .val (.ref b86), .val (.ref a110), .val (.double (FP.l2d ((co + own_pick p2 p3 p4 p5 s0) + own_pick p2 p3 p4 p5 s1))), .second, .val (.long (rr + ((p3).toInt64))), .second]) rfl k)
        exact (J2 _ (by rw [own_one, if_neg hb1]; rw [hrr]))
    refine own_Goes.st ?_ (fun _ k => XS.iload X126.here hx rfl (hb hby at_231) rfl k)
    by_cases hb0 : bb0 = (0 : Int32)
    · skip
      refine own_Goes.st ?_ (fun _ k => XS.ifYes X126.here hx rfl (pc0 := 233) (pc' := 243) rfl (hb hby at_233) rfl ((if0 _ _).trans (teq hb0).1) (by decide) (by decide) k)
      exact (J1 _ (by rw [own_one, if_pos hb0]))
    · skip
      refine own_Goes.st ?_ (fun _ k => XS.ifNo X126.here hx rfl (hb hby at_233) rfl ((if0 _ _).trans (feq hb0).1) k)
      refine own_Goes.st ?_ (fun _ k => XS.lload X126.here hx rfl (hb hby at_236) rfl k)
      show own_Goes p.tables e below P (T126.setTop (mkF m 238 #[.val (.long p0), .second, .val (.int p1), .val (.int p2), .val (.int p3), .val (.int p4), .val (.int p5), .val (.int kk), .val (.int bb0), .val (.int bb1), .val (.int bb2), .val (.int bb3), .val (.int (2 : Int32)), .val (.ref sa), .val (.int (2 : Int32)), .val (.long co), .second, .val (.ref b86), .val (.ref a110), .val (.double (FP.l2d ((co + own_pick p2 p3 p4 p5 s0) + own_pick p2 p3 p4 p5 s1))), .second, .val (.long co), .second] [(.long co)]))
      refine own_Goes.st ?_ (fun _ k => XS.iloadN X126.here hx rfl (hb hby at_238) rfl k)
      refine own_Goes.st ?_ (fun _ k => XS.i2l X126.here hx rfl (hb hby at_239) rfl k)
      refine own_Goes.st ?_ (fun _ k => XS.ladd X126.here hx rfl (hb hby at_240) rfl k)
      refine own_Goes.st ?_ (fun _ k => XS.lstore X126.here hx rfl (hb hby at_241) rfl (l' := #[.val (.long p0), .second, .val (.int p1), .val (.int p2), .val (.int p3), .val (.int p4), .val (.int p5), .val (.int kk), .val (.int bb0), .val (.int bb1), .val (.int bb2), .val (.int bb3), .val (.int (2 : Int32)), .val (.ref sa), .val (.int (2 : Int32)), .val (.long co), .second, .val (.ref b86), .val (.ref a110), .val (.double (FP.l2d ((co + own_pick p2 p3 p4 p5 s0) + own_pick p2 p3 p4 p5 s1))), .second, .val (.long (co + ((p2).toInt64))), .second]) rfl k)
      exact (J1 _ (by rw [own_one, if_neg hb0]))
  have T3n : ∀ (T127 : State) (lo127 : List Loc) (X127 : Stand p l e room_1 s m #[(.long p0), (.int p1), (.int p2), (.int p3), (.int p4), (.int p5)] below meth c T127 lo127 1 4) (h127 : Heap) (e127 : T127.heap = h127) (N127 : Fr n0 lo127) (Z127 : n0 ≤ h127.size) (sa : Addr) (ks : ClassId) (kk bb0 bb1 bb2 bb3 s0 s1 s2 : Int32) (co : Int64) (_ : Arv Z h127 sa ks .int (3 : Int32) [(.int s0), (.int s1), (.int s2)] (.int 0)) (_ : own_in co 562949953421312) (_ : ¬ s0 < 0 ∧ s0 < 4) (_ : ¬ s1 < 0 ∧ s1 < 4) (_ : ¬ s2 < 0 ∧ s2 < 4) (_ : (((co + own_pick p2 p3 p4 p5 s0) + own_pick p2 p3 p4 p5 s1) + own_pick p2 p3 p4 p5 s2) = own_ref co bb0 bb1 bb2 bb3 p2 p3 p4 p5), own_Goes p.tables e below P (T127.setTop (mkF m 170 #[.val (.long p0), .second, .val (.int p1), .val (.int p2), .val (.int p3), .val (.int p4), .val (.int p5), .val (.int kk), .val (.int bb0), .val (.int bb1), .val (.int bb2), .val (.int bb3), .val (.int (3 : Int32)), .val (.ref sa), .val (.int (3 : Int32)), .val (.long co), .second, .unset, .unset, .unset, .unset, .unset, .unset] [])) := by
    intro T127 lo127 X127 h127 e127 N127 Z127 sa ks kk bb0 bb1 bb2 bb3 s0 s1 s2 co Vs hco hs0 hs1 hs2 hsum
    refine own_Goes.st ?_ (fun _ k => XS.iconst X127.here hx rfl (hb hby at_170) k)
    obtain ⟨T128, h128, k128, X128, e128, E128, A128, J128, st128⟩ := newPE X127 hx hZ (hw _ (List.mem_of_getElem? (i := 1) rfl)) e127 (g := (mkF m 171 #[.val (.long p0), .second, .val (.int p1), .val (.int p2), .val (.int p3), .val (.int p4), .val (.int p5), .val (.int kk), .val (.int bb0), .val (.int bb1), .val (.int bb2), .val (.int bb3), .val (.int (3 : Int32)), .val (.ref sa), .val (.int (3 : Int32)), .val (.long co), .second, .unset, .unset, .unset, .unset, .unset, .unset] [(.int (4 : Int32))])) rfl (hb hby at_171) rfl (by decide) (cap := 4) (by decide) (by decide) (by decide) (by decide) (ad := "[D") rfl
    obtain ⟨b128, g128⟩ : ∃ z, z = h127.size := ⟨_, rfl⟩
    rw [← g128] at A128 J128 st128
    have ne129 : sa ≠ b128 := Nat.ne_of_lt (Nat.lt_of_lt_of_eq Vs.lt g128.symm)
    have ge_b128 : n0 ≤ b128 := Nat.le_trans Z127 (Nat.le_of_eq g128.symm)
    refine own_Goes.st ?_ st128
    have Z130 : n0 ≤ h128.size := Nat.le_trans Z127 E128.1
    have V131 : Arv Z h128 b128 k128 .double (4 : Int32) [(.double (0 : UInt64)), (.double (0 : UInt64)), (.double (0 : UInt64)), (.double (0 : UInt64))] (.double 0) := (Arv.new A128 (by decide)).pad (pad_rep [] _ 4)
    show own_Goes p.tables e below P (T128.setTop (mkF m 173 #[.val (.long p0), .second, .val (.int p1), .val (.int p2), .val (.int p3), .val (.int p4), .val (.int p5), .val (.int kk), .val (.int bb0), .val (.int bb1), .val (.int bb2), .val (.int bb3), .val (.int (3 : Int32)), .val (.ref sa), .val (.int (3 : Int32)), .val (.long co), .second, .unset, .unset, .unset, .unset, .unset, .unset] [(.ref b128)]))
    refine own_Goes.st ?_ (fun _ k => XS.astore X128.here hx rfl (hb hby at_173) rfl rfl (l' := #[.val (.long p0), .second, .val (.int p1), .val (.int p2), .val (.int p3), .val (.int p4), .val (.int p5), .val (.int kk), .val (.int bb0), .val (.int bb1), .val (.int bb2), .val (.int bb3), .val (.int (3 : Int32)), .val (.ref sa), .val (.int (3 : Int32)), .val (.long co), .second, .val (.ref b128), .unset, .unset, .unset, .unset, .unset]) rfl k)
    refine own_Goes.st ?_ (fun _ k => XS.aload X128.here hx rfl (hb hby at_175) rfl rfl k)
    refine own_Goes.st ?_ (fun _ k => XS.iconst X128.here hx rfl (hb hby at_177) k)
    refine own_Goes.st ?_ (fun _ k => XS.iloadN X128.here hx rfl (hb hby at_178) rfl k)
    refine own_Goes.st ?_ (fun _ k => XS.i2dS X128.here hx rfl (hb hby at_179) rfl rfl k)
    have Vc132 := V131
    obtain ⟨cl132, Ar132, qc132, S132, Nn132, Hs132, Gs132⟩ := Vc132
    have hin133 : ¬ ((0 : Int32) < 0 ∨ cl132.slots.size ≤ ((0 : Int32)).toNatClampNeg) := inb_of S132 ⟨by decide, by decide⟩
    obtain ⟨T133, h133, X133, e133, W133, st133⟩ := stD X128 hx hZ e128 Ar132 (j := (0 : Int32)) hin133 (g := (mkF m 180 #[.val (.long p0), .second, .val (.int p1), .val (.int p2), .val (.int p3), .val (.int p4), .val (.int p5), .val (.int kk), .val (.int bb0), .val (.int bb1), .val (.int bb2), .val (.int bb3), .val (.int (3 : Int32)), .val (.ref sa), .val (.int (3 : Int32)), .val (.long co), .second, .val (.ref b128), .unset, .unset, .unset, .unset, .unset] [(.double (FP.i2d p2)), (.int (0 : Int32)), (.ref b128)])) rfl rfl (hb hby at_180)
    refine own_Goes.st ?_ st133
    have V134 : Arv Z h133 b128 k128 .double (4 : Int32) [(.double (FP.i2d p2)), (.double (0 : UInt64)), (.double (0 : UInt64)), (.double (0 : UInt64))] (.double 0) := Arv.set Ar132 qc132 S132 Nn132 Hs132 Gs132 rfl W133 0 rfl (Nat.le_of_ble_eq_true rfl)
    have Z135 : n0 ≤ h133.size := by rw [W133.size]; exact Z130
    have N136 := Fr.snoc X133 N127 ge_b128
    show own_Goes p.tables e below P (T133.setTop (mkF m 181 #[.val (.long p0), .second, .val (.int p1), .val (.int p2), .val (.int p3), .val (.int p4), .val (.int p5), .val (.int kk), .val (.int bb0), .val (.int bb1), .val (.int bb2), .val (.int bb3), .val (.int (3 : Int32)), .val (.ref sa), .val (.int (3 : Int32)), .val (.long co), .second, .val (.ref b128), .unset, .unset, .unset, .unset, .unset] []))
    refine own_Goes.st ?_ (fun _ k => XS.aload X133.here hx rfl (hb hby at_181) rfl rfl k)
    refine own_Goes.st ?_ (fun _ k => XS.iconst X133.here hx rfl (hb hby at_183) k)
    refine own_Goes.st ?_ (fun _ k => XS.iload X133.here hx rfl (hb hby at_184) rfl k)
    refine own_Goes.st ?_ (fun _ k => XS.i2dS X133.here hx rfl (hb hby at_186) rfl rfl k)
    have Vc137 := V134
    obtain ⟨cl137, Ar137, qc137, S137, Nn137, Hs137, Gs137⟩ := Vc137
    have hin138 : ¬ ((1 : Int32) < 0 ∨ cl137.slots.size ≤ ((1 : Int32)).toNatClampNeg) := inb_of S137 ⟨by decide, by decide⟩
    obtain ⟨T138, h138, X138, e138, W138, st138⟩ := stD X133 hx hZ e133 Ar137 (j := (1 : Int32)) hin138 (g := (mkF m 187 #[.val (.long p0), .second, .val (.int p1), .val (.int p2), .val (.int p3), .val (.int p4), .val (.int p5), .val (.int kk), .val (.int bb0), .val (.int bb1), .val (.int bb2), .val (.int bb3), .val (.int (3 : Int32)), .val (.ref sa), .val (.int (3 : Int32)), .val (.long co), .second, .val (.ref b128), .unset, .unset, .unset, .unset, .unset] [(.double (FP.i2d p3)), (.int (1 : Int32)), (.ref b128)])) rfl rfl (hb hby at_187)
    refine own_Goes.st ?_ st138
    have V139 : Arv Z h138 b128 k128 .double (4 : Int32) [(.double (FP.i2d p2)), (.double (FP.i2d p3)), (.double (0 : UInt64)), (.double (0 : UInt64))] (.double 0) := Arv.set Ar137 qc137 S137 Nn137 Hs137 Gs137 rfl W138 1 rfl (Nat.le_of_ble_eq_true rfl)
    have Z140 : n0 ≤ h138.size := by rw [W138.size]; exact Z135
    have N141 := Fr.snoc X138 N136 ge_b128
    show own_Goes p.tables e below P (T138.setTop (mkF m 188 #[.val (.long p0), .second, .val (.int p1), .val (.int p2), .val (.int p3), .val (.int p4), .val (.int p5), .val (.int kk), .val (.int bb0), .val (.int bb1), .val (.int bb2), .val (.int bb3), .val (.int (3 : Int32)), .val (.ref sa), .val (.int (3 : Int32)), .val (.long co), .second, .val (.ref b128), .unset, .unset, .unset, .unset, .unset] []))
    refine own_Goes.st ?_ (fun _ k => XS.aload X138.here hx rfl (hb hby at_188) rfl rfl k)
    refine own_Goes.st ?_ (fun _ k => XS.iconst X138.here hx rfl (hb hby at_190) k)
    refine own_Goes.st ?_ (fun _ k => XS.iload X138.here hx rfl (hb hby at_191) rfl k)
    refine own_Goes.st ?_ (fun _ k => XS.i2dS X138.here hx rfl (hb hby at_193) rfl rfl k)
    have Vc142 := V139
    obtain ⟨cl142, Ar142, qc142, S142, Nn142, Hs142, Gs142⟩ := Vc142
    have hin143 : ¬ ((2 : Int32) < 0 ∨ cl142.slots.size ≤ ((2 : Int32)).toNatClampNeg) := inb_of S142 ⟨by decide, by decide⟩
    obtain ⟨T143, h143, X143, e143, W143, st143⟩ := stD X138 hx hZ e138 Ar142 (j := (2 : Int32)) hin143 (g := (mkF m 194 #[.val (.long p0), .second, .val (.int p1), .val (.int p2), .val (.int p3), .val (.int p4), .val (.int p5), .val (.int kk), .val (.int bb0), .val (.int bb1), .val (.int bb2), .val (.int bb3), .val (.int (3 : Int32)), .val (.ref sa), .val (.int (3 : Int32)), .val (.long co), .second, .val (.ref b128), .unset, .unset, .unset, .unset, .unset] [(.double (FP.i2d p4)), (.int (2 : Int32)), (.ref b128)])) rfl rfl (hb hby at_194)
    refine own_Goes.st ?_ st143
    have V144 : Arv Z h143 b128 k128 .double (4 : Int32) [(.double (FP.i2d p2)), (.double (FP.i2d p3)), (.double (FP.i2d p4)), (.double (0 : UInt64))] (.double 0) := Arv.set Ar142 qc142 S142 Nn142 Hs142 Gs142 rfl W143 2 rfl (Nat.le_of_ble_eq_true rfl)
    have Z145 : n0 ≤ h143.size := by rw [W143.size]; exact Z140
    have N146 := Fr.snoc X143 N141 ge_b128
    show own_Goes p.tables e below P (T143.setTop (mkF m 195 #[.val (.long p0), .second, .val (.int p1), .val (.int p2), .val (.int p3), .val (.int p4), .val (.int p5), .val (.int kk), .val (.int bb0), .val (.int bb1), .val (.int bb2), .val (.int bb3), .val (.int (3 : Int32)), .val (.ref sa), .val (.int (3 : Int32)), .val (.long co), .second, .val (.ref b128), .unset, .unset, .unset, .unset, .unset] []))
    refine own_Goes.st ?_ (fun _ k => XS.aload X143.here hx rfl (hb hby at_195) rfl rfl k)
    refine own_Goes.st ?_ (fun _ k => XS.iconst X143.here hx rfl (hb hby at_197) k)
    refine own_Goes.st ?_ (fun _ k => XS.iload X143.here hx rfl (hb hby at_198) rfl k)
    refine own_Goes.st ?_ (fun _ k => XS.i2dS X143.here hx rfl (hb hby at_200) rfl rfl k)
    have Vc147 := V144
    obtain ⟨cl147, Ar147, qc147, S147, Nn147, Hs147, Gs147⟩ := Vc147
    have hin148 : ¬ ((3 : Int32) < 0 ∨ cl147.slots.size ≤ ((3 : Int32)).toNatClampNeg) := inb_of S147 ⟨by decide, by decide⟩
    obtain ⟨T148, h148, X148, e148, W148, st148⟩ := stD X143 hx hZ e143 Ar147 (j := (3 : Int32)) hin148 (g := (mkF m 201 #[.val (.long p0), .second, .val (.int p1), .val (.int p2), .val (.int p3), .val (.int p4), .val (.int p5), .val (.int kk), .val (.int bb0), .val (.int bb1), .val (.int bb2), .val (.int bb3), .val (.int (3 : Int32)), .val (.ref sa), .val (.int (3 : Int32)), .val (.long co), .second, .val (.ref b128), .unset, .unset, .unset, .unset, .unset] [(.double (FP.i2d p5)), (.int (3 : Int32)), (.ref b128)])) rfl rfl (hb hby at_201)
    refine own_Goes.st ?_ st148
    have V149 : Arv Z h148 b128 k128 .double (4 : Int32) [(.double (FP.i2d p2)), (.double (FP.i2d p3)), (.double (FP.i2d p4)), (.double (FP.i2d p5))] (.double 0) := Arv.set Ar147 qc147 S147 Nn147 Hs147 Gs147 rfl W148 3 rfl (Nat.le_of_ble_eq_true rfl)
    have Z150 : n0 ≤ h148.size := by rw [W148.size]; exact Z145
    have N151 := Fr.snoc X148 N146 ge_b128
    show own_Goes p.tables e below P (T148.setTop (mkF m 202 #[.val (.long p0), .second, .val (.int p1), .val (.int p2), .val (.int p3), .val (.int p4), .val (.int p5), .val (.int kk), .val (.int bb0), .val (.int bb1), .val (.int bb2), .val (.int bb3), .val (.int (3 : Int32)), .val (.ref sa), .val (.int (3 : Int32)), .val (.long co), .second, .val (.ref b128), .unset, .unset, .unset, .unset, .unset] []))
    obtain ⟨T152, h152, X152, e152, E152, A152, D152, -, st152⟩ := newO X148 hx hZ hown (hw _ (List.mem_of_getElem? (i := 2) rfl)) (hw _ (List.mem_of_getElem? (i := 3) rfl)) (hw _ (List.mem_of_getElem? (i := 4) rfl)) e148 (g := (mkF m 202 #[.val (.long p0), .second, .val (.int p1), .val (.int p2), .val (.int p3), .val (.int p4), .val (.int p5), .val (.int kk), .val (.int bb0), .val (.int bb1), .val (.int bb2), .val (.int bb3), .val (.int (3 : Int32)), .val (.ref sa), .val (.int (3 : Int32)), .val (.long co), .second, .val (.ref b128), .unset, .unset, .unset, .unset, .unset] [])) rfl (hb hby at_202) (by decide) (by decide)
    obtain ⟨a152, g152⟩ : ∃ z, z = h148.size := ⟨_, rfl⟩
    rw [← g152] at A152 D152 st152
    have F153 : Arv Z h148 sa ks .int (3 : Int32) [(.int s0), (.int s1), (.int s2)] (.int 0) := (((((Vs.ext E128).other W133 ne129).other W138 ne129).other W143 ne129).other W148 ne129)
    have ne154 : sa ≠ a152 := Nat.ne_of_lt (Nat.lt_of_lt_of_eq F153.lt g152.symm)
    have F155 : Exa Z h148 b128 "[D" := ((((J128.wr W133).wr W138).wr W143).wr W148)
    have ne156 : b128 ≠ a152 := Nat.ne_of_lt (Nat.lt_of_lt_of_eq F155.lt g152.symm)
    have ge_a152 : n0 ≤ a152 := Nat.le_trans Z150 (Nat.le_of_eq g152.symm)
    refine own_Goes.st ?_ st152
    have Z157 : n0 ≤ h152.size := Nat.le_trans Z150 E152.1
    have F158 : Fld Z h152 a152 "com/example/pushmap/pushmap/schedule/Column" "object" "I" (.int (0 : Int32)) := D152 (Or.inr (hw _ (List.mem_of_getElem? (i := 12) rfl))) (ty := .int) (by decide)
    have F159 : Fld Z h152 a152 "com/example/pushmap/pushmap/schedule/Column" "slots" "[I" .null := D152 (Or.inr (hw _ (List.mem_of_getElem? (i := 14) rfl))) (ty := (.array .int)) (by decide)
    have F160 : Fld Z h152 a152 "com/example/pushmap/pushmap/schedule/Column" "cost" "J" (.long (0 : Int64)) := D152 (Or.inr (hw _ (List.mem_of_getElem? (i := 16) rfl))) (ty := .long) (by decide)
    show own_Goes p.tables e below P (T152.setTop (mkF m 205 #[.val (.long p0), .second, .val (.int p1), .val (.int p2), .val (.int p3), .val (.int p4), .val (.int p5), .val (.int kk), .val (.int bb0), .val (.int bb1), .val (.int bb2), .val (.int bb3), .val (.int (3 : Int32)), .val (.ref sa), .val (.int (3 : Int32)), .val (.long co), .second, .val (.ref b128), .unset, .unset, .unset, .unset, .unset] [(.ref a152)]))
    refine own_Goes.st ?_ (fun _ k => XS.dup X152.here hx rfl (hb hby at_205) rfl rfl k)
    refine own_Goes.st ?_ (fun _ k => XS.iloadN X152.here hx rfl (hb hby at_206) rfl k)
    refine own_Goes.st ?_ (fun _ k => XS.iconst X152.here hx rfl (hb hby at_207) k)
    refine own_Goes.st ?_ (fun _ k => XS.ishr X152.here hx rfl (hb hby at_208) rfl k)
    refine own_Goes.st ?_ (fun _ k => XS.aload X152.here hx rfl (hb hby at_209) rfl rfl k)
    refine own_Goes.st ?_ (fun _ k => XS.lload X152.here hx rfl (hb hby at_211) rfl k)
    show own_Goes p.tables e below P (T152.setTop (mkF m 213 #[.val (.long p0), .second, .val (.int p1), .val (.int p2), .val (.int p3), .val (.int p4), .val (.int p5), .val (.int kk), .val (.int bb0), .val (.int bb1), .val (.int bb2), .val (.int bb3), .val (.int (3 : Int32)), .val (.ref sa), .val (.int (3 : Int32)), .val (.long co), .second, .val (.ref b128), .unset, .unset, .unset, .unset, .unset] [(.long co), (.ref sa), (.int (p1 >>> ((4 : Int32) &&& 31))), (.ref a152), (.ref a152)]))
    obtain ⟨_, _, ⟨T161, L161, k161, n161⟩, -, X161, ⟨Lc161, hQ161, l161, y161, z161⟩, st161⟩ := X152.specialBack hx (y := (⟨"com/example/pushmap/pushmap/schedule/Column", "<init>", "(I[IJ)V"⟩ : MethodName)) rfl hown (mvT hZ (hw _ (List.mem_of_getElem? (i := 5) rfl))) (mvT hZ (hw _ (List.mem_of_getElem? (i := 6) rfl))) (mvT hZ (hw _ (List.mem_of_getElem? (i := 7) rfl))) (by decide) (backOf (W := 1) (rm_new l Z a0 hw [] a152 (p1 >>> ((4 : Int32) &&& 31)) sa co (.int (0 : Int32)) .null (.long (0 : Int64)) h152 n0 Z157 A152 F158 F159 F160 ge_a152) hZ (hw _ (List.mem_of_getElem? (i := 7) rfl)) (hw _ (List.mem_of_getElem? (i := 4) rfl)) (by decide) (by decide)) (g := (mkF m 213 #[.val (.long p0), .second, .val (.int p1), .val (.int p2), .val (.int p3), .val (.int p4), .val (.int p5), .val (.int kk), .val (.int bb0), .val (.int bb1), .val (.int bb2), .val (.int bb3), .val (.int (3 : Int32)), .val (.ref sa), .val (.int (3 : Int32)), .val (.long co), .second, .val (.ref b128), .unset, .unset, .unset, .unset, .unset] [(.long co), (.ref sa), (.int (p1 >>> ((4 : Int32) &&& 31))), (.ref a152), (.ref a152)])) rfl (by rw [hml]; rfl) (Steps.refl _) (a := a152) (argsL := [(.int (p1 >>> ((4 : Int32) &&& 31))), (.ref sa), (.long co)]) (rest := [(.ref a152)]) (lenOf own_pd__28_I_5b_IJ_29_V rfl) rfl (by show 2 * 0 + _ ≤ _; exact Nat.le_of_eq rfl) (hb hby at_213) (fun _ _ => ⟨rfl, e152, (by decide : 3 + 0 ≤ _), (by decide : 11 + 0 ≤ _)⟩)
    dsimp only [Pt.U, Pt.locs, Pt.cells, Pt.slots] at X161 l161 y161 z161 st161 hQ161
    rw [l161, y161, z161] at X161
    obtain ⟨rfl, Nq161, K161, f162, f163, f164⟩ := hQ161
    have N161 := Fr.app N151 Nq161
    refine own_Goes.tr st161 ?_
    have Z165 : n0 ≤ T161.heap.size := Nat.le_trans Z157 K161.1
    show own_Goes p.tables e below P (T161.setTop (mkF m 216 #[.val (.long p0), .second, .val (.int p1), .val (.int p2), .val (.int p3), .val (.int p4), .val (.int p5), .val (.int kk), .val (.int bb0), .val (.int bb1), .val (.int bb2), .val (.int bb3), .val (.int (3 : Int32)), .val (.ref sa), .val (.int (3 : Int32)), .val (.long co), .second, .val (.ref b128), .unset, .unset, .unset, .unset, .unset] [(.ref a152)]))
    refine own_Goes.st ?_ (fun _ k => XS.astore X161.here hx rfl (hb hby at_216) rfl rfl (l' := #[.val (.long p0), .second, .val (.int p1), .val (.int p2), .val (.int p3), .val (.int p4), .val (.int p5), .val (.int kk), .val (.int bb0), .val (.int bb1), .val (.int bb2), .val (.int bb3), .val (.int (3 : Int32)), .val (.ref sa), .val (.int (3 : Int32)), .val (.long co), .second, .val (.ref b128), .val (.ref a152), .unset, .unset, .unset, .unset]) rfl k)
    refine own_Goes.st ?_ (fun _ k => XS.aload X161.here hx rfl (hb hby at_218) rfl rfl k)
    refine own_Goes.st ?_ (fun _ k => XS.aload X161.here hx rfl (hb hby at_220) rfl rfl k)
    have F166 : Arv Z T161.heap sa ks .int (3 : Int32) [(.int s0), (.int s1), (.int s2)] (.int 0) := ((F153.ext E152).keep K161 (ninS ne154 nin0))
    have F167 : Arv Z T161.heap b128 k128 .double (4 : Int32) [(.double (FP.i2d p2)), (.double (FP.i2d p3)), (.double (FP.i2d p4)), (.double (FP.i2d p5))] (.double 0) := ((V149.ext E152).keep K161 (ninS ne156 nin0))
    obtain ⟨cq168, kq168, q168a, q168b, q168c⟩ := isOf hZ rfl f162
    obtain ⟨_, _, ⟨T168, L168, k168, n168⟩, -, X168, ⟨Lc168, hQ168, l168, y168, z168⟩, st168⟩ := X161.virtualBack hx (y := (⟨"com/example/pushmap/pushmap/schedule/Column", "priced", "([D)D"⟩ : MethodName)) (z := (⟨"com/example/pushmap/pushmap/schedule/Column", "priced", "([D)D"⟩ : MethodName)) hown (mvT hZ (hw _ (List.mem_of_getElem? (i := 17) rfl))) (mvT hZ (hw _ (List.mem_of_getElem? (i := 18) rfl))) (notFace_of_selects (args := #[]) (mvT hZ (hw _ (List.mem_of_getElem? (i := 20) rfl)))) (mvT hZ (hw _ (List.mem_of_getElem? (i := 20) rfl))) (mvT hZ (hw _ (List.mem_of_getElem? (i := 19) rfl))) (by decide) (backOf (W := 0) (rm_priced3 l Z a0 hw [] a152 b128 sa co ks k128 p2 p3 p4 p5 s0 s1 s2 T161.heap n0 Z165 f163 f164 F166 F167 hco hs0 hs1 hs2) hZ (hw _ (List.mem_of_getElem? (i := 21) rfl)) (hw _ (List.mem_of_getElem? (i := 4) rfl)) (by decide) (by decide)) q168a q168c (g := (mkF m 222 #[.val (.long p0), .second, .val (.int p1), .val (.int p2), .val (.int p3), .val (.int p4), .val (.int p5), .val (.int kk), .val (.int bb0), .val (.int bb1), .val (.int bb2), .val (.int bb3), .val (.int (3 : Int32)), .val (.ref sa), .val (.int (3 : Int32)), .val (.long co), .second, .val (.ref b128), .val (.ref a152), .unset, .unset, .unset, .unset] [(.ref b128), (.ref a152)])) rfl (by rw [hml]; rfl) (Steps.refl _) (argsL := [(.ref b128)]) (rest := []) (lenOf own_pd__28__5b_D_29_D rfl) rfl (by show 2 * 0 + _ ≤ _; exact Nat.le_of_eq rfl) (hb hby at_222) (fun _ _ => ⟨rfl, rfl, (by decide : 3 + 0 ≤ _), (by decide : 11 + 0 ≤ _)⟩)
    dsimp only [Pt.U, Pt.locs, Pt.cells, Pt.slots] at X168 l168 y168 z168 st168 hQ168
    rw [l168, y168, z168] at X168
    obtain ⟨rfl, Nq168, e168⟩ := hQ168
    have N168 := Fr.app N161 Nq168
    refine own_Goes.tr st168 ?_
    show own_Goes p.tables e below P (T168.setTop (mkF m 225 #[.val (.long p0), .second, .val (.int p1), .val (.int p2), .val (.int p3), .val (.int p4), .val (.int p5), .val (.int kk), .val (.int bb0), .val (.int bb1), .val (.int bb2), .val (.int bb3), .val (.int (3 : Int32)), .val (.ref sa), .val (.int (3 : Int32)), .val (.long co), .second, .val (.ref b128), .val (.ref a152), .unset, .unset, .unset, .unset] [(.double (FP.l2d (((co + own_pick p2 p3 p4 p5 s0) + own_pick p2 p3 p4 p5 s1) + own_pick p2 p3 p4 p5 s2)))]))
    refine own_Goes.st ?_ (fun _ k => XS.dstore X168.here hx rfl (hb hby at_225) rfl (l' := #[.val (.long p0), .second, .val (.int p1), .val (.int p2), .val (.int p3), .val (.int p4), .val (.int p5), .val (.int kk), .val (.int bb0), .val (.int bb1), .val (.int bb2), .val (.int bb3), .val (.int (3 : Int32)), .val (.ref sa), .val (.int (3 : Int32)), .val (.long co), .second, .val (.ref b128), .val (.ref a152), .val (.double (FP.l2d (((co + own_pick p2 p3 p4 p5 s0) + own_pick p2 p3 p4 p5 s1) + own_pick p2 p3 p4 p5 s2))), .second, .unset, .unset]) rfl k)
    refine own_Goes.st ?_ (fun _ k => XS.lload X168.here hx rfl (hb hby at_227) rfl k)
    refine own_Goes.st ?_ (fun _ k => XS.lstore X168.here hx rfl (hb hby at_229) rfl (l' := #[.val (.long p0), .second, .val (.int p1), .val (.int p2), .val (.int p3), .val (.int p4), .val (.int p5), .val (.int kk), .val (.int bb0), .val (.int bb1), .val (.int bb2), .val (.int bb3), .val (.int (3 : Int32)), .val (.ref sa), .val (.int (3 : Int32)), .val (.long co), .second, .val (.ref b128), .val (.ref a152), .val (.double (FP.l2d (((co + own_pick p2 p3 p4 p5 s0) + own_pick p2 p3 p4 p5 s1) + own_pick p2 p3 p4 p5 s2))), .second, .val (.long co), .second]) rfl k)
    have J4 : ∀ (rr : Int64) (_ : rr = (own_one bb3 (own_one bb2 (own_one bb1 (own_one bb0 co p2) p3) p4) p5)), own_Goes p.tables e below P (T168.setTop (mkF m 282 #[.val (.long p0), .second, .val (.int p1), .val (.int p2), .val (.int p3), .val (.int p4), .val (.int p5), .val (.int kk), .val (.int bb0), .val (.int bb1), .val (.int bb2), .val (.int bb3), .val (.int (3 : Int32)), .val (.ref sa), .val (.int (3 : Int32)), .val (.long co), .second, .val (.ref b128), .val (.ref a152), .val (.double (FP.l2d (((co + own_pick p2 p3 p4 p5 s0) + own_pick p2 p3 p4 p5 s1) + own_pick p2 p3 p4 p5 s2))), .second, .val (.long rr), .second] [])) := by
      intro rr hrr
      refine own_Goes.st ?_ (fun _ k => XS.dload X168.here hx rfl (hb hby at_282) rfl k)
      refine own_Goes.st ?_ (fun _ k => XS.lload X168.here hx rfl (hb hby at_284) rfl k)
      refine own_Goes.st ?_ (fun _ k => XS.l2dS X168.here hx rfl (hb hby at_286) rfl rfl k)
      show own_Goes p.tables e below P (T168.setTop (mkF m 287 #[.val (.long p0), .second, .val (.int p1), .val (.int p2), .val (.int p3), .val (.int p4), .val (.int p5), .val (.int kk), .val (.int bb0), .val (.int bb1), .val (.int bb2), .val (.int bb3), .val (.int (3 : Int32)), .val (.ref sa), .val (.int (3 : Int32)), .val (.long co), .second, .val (.ref b128), .val (.ref a152), .val (.double (FP.l2d (((co + own_pick p2 p3 p4 p5 s0) + own_pick p2 p3 p4 p5 s1) + own_pick p2 p3 p4 p5 s2))), .second, .val (.long rr), .second] [(.double (FP.l2d rr)), (.double (FP.l2d (((co + own_pick p2 p3 p4 p5 s0) + own_pick p2 p3 p4 p5 s1) + own_pick p2 p3 p4 p5 s2)))]))
      refine own_Goes.st ?_ (fun _ k => XS.dcmpS X168.here hx rfl (hb hby at_287) rfl rfl k)
      show own_Goes p.tables e below P (T168.setTop (mkF m 288 #[.val (.long p0), .second, .val (.int p1), .val (.int p2), .val (.int p3), .val (.int p4), .val (.int p5), .val (.int kk), .val (.int bb0), .val (.int bb1), .val (.int bb2), .val (.int bb3), .val (.int (3 : Int32)), .val (.ref sa), .val (.int (3 : Int32)), .val (.long co), .second, .val (.ref b128), .val (.ref a152), .val (.double (FP.l2d (((co + own_pick p2 p3 p4 p5 s0) + own_pick p2 p3 p4 p5 s1) + own_pick p2 p3 p4 p5 s2))), .second, .val (.long rr), .second] [(.int (cmpValue (FP.dcmp (FP.l2d (((co + own_pick p2 p3 p4 p5 s0) + own_pick p2 p3 p4 p5 s1) + own_pick p2 p3 p4 p5 s2)) (FP.l2d rr)) .l))]))
      rw [own_cmp (hsum.trans hrr.symm) .l]
      show own_Goes p.tables e below P (T168.setTop (mkF m 288 #[.val (.long p0), .second, .val (.int p1), .val (.int p2), .val (.int p3), .val (.int p4), .val (.int p5), .val (.int kk), .val (.int bb0), .val (.int bb1), .val (.int bb2), .val (.int bb3), .val (.int (3 : Int32)), .val (.ref sa), .val (.int (3 : Int32)), .val (.long co), .second, .val (.ref b128), .val (.ref a152), .val (.double (FP.l2d (((co + own_pick p2 p3 p4 p5 s0) + own_pick p2 p3 p4 p5 s1) + own_pick p2 p3 p4 p5 s2))), .second, .val (.long rr), .second] [(.int (0 : Int32))]))
      refine own_Goes.st ?_ (fun _ k => XS.ifNo X168.here hx rfl (hb hby at_288) rfl ((if0 _ _).trans (teq (by decide : (0 : Int32) = (0 : Int32))).2) k)
      refine own_Goes.st ?_ (fun _ k => XS.iconst X168.here hx rfl (hb hby at_291) k)
      refine own_Goes.st ?_ (fun _ k => XS.goto X168.here hx rfl (pc0 := 292) (pc' := 296) rfl (hb hby at_292) (by decide) (by decide) k)
      obtain ⟨fs, hr, hrun, hended, hW, hsame⟩ := X168.leave (v := some (.int (1 : Int32))) (fun h => by rw [Bd.returns] at h; cases h)
      exact own_Goes.fin _ _ (retOut X168 hx (t := .boolean) Bd.returns rfl (Or.inl ⟨rfl, Or.inr (Or.inl rfl), _, rfl⟩) (hb hby at_296) hr) (hPP _ _ ⟨hrun, hended, _, _, rfl, (by show Q_law n0 _ _; exact ⟨rfl, N168⟩), ⟨_, rfl⟩, hW, hsame.mono (by decide) (by decide)⟩)
    have J3 : ∀ (rr : Int64) (_ : rr = (own_one bb2 (own_one bb1 (own_one bb0 co p2) p3) p4)), own_Goes p.tables e below P (T168.setTop (mkF m 269 #[.val (.long p0), .second, .val (.int p1), .val (.int p2), .val (.int p3), .val (.int p4), .val (.int p5), .val (.int kk), .val (.int bb0), .val (.int bb1), .val (.int bb2), .val (.int bb3), .val (.int (3 : Int32)), .val (.ref sa), .val (.int (3 : Int32)), .val (.long co), .second, .val (.ref b128), .val (.ref a152), .val (.double (FP.l2d (((co + own_pick p2 p3 p4 p5 s0) + own_pick p2 p3 p4 p5 s1) + own_pick p2 p3 p4 p5 s2))), .second, .val (.long rr), .second] [])) := by
      intro rr hrr
      refine own_Goes.st ?_ (fun _ k => XS.iload X168.here hx rfl (hb hby at_269) rfl k)
      by_cases hb3 : bb3 = (0 : Int32)
      · skip
        refine own_Goes.st ?_ (fun _ k => XS.ifYes X168.here hx rfl (pc0 := 271) (pc' := 282) rfl (hb hby at_271) rfl ((if0 _ _).trans (teq hb3).1) (by decide) (by decide) k)
        exact (J4 _ (by rw [own_one, if_pos hb3]; exact hrr))
      · skip
        refine own_Goes.st ?_ (fun _ k => XS.ifNo X168.here hx rfl (hb hby at_271) rfl ((if0 _ _).trans (feq hb3).1) k)
        refine own_Goes.st ?_ (fun _ k => XS.lload X168.here hx rfl (hb hby at_274) rfl k)
        show own_Goes p.tables e below P (T168.setTop (mkF m 276 #[.val (.long p0), .second, .val (.int p1), .val (.int p2), .val (.int p3), .val (.int p4), .val (.int p5), .val (.int kk), .val (.int bb0), .val (.int bb1), .val (.int bb2), .val (.int bb3), .val (.int (3 : Int32)), .val (.ref sa), .val (.int (3 : Int32)), .val (.long co), .second, .val (.ref b128), .val (.ref a152), .val (.double (FP.l2d (((co + own_pick p2 p3 p4 p5 s0) + own_pick p2 p3 p4 p5 s1) + own_pick p2 p3 p4 p5 s2))), .second, .val (.long rr), .second] [(.long rr)]))
        refine own_Goes.st ?_ (fun _ k => XS.iload X168.here hx rfl (hb hby at_276) rfl k)
        refine own_Goes.st ?_ (fun _ k => XS.i2l X168.here hx rfl (hb hby at_278) rfl k)
        refine own_Goes.st ?_ (fun _ k => XS.ladd X168.here hx rfl (hb hby at_279) rfl k)
        refine own_Goes.st ?_ (fun _ k => XS.lstore X168.here hx rfl (hb hby at_280) rfl (l' := #[.val (.long p0), .second, .val (.int p1), .val (.int p2), .val (.int p3), .val (.int p4), .val (.int p5), .val (.int kk), .val (.int bb0), .val (.int bb1), .val (.int bb2), .val (.int bb3), .val (.int (3 : Int32)), .val (.ref sa), .val (.int (3 : Int32)), .val (.long co), .second, .val (.ref b128), .val (.ref a152), .val (.double (FP.l2d (((co + own_pick p2 p3 p4 p5 s0) + own_pick p2 p3 p4 p5 s1) + own_pick p2 p3 p4 p5 s2))), .second, .val (.long (rr + ((p5).toInt64))), .second]) rfl k)
        exact (J4 _ (by rw [own_one, if_neg hb3]; rw [hrr]))
    have J2 : ∀ (rr : Int64) (_ : rr = (own_one bb1 (own_one bb0 co p2) p3)), own_Goes p.tables e below P (T168.setTop (mkF m 256 #[.val (.long p0), .second, .val (.int p1), .val (.int p2), .val (.int p3), .val (.int p4), .val (.int p5), .val (.int kk), .val (.int bb0), .val (.int bb1), .val (.int bb2), .val (.int bb3), .val (.int (3 : Int32)), .val (.ref sa), .val (.int (3 : Int32)), .val (.long co), .second, .val (.ref b128), .val (.ref a152), .val (.double (FP.l2d (((co + own_pick p2 p3 p4 p5 s0) + own_pick p2 p3 p4 p5 s1) + own_pick p2 p3 p4 p5 s2))), .second, .val (.long rr), .second] [])) := by
      intro rr hrr
      refine own_Goes.st ?_ (fun _ k => XS.iload X168.here hx rfl (hb hby at_256) rfl k)
      by_cases hb2 : bb2 = (0 : Int32)
      · skip
        refine own_Goes.st ?_ (fun _ k => XS.ifYes X168.here hx rfl (pc0 := 258) (pc' := 269) rfl (hb hby at_258) rfl ((if0 _ _).trans (teq hb2).1) (by decide) (by decide) k)
        exact (J3 _ (by rw [own_one, if_pos hb2]; exact hrr))
      · skip
        refine own_Goes.st ?_ (fun _ k => XS.ifNo X168.here hx rfl (hb hby at_258) rfl ((if0 _ _).trans (feq hb2).1) k)
        refine own_Goes.st ?_ (fun _ k => XS.lload X168.here hx rfl (hb hby at_261) rfl k)
        show own_Goes p.tables e below P (T168.setTop (mkF m 263 #[.val (.long p0), .second, .val (.int p1), .val (.int p2), .val (.int p3), .val (.int p4), .val (.int p5), .val (.int kk), .val (.int bb0), .val (.int bb1), .val (.int bb2), .val (.int bb3), .val (.int (3 : Int32)), .val (.ref sa), .val (.int (3 : Int32)), .val (.long co), .second, .val (.ref b128), .val (.ref a152), .val (.double (FP.l2d (((co + own_pick p2 p3 p4 p5 s0) + own_pick p2 p3 p4 p5 s1) + own_pick p2 p3 p4 p5 s2))), .second, .val (.long rr), .second] [(.long rr)]))
        refine own_Goes.st ?_ (fun _ k => XS.iload X168.here hx rfl (hb hby at_263) rfl k)
        refine own_Goes.st ?_ (fun _ k => XS.i2l X168.here hx rfl (hb hby at_265) rfl k)
        refine own_Goes.st ?_ (fun _ k => XS.ladd X168.here hx rfl (hb hby at_266) rfl k)
        refine own_Goes.st ?_ (fun _ k => XS.lstore X168.here hx rfl (hb hby at_267) rfl (l' := #[.val (.long p0), .second, .val (.int p1), .val (.int p2), .val (.int p3), .val (.int p4), .val (.int p5), .val (.int kk), .val (.int bb0), .val (.int bb1), .val (.int bb2), .val (.int bb3), .val (.int (3 : Int32)), .val (.ref sa), .val (.int (3 : Int32)), .val (.long co), .second, .val (.ref b128), .val (.ref a152), .val (.double (FP.l2d (((co + own_pick p2 p3 p4 p5 s0) + own_pick p2 p3 p4 p5 s1) + own_pick p2 p3 p4 p5 s2))), .second, .val (.long (rr + ((p4).toInt64))), .second]) rfl k)
        exact (J3 _ (by rw [own_one, if_neg hb2]; rw [hrr]))
    have J1 : ∀ (rr : Int64) (_ : rr = (own_one bb0 co p2)), own_Goes p.tables e below P (T168.setTop (mkF m 243 #[.val (.long p0), .second, .val (.int p1), .val (.int p2), .val (.int p3), .val (.int p4), .val (.int p5), .val (.int kk), .val (.int bb0), .val (.int bb1), .val (.int bb2), .val (.int bb3), .val (.int (3 : Int32)), .val (.ref sa), .val (.int (3 : Int32)), .val (.long co), .second, .val (.ref b128), .val (.ref a152), .val (.double (FP.l2d (((co + own_pick p2 p3 p4 p5 s0) + own_pick p2 p3 p4 p5 s1) + own_pick p2 p3 p4 p5 s2))), .second, .val (.long rr), .second] [])) := by
      intro rr hrr
      refine own_Goes.st ?_ (fun _ k => XS.iload X168.here hx rfl (hb hby at_243) rfl k)
      by_cases hb1 : bb1 = (0 : Int32)
      · skip
        refine own_Goes.st ?_ (fun _ k => XS.ifYes X168.here hx rfl (pc0 := 245) (pc' := 256) rfl (hb hby at_245) rfl ((if0 _ _).trans (teq hb1).1) (by decide) (by decide) k)
        exact (J2 _ (by rw [own_one, if_pos hb1]; exact hrr))
      · skip
        refine own_Goes.st ?_ (fun _ k => XS.ifNo X168.here hx rfl (hb hby at_245) rfl ((if0 _ _).trans (feq hb1).1) k)
        refine own_Goes.st ?_ (fun _ k => XS.lload X168.here hx rfl (hb hby at_248) rfl k)
        show own_Goes p.tables e below P (T168.setTop (mkF m 250 #[.val (.long p0), .second, .val (.int p1), .val (.int p2), .val (.int p3), .val (.int p4), .val (.int p5), .val (.int kk), .val (.int bb0), .val (.int bb1), .val (.int bb2), .val (.int bb3), .val (.int (3 : Int32)), .val (.ref sa), .val (.int (3 : Int32)), .val (.long co), .second, .val (.ref b128), .val (.ref a152), .val (.double (FP.l2d (((co + own_pick p2 p3 p4 p5 s0) + own_pick p2 p3 p4 p5 s1) + own_pick p2 p3 p4 p5 s2))), .second, .val (.long rr), .second] [(.long rr)]))
        refine own_Goes.st ?_ (fun _ k => XS.iload X168.here hx rfl (hb hby at_250) rfl k)
        refine own_Goes.st ?_ (fun _ k => XS.i2l X168.here hx rfl (hb hby at_252) rfl k)
        refine own_Goes.st ?_ (fun _ k => XS.ladd X168.here hx rfl (hb hby at_253) rfl k)
        refine own_Goes.st ?_ (fun _ k => XS.lstore X168.here hx rfl (hb hby at_254) rfl (l' := #[.val (.long p0), .second, .val (.int p1), .val (.int p2), .val (.int p3), .val (.int p4), .val (.int p5), .val (.int kk), .val (.int bb0), .val (.int bb1), .val (.int bb2), .val (.int bb3), .val (.int (3 : Int32)), .val (.ref sa), .val (.int (3 : Int32)), .val (.long co), .second, .val (.ref b128), .val (.ref a152), .val (.double (FP.l2d (((co + own_pick p2 p3 p4 p5 s0) + own_pick p2 p3 p4 p5 s1) + own_pick p2 p3 p4 p5 s2))), .second, .val (.long (rr + ((p3).toInt64))), .second]) rfl k)
        exact (J2 _ (by rw [own_one, if_neg hb1]; rw [hrr]))
    refine own_Goes.st ?_ (fun _ k => XS.iload X168.here hx rfl (hb hby at_231) rfl k)
    by_cases hb0 : bb0 = (0 : Int32)
    · skip
      refine own_Goes.st ?_ (fun _ k => XS.ifYes X168.here hx rfl (pc0 := 233) (pc' := 243) rfl (hb hby at_233) rfl ((if0 _ _).trans (teq hb0).1) (by decide) (by decide) k)
      exact (J1 _ (by rw [own_one, if_pos hb0]))
    · skip
      refine own_Goes.st ?_ (fun _ k => XS.ifNo X168.here hx rfl (hb hby at_233) rfl ((if0 _ _).trans (feq hb0).1) k)
      refine own_Goes.st ?_ (fun _ k => XS.lload X168.here hx rfl (hb hby at_236) rfl k)
      show own_Goes p.tables e below P (T168.setTop (mkF m 238 #[.val (.long p0), .second, .val (.int p1), .val (.int p2), .val (.int p3), .val (.int p4), .val (.int p5), .val (.int kk), .val (.int bb0), .val (.int bb1), .val (.int bb2), .val (.int bb3), .val (.int (3 : Int32)), .val (.ref sa), .val (.int (3 : Int32)), .val (.long co), .second, .val (.ref b128), .val (.ref a152), .val (.double (FP.l2d (((co + own_pick p2 p3 p4 p5 s0) + own_pick p2 p3 p4 p5 s1) + own_pick p2 p3 p4 p5 s2))), .second, .val (.long co), .second] [(.long co)]))
      refine own_Goes.st ?_ (fun _ k => XS.iloadN X168.here hx rfl (hb hby at_238) rfl k)
      refine own_Goes.st ?_ (fun _ k => XS.i2l X168.here hx rfl (hb hby at_239) rfl k)
      refine own_Goes.st ?_ (fun _ k => XS.ladd X168.here hx rfl (hb hby at_240) rfl k)
      refine own_Goes.st ?_ (fun _ k => XS.lstore X168.here hx rfl (hb hby at_241) rfl (l' := #[.val (.long p0), .second, .val (.int p1), .val (.int p2), .val (.int p3), .val (.int p4), .val (.int p5), .val (.int kk), .val (.int bb0), .val (.int bb1), .val (.int bb2), .val (.int bb3), .val (.int (3 : Int32)), .val (.ref sa), .val (.int (3 : Int32)), .val (.long co), .second, .val (.ref b128), .val (.ref a152), .val (.double (FP.l2d (((co + own_pick p2 p3 p4 p5 s0) + own_pick p2 p3 p4 p5 s1) + own_pick p2 p3 p4 p5 s2))), .second, .val (.long (co + ((p2).toInt64))), .second]) rfl k)
      exact (J1 _ (by rw [own_one, if_neg hb0]))
  have T4n : ∀ (T169 : State) (lo169 : List Loc) (X169 : Stand p l e room_1 s m #[(.long p0), (.int p1), (.int p2), (.int p3), (.int p4), (.int p5)] below meth c T169 lo169 1 4) (h169 : Heap) (e169 : T169.heap = h169) (N169 : Fr n0 lo169) (Z169 : n0 ≤ h169.size) (sa : Addr) (ks : ClassId) (kk bb0 bb1 bb2 bb3 s0 s1 s2 s3 : Int32) (co : Int64) (_ : Arv Z h169 sa ks .int (4 : Int32) [(.int s0), (.int s1), (.int s2), (.int s3)] (.int 0)) (_ : own_in co 562949953421312) (_ : ¬ s0 < 0 ∧ s0 < 4) (_ : ¬ s1 < 0 ∧ s1 < 4) (_ : ¬ s2 < 0 ∧ s2 < 4) (_ : ¬ s3 < 0 ∧ s3 < 4) (_ : ((((co + own_pick p2 p3 p4 p5 s0) + own_pick p2 p3 p4 p5 s1) + own_pick p2 p3 p4 p5 s2) + own_pick p2 p3 p4 p5 s3) = own_ref co bb0 bb1 bb2 bb3 p2 p3 p4 p5), own_Goes p.tables e below P (T169.setTop (mkF m 170 #[.val (.long p0), .second, .val (.int p1), .val (.int p2), .val (.int p3), .val (.int p4), .val (.int p5), .val (.int kk), .val (.int bb0), .val (.int bb1), .val (.int bb2), .val (.int bb3), .val (.int (4 : Int32)), .val (.ref sa), .val (.int (4 : Int32)), .val (.long co), .second, .unset, .unset, .unset, .unset, .unset, .unset] [])) := by
    intro T169 lo169 X169 h169 e169 N169 Z169 sa ks kk bb0 bb1 bb2 bb3 s0 s1 s2 s3 co Vs hco hs0 hs1 hs2 hs3 hsum
    refine own_Goes.st ?_ (fun _ k => XS.iconst X169.here hx rfl (hb hby at_170) k)
    obtain ⟨T170, h170, k170, X170, e170, E170, A170, J170, st170⟩ := newPE X169 hx hZ (hw _ (List.mem_of_getElem? (i := 1) rfl)) e169 (g := (mkF m 171 #[.val (.long p0), .second, .val (.int p1), .val (.int p2), .val (.int p3), .val (.int p4), .val (.int p5), .val (.int kk), .val (.int bb0), .val (.int bb1), .val (.int bb2), .val (.int bb3), .val (.int (4 : Int32)), .val (.ref sa), .val (.int (4 : Int32)), .val (.long co), .second, .unset, .unset, .unset, .unset, .unset, .unset] [(.int (4 : Int32))])) rfl (hb hby at_171) rfl (by decide) (cap := 4) (by decide) (by decide) (by decide) (by decide) (ad := "[D") rfl
    obtain ⟨b170, g170⟩ : ∃ z, z = h169.size := ⟨_, rfl⟩
    rw [← g170] at A170 J170 st170
    have ne171 : sa ≠ b170 := Nat.ne_of_lt (Nat.lt_of_lt_of_eq Vs.lt g170.symm)
    have ge_b170 : n0 ≤ b170 := Nat.le_trans Z169 (Nat.le_of_eq g170.symm)
    refine own_Goes.st ?_ st170
    have Z172 : n0 ≤ h170.size := Nat.le_trans Z169 E170.1
    have V173 : Arv Z h170 b170 k170 .double (4 : Int32) [(.double (0 : UInt64)), (.double (0 : UInt64)), (.double (0 : UInt64)), (.double (0 : UInt64))] (.double 0) := (Arv.new A170 (by decide)).pad (pad_rep [] _ 4)
    show own_Goes p.tables e below P (T170.setTop (mkF m 173 #[.val (.long p0), .second, .val (.int p1), .val (.int p2), .val (.int p3), .val (.int p4), .val (.int p5), .val (.int kk), .val (.int bb0), .val (.int bb1), .val (.int bb2), .val (.int bb3), .val (.int (4 : Int32)), .val (.ref sa), .val (.int (4 : Int32)), .val (.long co), .second, .unset, .unset, .unset, .unset, .unset, .unset] [(.ref b170)]))
    refine own_Goes.st ?_ (fun _ k => XS.astore X170.here hx rfl (hb hby at_173) rfl rfl (l' := #[.val (.long p0), .second, .val (.int p1), .val (.int p2), .val (.int p3), .val (.int p4), .val (.int p5), .val (.int kk), .val (.int bb0), .val (.int bb1), .val (.int bb2), .val (.int bb3), .val (.int (4 : Int32)), .val (.ref sa), .val (.int (4 : Int32)), .val (.long co), .second, .val (.ref b170), .unset, .unset, .unset, .unset, .unset]) rfl k)
    refine own_Goes.st ?_ (fun _ k => XS.aload X170.here hx rfl (hb hby at_175) rfl rfl k)
    refine own_Goes.st ?_ (fun _ k => XS.iconst X170.here hx rfl (hb hby at_177) k)
    refine own_Goes.st ?_ (fun _ k => XS.iloadN X170.here hx rfl (hb hby at_178) rfl k)
    refine own_Goes.st ?_ (fun _ k => XS.i2dS X170.here hx rfl (hb hby at_179) rfl rfl k)
    have Vc174 := V173
    obtain ⟨cl174, Ar174, qc174, S174, Nn174, Hs174, Gs174⟩ := Vc174
    have hin175 : ¬ ((0 : Int32) < 0 ∨ cl174.slots.size ≤ ((0 : Int32)).toNatClampNeg) := inb_of S174 ⟨by decide, by decide⟩
    obtain ⟨T175, h175, X175, e175, W175, st175⟩ := stD X170 hx hZ e170 Ar174 (j := (0 : Int32)) hin175 (g := (mkF m 180 #[.val (.long p0), .second, .val (.int p1), .val (.int p2), .val (.int p3), .val (.int p4), .val (.int p5), .val (.int kk), .val (.int bb0), .val (.int bb1), .val (.int bb2), .val (.int bb3), .val (.int (4 : Int32)), .val (.ref sa), .val (.int (4 : Int32)), .val (.long co), .second, .val (.ref b170), .unset, .unset, .unset, .unset, .unset] [(.double (FP.i2d p2)), (.int (0 : Int32)), (.ref b170)])) rfl rfl (hb hby at_180)
    refine own_Goes.st ?_ st175
    have V176 : Arv Z h175 b170 k170 .double (4 : Int32) [(.double (FP.i2d p2)), (.double (0 : UInt64)), (.double (0 : UInt64)), (.double (0 : UInt64))] (.double 0) := Arv.set Ar174 qc174 S174 Nn174 Hs174 Gs174 rfl W175 0 rfl (Nat.le_of_ble_eq_true rfl)
    have Z177 : n0 ≤ h175.size := by rw [W175.size]; exact Z172
    have N178 := Fr.snoc X175 N169 ge_b170
    show own_Goes p.tables e below P (T175.setTop (mkF m 181 #[.val (.long p0), .second, .val (.int p1), .val (.int p2), .val (.int p3), .val (.int p4), .val (.int p5), .val (.int kk), .val (.int bb0), .val (.int bb1), .val (.int bb2), .val (.int bb3), .val (.int (4 : Int32)), .val (.ref sa), .val (.int (4 : Int32)), .val (.long co), .second, .val (.ref b170), .unset, .unset, .unset, .unset, .unset] []))
    refine own_Goes.st ?_ (fun _ k => XS.aload X175.here hx rfl (hb hby at_181) rfl rfl k)
    refine own_Goes.st ?_ (fun _ k => XS.iconst X175.here hx rfl (hb hby at_183) k)
    refine own_Goes.st ?_ (fun _ k => XS.iload X175.here hx rfl (hb hby at_184) rfl k)
    refine own_Goes.st ?_ (fun _ k => XS.i2dS X175.here hx rfl (hb hby at_186) rfl rfl k)
    have Vc179 := V176
    obtain ⟨cl179, Ar179, qc179, S179, Nn179, Hs179, Gs179⟩ := Vc179
    have hin180 : ¬ ((1 : Int32) < 0 ∨ cl179.slots.size ≤ ((1 : Int32)).toNatClampNeg) := inb_of S179 ⟨by decide, by decide⟩
    obtain ⟨T180, h180, X180, e180, W180, st180⟩ := stD X175 hx hZ e175 Ar179 (j := (1 : Int32)) hin180 (g := (mkF m 187 #[.val (.long p0), .second, .val (.int p1), .val (.int p2), .val (.int p3), .val (.int p4), .val (.int p5), .val (.int kk), .val (.int bb0), .val (.int bb1), .val (.int bb2), .val (.int bb3), .val (.int (4 : Int32)), .val (.ref sa), .val (.int (4 : Int32)), .val (.long co), .second, .val (.ref b170), .unset, .unset, .unset, .unset, .unset] [(.double (FP.i2d p3)), (.int (1 : Int32)), (.ref b170)])) rfl rfl (hb hby at_187)
    refine own_Goes.st ?_ st180
    have V181 : Arv Z h180 b170 k170 .double (4 : Int32) [(.double (FP.i2d p2)), (.double (FP.i2d p3)), (.double (0 : UInt64)), (.double (0 : UInt64))] (.double 0) := Arv.set Ar179 qc179 S179 Nn179 Hs179 Gs179 rfl W180 1 rfl (Nat.le_of_ble_eq_true rfl)
    have Z182 : n0 ≤ h180.size := by rw [W180.size]; exact Z177
    have N183 := Fr.snoc X180 N178 ge_b170
    show own_Goes p.tables e below P (T180.setTop (mkF m 188 #[.val (.long p0), .second, .val (.int p1), .val (.int p2), .val (.int p3), .val (.int p4), .val (.int p5), .val (.int kk), .val (.int bb0), .val (.int bb1), .val (.int bb2), .val (.int bb3), .val (.int (4 : Int32)), .val (.ref sa), .val (.int (4 : Int32)), .val (.long co), .second, .val (.ref b170), .unset, .unset, .unset, .unset, .unset] []))
    refine own_Goes.st ?_ (fun _ k => XS.aload X180.here hx rfl (hb hby at_188) rfl rfl k)
    refine own_Goes.st ?_ (fun _ k => XS.iconst X180.here hx rfl (hb hby at_190) k)
    refine own_Goes.st ?_ (fun _ k => XS.iload X180.here hx rfl (hb hby at_191) rfl k)
    refine own_Goes.st ?_ (fun _ k => XS.i2dS X180.here hx rfl (hb hby at_193) rfl rfl k)
    have Vc184 := V181
    obtain ⟨cl184, Ar184, qc184, S184, Nn184, Hs184, Gs184⟩ := Vc184
    have hin185 : ¬ ((2 : Int32) < 0 ∨ cl184.slots.size ≤ ((2 : Int32)).toNatClampNeg) := inb_of S184 ⟨by decide, by decide⟩
    obtain ⟨T185, h185, X185, e185, W185, st185⟩ := stD X180 hx hZ e180 Ar184 (j := (2 : Int32)) hin185 (g := (mkF m 194 #[.val (.long p0), .second, .val (.int p1), .val (.int p2), .val (.int p3), .val (.int p4), .val (.int p5), .val (.int kk), .val (.int bb0), .val (.int bb1), .val (.int bb2), .val (.int bb3), .val (.int (4 : Int32)), .val (.ref sa), .val (.int (4 : Int32)), .val (.long co), .second, .val (.ref b170), .unset, .unset, .unset, .unset, .unset] [(.double (FP.i2d p4)), (.int (2 : Int32)), (.ref b170)])) rfl rfl (hb hby at_194)
    refine own_Goes.st ?_ st185
    have V186 : Arv Z h185 b170 k170 .double (4 : Int32) [(.double (FP.i2d p2)), (.double (FP.i2d p3)), (.double (FP.i2d p4)), (.double (0 : UInt64))] (.double 0) := Arv.set Ar184 qc184 S184 Nn184 Hs184 Gs184 rfl W185 2 rfl (Nat.le_of_ble_eq_true rfl)
    have Z187 : n0 ≤ h185.size := by rw [W185.size]; exact Z182
    have N188 := Fr.snoc X185 N183 ge_b170
    show own_Goes p.tables e below P (T185.setTop (mkF m 195 #[.val (.long p0), .second, .val (.int p1), .val (.int p2), .val (.int p3), .val (.int p4), .val (.int p5), .val (.int kk), .val (.int bb0), .val (.int bb1), .val (.int bb2), .val (.int bb3), .val (.int (4 : Int32)), .val (.ref sa), .val (.int (4 : Int32)), .val (.long co), .second, .val (.ref b170), .unset, .unset, .unset, .unset, .unset] []))
    refine own_Goes.st ?_ (fun _ k => XS.aload X185.here hx rfl (hb hby at_195) rfl rfl k)
    refine own_Goes.st ?_ (fun _ k => XS.iconst X185.here hx rfl (hb hby at_197) k)
    refine own_Goes.st ?_ (fun _ k => XS.iload X185.here hx rfl (hb hby at_198) rfl k)
    refine own_Goes.st ?_ (fun _ k => XS.i2dS X185.here hx rfl (hb hby at_200) rfl rfl k)
    have Vc189 := V186
    obtain ⟨cl189, Ar189, qc189, S189, Nn189, Hs189, Gs189⟩ := Vc189
    have hin190 : ¬ ((3 : Int32) < 0 ∨ cl189.slots.size ≤ ((3 : Int32)).toNatClampNeg) := inb_of S189 ⟨by decide, by decide⟩
    obtain ⟨T190, h190, X190, e190, W190, st190⟩ := stD X185 hx hZ e185 Ar189 (j := (3 : Int32)) hin190 (g := (mkF m 201 #[.val (.long p0), .second, .val (.int p1), .val (.int p2), .val (.int p3), .val (.int p4), .val (.int p5), .val (.int kk), .val (.int bb0), .val (.int bb1), .val (.int bb2), .val (.int bb3), .val (.int (4 : Int32)), .val (.ref sa), .val (.int (4 : Int32)), .val (.long co), .second, .val (.ref b170), .unset, .unset, .unset, .unset, .unset] [(.double (FP.i2d p5)), (.int (3 : Int32)), (.ref b170)])) rfl rfl (hb hby at_201)
    refine own_Goes.st ?_ st190
    have V191 : Arv Z h190 b170 k170 .double (4 : Int32) [(.double (FP.i2d p2)), (.double (FP.i2d p3)), (.double (FP.i2d p4)), (.double (FP.i2d p5))] (.double 0) := Arv.set Ar189 qc189 S189 Nn189 Hs189 Gs189 rfl W190 3 rfl (Nat.le_of_ble_eq_true rfl)
    have Z192 : n0 ≤ h190.size := by rw [W190.size]; exact Z187
    have N193 := Fr.snoc X190 N188 ge_b170
    show own_Goes p.tables e below P (T190.setTop (mkF m 202 #[.val (.long p0), .second, .val (.int p1), .val (.int p2), .val (.int p3), .val (.int p4), .val (.int p5), .val (.int kk), .val (.int bb0), .val (.int bb1), .val (.int bb2), .val (.int bb3), .val (.int (4 : Int32)), .val (.ref sa), .val (.int (4 : Int32)), .val (.long co), .second, .val (.ref b170), .unset, .unset, .unset, .unset, .unset] []))
    obtain ⟨T194, h194, X194, e194, E194, A194, D194, -, st194⟩ := newO X190 hx hZ hown (hw _ (List.mem_of_getElem? (i := 2) rfl)) (hw _ (List.mem_of_getElem? (i := 3) rfl)) (hw _ (List.mem_of_getElem? (i := 4) rfl)) e190 (g := (mkF m 202 #[.val (.long p0), .second, .val (.int p1), .val (.int p2), .val (.int p3), .val (.int p4), .val (.int p5), .val (.int kk), .val (.int bb0), .val (.int bb1), .val (.int bb2), .val (.int bb3), .val (.int (4 : Int32)), .val (.ref sa), .val (.int (4 : Int32)), .val (.long co), .second, .val (.ref b170), .unset, .unset, .unset, .unset, .unset] [])) rfl (hb hby at_202) (by decide) (by decide)
    obtain ⟨a194, g194⟩ : ∃ z, z = h190.size := ⟨_, rfl⟩
    rw [← g194] at A194 D194 st194
    have F195 : Arv Z h190 sa ks .int (4 : Int32) [(.int s0), (.int s1), (.int s2), (.int s3)] (.int 0) := (((((Vs.ext E170).other W175 ne171).other W180 ne171).other W185 ne171).other W190 ne171)
    have ne196 : sa ≠ a194 := Nat.ne_of_lt (Nat.lt_of_lt_of_eq F195.lt g194.symm)
    have F197 : Exa Z h190 b170 "[D" := ((((J170.wr W175).wr W180).wr W185).wr W190)
    have ne198 : b170 ≠ a194 := Nat.ne_of_lt (Nat.lt_of_lt_of_eq F197.lt g194.symm)
    have ge_a194 : n0 ≤ a194 := Nat.le_trans Z192 (Nat.le_of_eq g194.symm)
    refine own_Goes.st ?_ st194
    have Z199 : n0 ≤ h194.size := Nat.le_trans Z192 E194.1
    have F200 : Fld Z h194 a194 "com/example/pushmap/pushmap/schedule/Column" "object" "I" (.int (0 : Int32)) := D194 (Or.inr (hw _ (List.mem_of_getElem? (i := 12) rfl))) (ty := .int) (by decide)
    have F201 : Fld Z h194 a194 "com/example/pushmap/pushmap/schedule/Column" "slots" "[I" .null := D194 (Or.inr (hw _ (List.mem_of_getElem? (i := 14) rfl))) (ty := (.array .int)) (by decide)
    have F202 : Fld Z h194 a194 "com/example/pushmap/pushmap/schedule/Column" "cost" "J" (.long (0 : Int64)) := D194 (Or.inr (hw _ (List.mem_of_getElem? (i := 16) rfl))) (ty := .long) (by decide)
    show own_Goes p.tables e below P (T194.setTop (mkF m 205 #[.val (.long p0), .second, .val (.int p1), .val (.int p2), .val (.int p3), .val (.int p4), .val (.int p5), .val (.int kk), .val (.int bb0), .val (.int bb1), .val (.int bb2), .val (.int bb3), .val (.int (4 : Int32)), .val (.ref sa), .val (.int (4 : Int32)), .val (.long co), .second, .val (.ref b170), .unset, .unset, .unset, .unset, .unset] [(.ref a194)]))
    refine own_Goes.st ?_ (fun _ k => XS.dup X194.here hx rfl (hb hby at_205) rfl rfl k)
    refine own_Goes.st ?_ (fun _ k => XS.iloadN X194.here hx rfl (hb hby at_206) rfl k)
    refine own_Goes.st ?_ (fun _ k => XS.iconst X194.here hx rfl (hb hby at_207) k)
    refine own_Goes.st ?_ (fun _ k => XS.ishr X194.here hx rfl (hb hby at_208) rfl k)
    refine own_Goes.st ?_ (fun _ k => XS.aload X194.here hx rfl (hb hby at_209) rfl rfl k)
    refine own_Goes.st ?_ (fun _ k => XS.lload X194.here hx rfl (hb hby at_211) rfl k)
    show own_Goes p.tables e below P (T194.setTop (mkF m 213 #[.val (.long p0), .second, .val (.int p1), .val (.int p2), .val (.int p3), .val (.int p4), .val (.int p5), .val (.int kk), .val (.int bb0), .val (.int bb1), .val (.int bb2), .val (.int bb3), .val (.int (4 : Int32)), .val (.ref sa), .val (.int (4 : Int32)), .val (.long co), .second, .val (.ref b170), .unset, .unset, .unset, .unset, .unset] [(.long co), (.ref sa), (.int (p1 >>> ((4 : Int32) &&& 31))), (.ref a194), (.ref a194)]))
    obtain ⟨_, _, ⟨T203, L203, k203, n203⟩, -, X203, ⟨Lc203, hQ203, l203, y203, z203⟩, st203⟩ := X194.specialBack hx (y := (⟨"com/example/pushmap/pushmap/schedule/Column", "<init>", "(I[IJ)V"⟩ : MethodName)) rfl hown (mvT hZ (hw _ (List.mem_of_getElem? (i := 5) rfl))) (mvT hZ (hw _ (List.mem_of_getElem? (i := 6) rfl))) (mvT hZ (hw _ (List.mem_of_getElem? (i := 7) rfl))) (by decide) (backOf (W := 1) (rm_new l Z a0 hw [] a194 (p1 >>> ((4 : Int32) &&& 31)) sa co (.int (0 : Int32)) .null (.long (0 : Int64)) h194 n0 Z199 A194 F200 F201 F202 ge_a194) hZ (hw _ (List.mem_of_getElem? (i := 7) rfl)) (hw _ (List.mem_of_getElem? (i := 4) rfl)) (by decide) (by decide)) (g := (mkF m 213 #[.val (.long p0), .second, .val (.int p1), .val (.int p2), .val (.int p3), .val (.int p4), .val (.int p5), .val (.int kk), .val (.int bb0), .val (.int bb1), .val (.int bb2), .val (.int bb3), .val (.int (4 : Int32)), .val (.ref sa), .val (.int (4 : Int32)), .val (.long co), .second, .val (.ref b170), .unset, .unset, .unset, .unset, .unset] [(.long co), (.ref sa), (.int (p1 >>> ((4 : Int32) &&& 31))), (.ref a194), (.ref a194)])) rfl (by rw [hml]; rfl) (Steps.refl _) (a := a194) (argsL := [(.int (p1 >>> ((4 : Int32) &&& 31))), (.ref sa), (.long co)]) (rest := [(.ref a194)]) (lenOf own_pd__28_I_5b_IJ_29_V rfl) rfl (by show 2 * 0 + _ ≤ _; exact Nat.le_of_eq rfl) (hb hby at_213) (fun _ _ => ⟨rfl, e194, (by decide : 3 + 0 ≤ _), (by decide : 11 + 0 ≤ _)⟩)
    dsimp only [Pt.U, Pt.locs, Pt.cells, Pt.slots] at X203 l203 y203 z203 st203 hQ203
    rw [l203, y203, z203] at X203
    obtain ⟨rfl, Nq203, K203, f204, f205, f206⟩ := hQ203
    have N203 := Fr.app N193 Nq203
    refine own_Goes.tr st203 ?_
    have Z207 : n0 ≤ T203.heap.size := Nat.le_trans Z199 K203.1
    show own_Goes p.tables e below P (T203.setTop (mkF m 216 #[.val (.long p0), .second, .val (.int p1), .val (.int p2), .val (.int p3), .val (.int p4), .val (.int p5), .val (.int kk), .val (.int bb0), .val (.int bb1), .val (.int bb2), .val (.int bb3), .val (.int (4 : Int32)), .val (.ref sa), .val (.int (4 : Int32)), .val (.long co), .second, .val (.ref b170), .unset, .unset, .unset, .unset, .unset] [(.ref a194)]))
    refine own_Goes.st ?_ (fun _ k => XS.astore X203.here hx rfl (hb hby at_216) rfl rfl (l' := #[.val (.long p0), .second, .val (.int p1), .val (.int p2), .val (.int p3), .val (.int p4), .val (.int p5), .val (.int kk), .val (.int bb0), .val (.int bb1), .val (.int bb2), .val (.int bb3), .val (.int (4 : Int32)), .val (.ref sa), .val (.int (4 : Int32)), .val (.long co), .second, .val (.ref b170), .val (.ref a194), .unset, .unset, .unset, .unset]) rfl k)
    refine own_Goes.st ?_ (fun _ k => XS.aload X203.here hx rfl (hb hby at_218) rfl rfl k)
    refine own_Goes.st ?_ (fun _ k => XS.aload X203.here hx rfl (hb hby at_220) rfl rfl k)
    have F208 : Arv Z T203.heap sa ks .int (4 : Int32) [(.int s0), (.int s1), (.int s2), (.int s3)] (.int 0) := ((F195.ext E194).keep K203 (ninS ne196 nin0))
    have F209 : Arv Z T203.heap b170 k170 .double (4 : Int32) [(.double (FP.i2d p2)), (.double (FP.i2d p3)), (.double (FP.i2d p4)), (.double (FP.i2d p5))] (.double 0) := ((V191.ext E194).keep K203 (ninS ne198 nin0))
    obtain ⟨cq210, kq210, q210a, q210b, q210c⟩ := isOf hZ rfl f204
    obtain ⟨_, _, ⟨T210, L210, k210, n210⟩, -, X210, ⟨Lc210, hQ210, l210, y210, z210⟩, st210⟩ := X203.virtualBack hx (y := (⟨"com/example/pushmap/pushmap/schedule/Column", "priced", "([D)D"⟩ : MethodName)) (z := (⟨"com/example/pushmap/pushmap/schedule/Column", "priced", "([D)D"⟩ : MethodName)) hown (mvT hZ (hw _ (List.mem_of_getElem? (i := 17) rfl))) (mvT hZ (hw _ (List.mem_of_getElem? (i := 18) rfl))) (notFace_of_selects (args := #[]) (mvT hZ (hw _ (List.mem_of_getElem? (i := 20) rfl)))) (mvT hZ (hw _ (List.mem_of_getElem? (i := 20) rfl))) (mvT hZ (hw _ (List.mem_of_getElem? (i := 19) rfl))) (by decide) (backOf (W := 0) (rm_priced4 l Z a0 hw [] a194 b170 sa co ks k170 p2 p3 p4 p5 s0 s1 s2 s3 T203.heap n0 Z207 f205 f206 F208 F209 hco hs0 hs1 hs2 hs3) hZ (hw _ (List.mem_of_getElem? (i := 21) rfl)) (hw _ (List.mem_of_getElem? (i := 4) rfl)) (by decide) (by decide)) q210a q210c (g := (mkF m 222 #[.val (.long p0), .second, .val (.int p1), .val (.int p2), .val (.int p3), .val (.int p4), .val (.int p5), .val (.int kk), .val (.int bb0), .val (.int bb1), .val (.int bb2), .val (.int bb3), .val (.int (4 : Int32)), .val (.ref sa), .val (.int (4 : Int32)), .val (.long co), .second, .val (.ref b170), .val (.ref a194), .unset, .unset, .unset, .unset] [(.ref b170), (.ref a194)])) rfl (by rw [hml]; rfl) (Steps.refl _) (argsL := [(.ref b170)]) (rest := []) (lenOf own_pd__28__5b_D_29_D rfl) rfl (by show 2 * 0 + _ ≤ _; exact Nat.le_of_eq rfl) (hb hby at_222) (fun _ _ => ⟨rfl, rfl, (by decide : 3 + 0 ≤ _), (by decide : 11 + 0 ≤ _)⟩)
    dsimp only [Pt.U, Pt.locs, Pt.cells, Pt.slots] at X210 l210 y210 z210 st210 hQ210
    rw [l210, y210, z210] at X210
    obtain ⟨rfl, Nq210, e210⟩ := hQ210
    have N210 := Fr.app N203 Nq210
    refine own_Goes.tr st210 ?_
    show own_Goes p.tables e below P (T210.setTop (mkF m 225 #[.val (.long p0), .second, .val (.int p1), .val (.int p2), .val (.int p3), .val (.int p4), .val (.int p5), .val (.int kk), .val (.int bb0), .val (.int bb1), .val (.int bb2), .val (.int bb3), .val (.int (4 : Int32)), .val (.ref sa), .val (.int (4 : Int32)), .val (.long co), .second, .val (.ref b170), .val (.ref a194), .unset, .unset, .unset, .unset] [(.double (FP.l2d ((((co + own_pick p2 p3 p4 p5 s0) + own_pick p2 p3 p4 p5 s1) + own_pick p2 p3 p4 p5 s2) + own_pick p2 p3 p4 p5 s3)))]))
    refine own_Goes.st ?_ (fun _ k => XS.dstore X210.here hx rfl (hb hby at_225) rfl (l' := #[.val (.long p0), .second, .val (.int p1), .val (.int p2), .val (.int p3), .val (.int p4), .val (.int p5), .val (.int kk), .val (.int bb0), .val (.int bb1), .val (.int bb2), .val (.int bb3), .val (.int (4 : Int32)), .val (.ref sa), .val (.int (4 : Int32)), .val (.long co), .second, .val (.ref b170), .val (.ref a194), .val (.double (FP.l2d ((((co + own_pick p2 p3 p4 p5 s0) + own_pick p2 p3 p4 p5 s1) + own_pick p2 p3 p4 p5 s2) + own_pick p2 p3 p4 p5 s3))), .second, .unset, .unset]) rfl k)
    refine own_Goes.st ?_ (fun _ k => XS.lload X210.here hx rfl (hb hby at_227) rfl k)
    refine own_Goes.st ?_ (fun _ k => XS.lstore X210.here hx rfl (hb hby at_229) rfl (l' := #[.val (.long p0), .second, .val (.int p1), .val (.int p2), .val (.int p3), .val (.int p4), .val (.int p5), .val (.int kk), .val (.int bb0), .val (.int bb1), .val (.int bb2), .val (.int bb3), .val (.int (4 : Int32)), .val (.ref sa), .val (.int (4 : Int32)), .val (.long co), .second, .val (.ref b170), .val (.ref a194), .val (.double (FP.l2d ((((co + own_pick p2 p3 p4 p5 s0) + own_pick p2 p3 p4 p5 s1) + own_pick p2 p3 p4 p5 s2) + own_pick p2 p3 p4 p5 s3))), .second, .val (.long co), .second]) rfl k)
    have J4 : ∀ (rr : Int64) (_ : rr = (own_one bb3 (own_one bb2 (own_one bb1 (own_one bb0 co p2) p3) p4) p5)), own_Goes p.tables e below P (T210.setTop (mkF m 282 #[.val (.long p0), .second, .val (.int p1), .val (.int p2), .val (.int p3), .val (.int p4), .val (.int p5), .val (.int kk), .val (.int bb0), .val (.int bb1), .val (.int bb2), .val (.int bb3), .val (.int (4 : Int32)), .val (.ref sa), .val (.int (4 : Int32)), .val (.long co), .second, .val (.ref b170), .val (.ref a194), .val (.double (FP.l2d ((((co + own_pick p2 p3 p4 p5 s0) + own_pick p2 p3 p4 p5 s1) + own_pick p2 p3 p4 p5 s2) + own_pick p2 p3 p4 p5 s3))), .second, .val (.long rr), .second] [])) := by
      intro rr hrr
      refine own_Goes.st ?_ (fun _ k => XS.dload X210.here hx rfl (hb hby at_282) rfl k)
      refine own_Goes.st ?_ (fun _ k => XS.lload X210.here hx rfl (hb hby at_284) rfl k)
      refine own_Goes.st ?_ (fun _ k => XS.l2dS X210.here hx rfl (hb hby at_286) rfl rfl k)
      show own_Goes p.tables e below P (T210.setTop (mkF m 287 #[.val (.long p0), .second, .val (.int p1), .val (.int p2), .val (.int p3), .val (.int p4), .val (.int p5), .val (.int kk), .val (.int bb0), .val (.int bb1), .val (.int bb2), .val (.int bb3), .val (.int (4 : Int32)), .val (.ref sa), .val (.int (4 : Int32)), .val (.long co), .second, .val (.ref b170), .val (.ref a194), .val (.double (FP.l2d ((((co + own_pick p2 p3 p4 p5 s0) + own_pick p2 p3 p4 p5 s1) + own_pick p2 p3 p4 p5 s2) + own_pick p2 p3 p4 p5 s3))), .second, .val (.long rr), .second] [(.double (FP.l2d rr)), (.double (FP.l2d ((((co + own_pick p2 p3 p4 p5 s0) + own_pick p2 p3 p4 p5 s1) + own_pick p2 p3 p4 p5 s2) + own_pick p2 p3 p4 p5 s3)))]))
      refine own_Goes.st ?_ (fun _ k => XS.dcmpS X210.here hx rfl (hb hby at_287) rfl rfl k)
      show own_Goes p.tables e below P (T210.setTop (mkF m 288 #[.val (.long p0), .second, .val (.int p1), .val (.int p2), .val (.int p3), .val (.int p4), .val (.int p5), .val (.int kk), .val (.int bb0), .val (.int bb1), .val (.int bb2), .val (.int bb3), .val (.int (4 : Int32)), .val (.ref sa), .val (.int (4 : Int32)), .val (.long co), .second, .val (.ref b170), .val (.ref a194), .val (.double (FP.l2d ((((co + own_pick p2 p3 p4 p5 s0) + own_pick p2 p3 p4 p5 s1) + own_pick p2 p3 p4 p5 s2) + own_pick p2 p3 p4 p5 s3))), .second, .val (.long rr), .second] [(.int (cmpValue (FP.dcmp (FP.l2d ((((co + own_pick p2 p3 p4 p5 s0) + own_pick p2 p3 p4 p5 s1) + own_pick p2 p3 p4 p5 s2) + own_pick p2 p3 p4 p5 s3)) (FP.l2d rr)) .l))]))
      rw [own_cmp (hsum.trans hrr.symm) .l]
      show own_Goes p.tables e below P (T210.setTop (mkF m 288 #[.val (.long p0), .second, .val (.int p1), .val (.int p2), .val (.int p3), .val (.int p4), .val (.int p5), .val (.int kk), .val (.int bb0), .val (.int bb1), .val (.int bb2), .val (.int bb3), .val (.int (4 : Int32)), .val (.ref sa), .val (.int (4 : Int32)), .val (.long co), .second, .val (.ref b170), .val (.ref a194), .val (.double (FP.l2d ((((co + own_pick p2 p3 p4 p5 s0) + own_pick p2 p3 p4 p5 s1) + own_pick p2 p3 p4 p5 s2) + own_pick p2 p3 p4 p5 s3))), .second, .val (.long rr), .second] [(.int (0 : Int32))]))
      refine own_Goes.st ?_ (fun _ k => XS.ifNo X210.here hx rfl (hb hby at_288) rfl ((if0 _ _).trans (teq (by decide : (0 : Int32) = (0 : Int32))).2) k)
      refine own_Goes.st ?_ (fun _ k => XS.iconst X210.here hx rfl (hb hby at_291) k)
      refine own_Goes.st ?_ (fun _ k => XS.goto X210.here hx rfl (pc0 := 292) (pc' := 296) rfl (hb hby at_292) (by decide) (by decide) k)
      obtain ⟨fs, hr, hrun, hended, hW, hsame⟩ := X210.leave (v := some (.int (1 : Int32))) (fun h => by rw [Bd.returns] at h; cases h)
      exact own_Goes.fin _ _ (retOut X210 hx (t := .boolean) Bd.returns rfl (Or.inl ⟨rfl, Or.inr (Or.inl rfl), _, rfl⟩) (hb hby at_296) hr) (hPP _ _ ⟨hrun, hended, _, _, rfl, (by show Q_law n0 _ _; exact ⟨rfl, N210⟩), ⟨_, rfl⟩, hW, hsame.mono (by decide) (by decide)⟩)
    have J3 : ∀ (rr : Int64) (_ : rr = (own_one bb2 (own_one bb1 (own_one bb0 co p2) p3) p4)), own_Goes p.tables e below P (T210.setTop (mkF m 269 #[.val (.long p0), .second, .val (.int p1), .val (.int p2), .val (.int p3), .val (.int p4), .val (.int p5), .val (.int kk), .val (.int bb0), .val (.int bb1), .val (.int bb2), .val (.int bb3), .val (.int (4 : Int32)), .val (.ref sa), .val (.int (4 : Int32)), .val (.long co), .second, .val (.ref b170), .val (.ref a194), .val (.double (FP.l2d ((((co + own_pick p2 p3 p4 p5 s0) + own_pick p2 p3 p4 p5 s1) + own_pick p2 p3 p4 p5 s2) + own_pick p2 p3 p4 p5 s3))), .second, .val (.long rr), .second] [])) := by
      intro rr hrr
      refine own_Goes.st ?_ (fun _ k => XS.iload X210.here hx rfl (hb hby at_269) rfl k)
      by_cases hb3 : bb3 = (0 : Int32)
      · skip
        refine own_Goes.st ?_ (fun _ k => XS.ifYes X210.here hx rfl (pc0 := 271) (pc' := 282) rfl (hb hby at_271) rfl ((if0 _ _).trans (teq hb3).1) (by decide) (by decide) k)
        exact (J4 _ (by rw [own_one, if_pos hb3]; exact hrr))
      · skip
        refine own_Goes.st ?_ (fun _ k => XS.ifNo X210.here hx rfl (hb hby at_271) rfl ((if0 _ _).trans (feq hb3).1) k)
        refine own_Goes.st ?_ (fun _ k => XS.lload X210.here hx rfl (hb hby at_274) rfl k)
        show own_Goes p.tables e below P (T210.setTop (mkF m 276 #[.val (.long p0), .second, .val (.int p1), .val (.int p2), .val (.int p3), .val (.int p4), .val (.int p5), .val (.int kk), .val (.int bb0), .val (.int bb1), .val (.int bb2), .val (.int bb3), .val (.int (4 : Int32)), .val (.ref sa), .val (.int (4 : Int32)), .val (.long co), .second, .val (.ref b170), .val (.ref a194), .val (.double (FP.l2d ((((co + own_pick p2 p3 p4 p5 s0) + own_pick p2 p3 p4 p5 s1) + own_pick p2 p3 p4 p5 s2) + own_pick p2 p3 p4 p5 s3))), .second, .val (.long rr), .second] [(.long rr)]))
        refine own_Goes.st ?_ (fun _ k => XS.iload X210.here hx rfl (hb hby at_276) rfl k)
        refine own_Goes.st ?_ (fun _ k => XS.i2l X210.here hx rfl (hb hby at_278) rfl k)
        refine own_Goes.st ?_ (fun _ k => XS.ladd X210.here hx rfl (hb hby at_279) rfl k)
        refine own_Goes.st ?_ (fun _ k => XS.lstore X210.here hx rfl (hb hby at_280) rfl (l' := #[.val (.long p0), .second, .val (.int p1), .val (.int p2), .val (.int p3), .val (.int p4), .val (.int p5), .val (.int kk), .val (.int bb0), .val (.int bb1), .val (.int bb2), .val (.int bb3), .val (.int (4 : Int32)), .val (.ref sa), .val (.int (4 : Int32)), .val (.long co), .second, .val (.ref b170), .val (.ref a194), .val (.double (FP.l2d ((((co + own_pick p2 p3 p4 p5 s0) + own_pick p2 p3 p4 p5 s1) + own_pick p2 p3 p4 p5 s2) + own_pick p2 p3 p4 p5 s3))), .second, .val (.long (rr + ((p5).toInt64))), .second]) rfl k)
        exact (J4 _ (by rw [own_one, if_neg hb3]; rw [hrr]))
    have J2 : ∀ (rr : Int64) (_ : rr = (own_one bb1 (own_one bb0 co p2) p3)), own_Goes p.tables e below P (T210.setTop (mkF m 256 #[.val (.long p0), .second, .val (.int p1), .val (.int p2), .val (.int p3), .val (.int p4), .val (.int p5), .val (.int kk), .val (.int bb0), .val (.int bb1), .val (.int bb2), .val (.int bb3), .val (.int (4 : Int32)), .val (.ref sa), .val (.int (4 : Int32)), .val (.long co), .second, .val (.ref b170), .val (.ref a194), .val (.double (FP.l2d ((((co + own_pick p2 p3 p4 p5 s0) + own_pick p2 p3 p4 p5 s1) + own_pick p2 p3 p4 p5 s2) + own_pick p2 p3 p4 p5 s3))), .second, .val (.long rr), .second] [])) := by
      intro rr hrr
      refine own_Goes.st ?_ (fun _ k => XS.iload X210.here hx rfl (hb hby at_256) rfl k)
      by_cases hb2 : bb2 = (0 : Int32)
      · skip
        refine own_Goes.st ?_ (fun _ k => XS.ifYes X210.here hx rfl (pc0 := 258) (pc' := 269) rfl (hb hby at_258) rfl ((if0 _ _).trans (teq hb2).1) (by decide) (by decide) k)
        exact (J3 _ (by rw [own_one, if_pos hb2]; exact hrr))
      · skip
        refine own_Goes.st ?_ (fun _ k => XS.ifNo X210.here hx rfl (hb hby at_258) rfl ((if0 _ _).trans (feq hb2).1) k)
        refine own_Goes.st ?_ (fun _ k => XS.lload X210.here hx rfl (hb hby at_261) rfl k)
        show own_Goes p.tables e below P (T210.setTop (mkF m 263 #[.val (.long p0), .second, .val (.int p1), .val (.int p2), .val (.int p3), .val (.int p4), .val (.int p5), .val (.int kk), .val (.int bb0), .val (.int bb1), .val (.int bb2), .val (.int bb3), .val (.int (4 : Int32)), .val (.ref sa), .val (.int (4 : Int32)), .val (.long co), .second, .val (.ref b170), .val (.ref a194), .val (.double (FP.l2d ((((co + own_pick p2 p3 p4 p5 s0) + own_pick p2 p3 p4 p5 s1) + own_pick p2 p3 p4 p5 s2) + own_pick p2 p3 p4 p5 s3))), .second, .val (.long rr), .second] [(.long rr)]))
        refine own_Goes.st ?_ (fun _ k => XS.iload X210.here hx rfl (hb hby at_263) rfl k)
        refine own_Goes.st ?_ (fun _ k => XS.i2l X210.here hx rfl (hb hby at_265) rfl k)
        refine own_Goes.st ?_ (fun _ k => XS.ladd X210.here hx rfl (hb hby at_266) rfl k)
        refine own_Goes.st ?_ (fun _ k => XS.lstore X210.here hx rfl (hb hby at_267) rfl (l' := #[.val (.long p0), .second, .val (.int p1), .val (.int p2), .val (.int p3), .val (.int p4), .val (.int p5), .val (.int kk), .val (.int bb0), .val (.int bb1), .val (.int bb2), .val (.int bb3), .val (.int (4 : Int32)), .val (.ref sa), .val (.int (4 : Int32)), .val (.long co), .second, .val (.ref b170), .val (.ref a194), .val (.double (FP.l2d ((((co + own_pick p2 p3 p4 p5 s0) + own_pick p2 p3 p4 p5 s1) + own_pick p2 p3 p4 p5 s2) + own_pick p2 p3 p4 p5 s3))), .second, .val (.long (rr + ((p4).toInt64))), .second]) rfl k)
        exact (J3 _ (by rw [own_one, if_neg hb2]; rw [hrr]))
    have J1 : ∀ (rr : Int64) (_ : rr = (own_one bb0 co p2)), own_Goes p.tables e below P (T210.setTop (mkF m 243 #[.val (.long p0), .second, .val (.int p1), .val (.int p2), .val (.int p3), .val (.int p4), .val (.int p5), .val (.int kk), .val (.int bb0), .val (.int bb1), .val (.int bb2), .val (.int bb3), .val (.int (4 : Int32)), .val (.ref sa), .val (.int (4 : Int32)), .val (.long co), .second, .val (.ref b170), .val (.ref a194), .val (.double (FP.l2d ((((co + own_pick p2 p3 p4 p5 s0) + own_pick p2 p3 p4 p5 s1) + own_pick p2 p3 p4 p5 s2) + own_pick p2 p3 p4 p5 s3))), .second, .val (.long rr), .second] [])) := by
      intro rr hrr
      refine own_Goes.st ?_ (fun _ k => XS.iload X210.here hx rfl (hb hby at_243) rfl k)
      by_cases hb1 : bb1 = (0 : Int32)
      · skip
        refine own_Goes.st ?_ (fun _ k => XS.ifYes X210.here hx rfl (pc0 := 245) (pc' := 256) rfl (hb hby at_245) rfl ((if0 _ _).trans (teq hb1).1) (by decide) (by decide) k)
        exact (J2 _ (by rw [own_one, if_pos hb1]; exact hrr))
      · skip
        refine own_Goes.st ?_ (fun _ k => XS.ifNo X210.here hx rfl (hb hby at_245) rfl ((if0 _ _).trans (feq hb1).1) k)
        refine own_Goes.st ?_ (fun _ k => XS.lload X210.here hx rfl (hb hby at_248) rfl k)
        show own_Goes p.tables e below P (T210.setTop (mkF m 250 #[.val (.long p0), .second, .val (.int p1), .val (.int p2), .val (.int p3), .val (.int p4), .val (.int p5), .val (.int kk), .val (.int bb0), .val (.int bb1), .val (.int bb2), .val (.int bb3), .val (.int (4 : Int32)), .val (.ref sa), .val (.int (4 : Int32)), .val (.long co), .second, .val (.ref b170), .val (.ref a194), .val (.double (FP.l2d ((((co + own_pick p2 p3 p4 p5 s0) + own_pick p2 p3 p4 p5 s1) + own_pick p2 p3 p4 p5 s2) + own_pick p2 p3 p4 p5 s3))), .second, .val (.long rr), .second] [(.long rr)]))
        refine own_Goes.st ?_ (fun _ k => XS.iload X210.here hx rfl (hb hby at_250) rfl k)
        refine own_Goes.st ?_ (fun _ k => XS.i2l X210.here hx rfl (hb hby at_252) rfl k)
        refine own_Goes.st ?_ (fun _ k => XS.ladd X210.here hx rfl (hb hby at_253) rfl k)
        refine own_Goes.st ?_ (fun _ k => XS.lstore X210.here hx rfl (hb hby at_254) rfl (l' := #[.val (.long p0), .second, .val (.int p1), .val (.int p2), .val (.int p3), .val (.int p4), .val (.int p5), .val (.int kk), .val (.int bb0), .val (.int bb1), .val (.int bb2), .val (.int bb3), .val (.int (4 : Int32)), .val (.ref sa), .val (.int (4 : Int32)), .val (.long co), .second, .val (.ref b170), .val (.ref a194), .val (.double (FP.l2d ((((co + own_pick p2 p3 p4 p5 s0) + own_pick p2 p3 p4 p5 s1) + own_pick p2 p3 p4 p5 s2) + own_pick p2 p3 p4 p5 s3))), .second, .val (.long (rr + ((p3).toInt64))), .second]) rfl k)
        exact (J2 _ (by rw [own_one, if_neg hb1]; rw [hrr]))
    refine own_Goes.st ?_ (fun _ k => XS.iload X210.here hx rfl (hb hby at_231) rfl k)
    by_cases hb0 : bb0 = (0 : Int32)
    · skip
      refine own_Goes.st ?_ (fun _ k => XS.ifYes X210.here hx rfl (pc0 := 233) (pc' := 243) rfl (hb hby at_233) rfl ((if0 _ _).trans (teq hb0).1) (by decide) (by decide) k)
      exact (J1 _ (by rw [own_one, if_pos hb0]))
    · skip
      refine own_Goes.st ?_ (fun _ k => XS.ifNo X210.here hx rfl (hb hby at_233) rfl ((if0 _ _).trans (feq hb0).1) k)
      refine own_Goes.st ?_ (fun _ k => XS.lload X210.here hx rfl (hb hby at_236) rfl k)
      show own_Goes p.tables e below P (T210.setTop (mkF m 238 #[.val (.long p0), .second, .val (.int p1), .val (.int p2), .val (.int p3), .val (.int p4), .val (.int p5), .val (.int kk), .val (.int bb0), .val (.int bb1), .val (.int bb2), .val (.int bb3), .val (.int (4 : Int32)), .val (.ref sa), .val (.int (4 : Int32)), .val (.long co), .second, .val (.ref b170), .val (.ref a194), .val (.double (FP.l2d ((((co + own_pick p2 p3 p4 p5 s0) + own_pick p2 p3 p4 p5 s1) + own_pick p2 p3 p4 p5 s2) + own_pick p2 p3 p4 p5 s3))), .second, .val (.long co), .second] [(.long co)]))
      refine own_Goes.st ?_ (fun _ k => XS.iloadN X210.here hx rfl (hb hby at_238) rfl k)
      refine own_Goes.st ?_ (fun _ k => XS.i2l X210.here hx rfl (hb hby at_239) rfl k)
      refine own_Goes.st ?_ (fun _ k => XS.ladd X210.here hx rfl (hb hby at_240) rfl k)
      refine own_Goes.st ?_ (fun _ k => XS.lstore X210.here hx rfl (hb hby at_241) rfl (l' := #[.val (.long p0), .second, .val (.int p1), .val (.int p2), .val (.int p3), .val (.int p4), .val (.int p5), .val (.int kk), .val (.int bb0), .val (.int bb1), .val (.int bb2), .val (.int bb3), .val (.int (4 : Int32)), .val (.ref sa), .val (.int (4 : Int32)), .val (.long co), .second, .val (.ref b170), .val (.ref a194), .val (.double (FP.l2d ((((co + own_pick p2 p3 p4 p5 s0) + own_pick p2 p3 p4 p5 s1) + own_pick p2 p3 p4 p5 s2) + own_pick p2 p3 p4 p5 s3))), .second, .val (.long (co + ((p2).toInt64))), .second]) rfl k)
      exact (J1 _ (by rw [own_one, if_neg hb0]))
  rcases own_k _ _ hkk with rfl | rfl | rfl | rfl | rfl | rfl | rfl | rfl | rfl | rfl | rfl | rfl | rfl | rfl | rfl | rfl
  · skip
    show own_Goes p.tables e below P (s₁.setTop (mkF m 6 #[.val (.long p0), .second, .val (.int p1), .val (.int p2), .val (.int p3), .val (.int p4), .val (.int p5), .val (.int (0 : Int32)), .unset, .unset, .unset, .unset, .unset, .unset, .unset, .unset, .unset, .unset, .unset, .unset, .unset, .unset, .unset] []))
    refine own_Goes.st ?_ (fun _ k => XS.iload X0.here hx rfl (hb hby at_6) rfl k)
    refine own_Goes.st ?_ (fun _ k => XS.iconst X0.here hx rfl (hb hby at_8) k)
    refine own_Goes.st ?_ (fun _ k => XS.iand X0.here hx rfl (hb hby at_9) rfl k)
    refine own_Goes.st ?_ (fun _ k => XS.ifYes X0.here hx rfl (pc0 := 10) (pc' := 17) rfl (hb hby at_10) rfl ((if0 _ _).trans (teq (by decide : (0 : Int32) = (0 : Int32))).1) (by decide) (by decide) k)
    refine own_Goes.st ?_ (fun _ k => XS.iconst X0.here hx rfl (hb hby at_17) k)
    refine own_Goes.st ?_ (fun _ k => XS.istore X0.here hx rfl (hb hby at_18) rfl (l' := #[.val (.long p0), .second, .val (.int p1), .val (.int p2), .val (.int p3), .val (.int p4), .val (.int p5), .val (.int (0 : Int32)), .val (.int (0 : Int32)), .unset, .unset, .unset, .unset, .unset, .unset, .unset, .unset, .unset, .unset, .unset, .unset, .unset, .unset]) rfl k)
    show own_Goes p.tables e below P (s₁.setTop (mkF m 20 #[.val (.long p0), .second, .val (.int p1), .val (.int p2), .val (.int p3), .val (.int p4), .val (.int p5), .val (.int (0 : Int32)), .val (.int (0 : Int32)), .unset, .unset, .unset, .unset, .unset, .unset, .unset, .unset, .unset, .unset, .unset, .unset, .unset, .unset] []))
    refine own_Goes.st ?_ (fun _ k => XS.iload X0.here hx rfl (hb hby at_20) rfl k)
    refine own_Goes.st ?_ (fun _ k => XS.iconst X0.here hx rfl (hb hby at_22) k)
    refine own_Goes.st ?_ (fun _ k => XS.iand X0.here hx rfl (hb hby at_23) rfl k)
    refine own_Goes.st ?_ (fun _ k => XS.ifYes X0.here hx rfl (pc0 := 24) (pc' := 31) rfl (hb hby at_24) rfl ((if0 _ _).trans (teq (by decide : (0 : Int32) = (0 : Int32))).1) (by decide) (by decide) k)
    refine own_Goes.st ?_ (fun _ k => XS.iconst X0.here hx rfl (hb hby at_31) k)
    refine own_Goes.st ?_ (fun _ k => XS.istore X0.here hx rfl (hb hby at_32) rfl (l' := #[.val (.long p0), .second, .val (.int p1), .val (.int p2), .val (.int p3), .val (.int p4), .val (.int p5), .val (.int (0 : Int32)), .val (.int (0 : Int32)), .val (.int (0 : Int32)), .unset, .unset, .unset, .unset, .unset, .unset, .unset, .unset, .unset, .unset, .unset, .unset, .unset]) rfl k)
    show own_Goes p.tables e below P (s₁.setTop (mkF m 34 #[.val (.long p0), .second, .val (.int p1), .val (.int p2), .val (.int p3), .val (.int p4), .val (.int p5), .val (.int (0 : Int32)), .val (.int (0 : Int32)), .val (.int (0 : Int32)), .unset, .unset, .unset, .unset, .unset, .unset, .unset, .unset, .unset, .unset, .unset, .unset, .unset] []))
    refine own_Goes.st ?_ (fun _ k => XS.iload X0.here hx rfl (hb hby at_34) rfl k)
    refine own_Goes.st ?_ (fun _ k => XS.iconst X0.here hx rfl (hb hby at_36) k)
    refine own_Goes.st ?_ (fun _ k => XS.iand X0.here hx rfl (hb hby at_37) rfl k)
    refine own_Goes.st ?_ (fun _ k => XS.ifYes X0.here hx rfl (pc0 := 38) (pc' := 45) rfl (hb hby at_38) rfl ((if0 _ _).trans (teq (by decide : (0 : Int32) = (0 : Int32))).1) (by decide) (by decide) k)
    refine own_Goes.st ?_ (fun _ k => XS.iconst X0.here hx rfl (hb hby at_45) k)
    refine own_Goes.st ?_ (fun _ k => XS.istore X0.here hx rfl (hb hby at_46) rfl (l' := #[.val (.long p0), .second, .val (.int p1), .val (.int p2), .val (.int p3), .val (.int p4), .val (.int p5), .val (.int (0 : Int32)), .val (.int (0 : Int32)), .val (.int (0 : Int32)), .val (.int (0 : Int32)), .unset, .unset, .unset, .unset, .unset, .unset, .unset, .unset, .unset, .unset, .unset, .unset]) rfl k)
    show own_Goes p.tables e below P (s₁.setTop (mkF m 48 #[.val (.long p0), .second, .val (.int p1), .val (.int p2), .val (.int p3), .val (.int p4), .val (.int p5), .val (.int (0 : Int32)), .val (.int (0 : Int32)), .val (.int (0 : Int32)), .val (.int (0 : Int32)), .unset, .unset, .unset, .unset, .unset, .unset, .unset, .unset, .unset, .unset, .unset, .unset] []))
    refine own_Goes.st ?_ (fun _ k => XS.iload X0.here hx rfl (hb hby at_48) rfl k)
    refine own_Goes.st ?_ (fun _ k => XS.bipush X0.here hx rfl (hb hby at_50) k)
    refine own_Goes.st ?_ (fun _ k => XS.iand X0.here hx rfl (hb hby at_52) rfl k)
    refine own_Goes.st ?_ (fun _ k => XS.ifYes X0.here hx rfl (pc0 := 53) (pc' := 60) rfl (hb hby at_53) rfl ((if0 _ _).trans (teq (by decide : (0 : Int32) = (0 : Int32))).1) (by decide) (by decide) k)
    refine own_Goes.st ?_ (fun _ k => XS.iconst X0.here hx rfl (hb hby at_60) k)
    refine own_Goes.st ?_ (fun _ k => XS.istore X0.here hx rfl (hb hby at_61) rfl (l' := #[.val (.long p0), .second, .val (.int p1), .val (.int p2), .val (.int p3), .val (.int p4), .val (.int p5), .val (.int (0 : Int32)), .val (.int (0 : Int32)), .val (.int (0 : Int32)), .val (.int (0 : Int32)), .val (.int (0 : Int32)), .unset, .unset, .unset, .unset, .unset, .unset, .unset, .unset, .unset, .unset, .unset]) rfl k)
    show own_Goes p.tables e below P (s₁.setTop (mkF m 63 #[.val (.long p0), .second, .val (.int p1), .val (.int p2), .val (.int p3), .val (.int p4), .val (.int p5), .val (.int (0 : Int32)), .val (.int (0 : Int32)), .val (.int (0 : Int32)), .val (.int (0 : Int32)), .val (.int (0 : Int32)), .unset, .unset, .unset, .unset, .unset, .unset, .unset, .unset, .unset, .unset, .unset] []))
    refine own_Goes.st ?_ (fun _ k => XS.iload X0.here hx rfl (hb hby at_63) rfl k)
    refine own_Goes.st ?_ (fun _ k => XS.iconst X0.here hx rfl (hb hby at_65) k)
    refine own_Goes.st ?_ (fun _ k => XS.iand X0.here hx rfl (hb hby at_66) rfl k)
    refine own_Goes.st ?_ (fun _ k => XS.iload X0.here hx rfl (hb hby at_67) rfl k)
    refine own_Goes.st ?_ (fun _ k => XS.iconst X0.here hx rfl (hb hby at_69) k)
    refine own_Goes.st ?_ (fun _ k => XS.ishr X0.here hx rfl (hb hby at_70) rfl k)
    show own_Goes p.tables e below P (s₁.setTop (mkF m 71 #[.val (.long p0), .second, .val (.int p1), .val (.int p2), .val (.int p3), .val (.int p4), .val (.int p5), .val (.int (0 : Int32)), .val (.int (0 : Int32)), .val (.int (0 : Int32)), .val (.int (0 : Int32)), .val (.int (0 : Int32)), .unset, .unset, .unset, .unset, .unset, .unset, .unset, .unset, .unset, .unset, .unset] [(.int (0 : Int32)), (.int (0 : Int32))]))
    refine own_Goes.st ?_ (fun _ k => XS.iconst X0.here hx rfl (hb hby at_71) k)
    refine own_Goes.st ?_ (fun _ k => XS.iand X0.here hx rfl (hb hby at_72) rfl k)
    refine own_Goes.st ?_ (fun _ k => XS.iadd X0.here hx rfl (hb hby at_73) rfl k)
    refine own_Goes.st ?_ (fun _ k => XS.iload X0.here hx rfl (hb hby at_74) rfl k)
    refine own_Goes.st ?_ (fun _ k => XS.iconst X0.here hx rfl (hb hby at_76) k)
    refine own_Goes.st ?_ (fun _ k => XS.ishr X0.here hx rfl (hb hby at_77) rfl k)
    show own_Goes p.tables e below P (s₁.setTop (mkF m 78 #[.val (.long p0), .second, .val (.int p1), .val (.int p2), .val (.int p3), .val (.int p4), .val (.int p5), .val (.int (0 : Int32)), .val (.int (0 : Int32)), .val (.int (0 : Int32)), .val (.int (0 : Int32)), .val (.int (0 : Int32)), .unset, .unset, .unset, .unset, .unset, .unset, .unset, .unset, .unset, .unset, .unset] [(.int (0 : Int32)), (.int (0 : Int32))]))
    refine own_Goes.st ?_ (fun _ k => XS.iconst X0.here hx rfl (hb hby at_78) k)
    refine own_Goes.st ?_ (fun _ k => XS.iand X0.here hx rfl (hb hby at_79) rfl k)
    refine own_Goes.st ?_ (fun _ k => XS.iadd X0.here hx rfl (hb hby at_80) rfl k)
    refine own_Goes.st ?_ (fun _ k => XS.iload X0.here hx rfl (hb hby at_81) rfl k)
    refine own_Goes.st ?_ (fun _ k => XS.iconst X0.here hx rfl (hb hby at_83) k)
    refine own_Goes.st ?_ (fun _ k => XS.ishr X0.here hx rfl (hb hby at_84) rfl k)
    show own_Goes p.tables e below P (s₁.setTop (mkF m 85 #[.val (.long p0), .second, .val (.int p1), .val (.int p2), .val (.int p3), .val (.int p4), .val (.int p5), .val (.int (0 : Int32)), .val (.int (0 : Int32)), .val (.int (0 : Int32)), .val (.int (0 : Int32)), .val (.int (0 : Int32)), .unset, .unset, .unset, .unset, .unset, .unset, .unset, .unset, .unset, .unset, .unset] [(.int (0 : Int32)), (.int (0 : Int32))]))
    refine own_Goes.st ?_ (fun _ k => XS.iconst X0.here hx rfl (hb hby at_85) k)
    refine own_Goes.st ?_ (fun _ k => XS.iand X0.here hx rfl (hb hby at_86) rfl k)
    refine own_Goes.st ?_ (fun _ k => XS.iadd X0.here hx rfl (hb hby at_87) rfl k)
    refine own_Goes.st ?_ (fun _ k => XS.istore X0.here hx rfl (hb hby at_88) rfl (l' := #[.val (.long p0), .second, .val (.int p1), .val (.int p2), .val (.int p3), .val (.int p4), .val (.int p5), .val (.int (0 : Int32)), .val (.int (0 : Int32)), .val (.int (0 : Int32)), .val (.int (0 : Int32)), .val (.int (0 : Int32)), .val (.int (0 : Int32)), .unset, .unset, .unset, .unset, .unset, .unset, .unset, .unset, .unset, .unset]) rfl k)
    refine own_Goes.st ?_ (fun _ k => XS.iload X0.here hx rfl (hb hby at_90) rfl k)
    obtain ⟨T211, h211, k211, X211, e211, E211, A211, J211, st211⟩ := newPE X0 hx hZ (hw _ (List.mem_of_getElem? (i := 0) rfl)) e0 (g := (mkF m 92 #[.val (.long p0), .second, .val (.int p1), .val (.int p2), .val (.int p3), .val (.int p4), .val (.int p5), .val (.int (0 : Int32)), .val (.int (0 : Int32)), .val (.int (0 : Int32)), .val (.int (0 : Int32)), .val (.int (0 : Int32)), .val (.int (0 : Int32)), .unset, .unset, .unset, .unset, .unset, .unset, .unset, .unset, .unset, .unset] [(.int (0 : Int32))])) rfl (hb hby at_92) rfl (by decide) (cap := 4) (by decide) (by decide) (by decide) (by decide) (ad := "[I") rfl
    obtain ⟨b211, g211⟩ : ∃ z, z = h0.size := ⟨_, rfl⟩
    rw [← g211] at A211 J211 st211
    have ge_b211 : n0 ≤ b211 := Nat.le_trans Z0 (Nat.le_of_eq g211.symm)
    refine own_Goes.st ?_ st211
    have Z212 : n0 ≤ h211.size := Nat.le_trans Z0 E211.1
    have V213 : Arv Z h211 b211 k211 .int (0 : Int32) [] (.int 0) := (Arv.new A211 (by decide)).pad (pad_rep [] _ 0)
    show own_Goes p.tables e below P (T211.setTop (mkF m 94 #[.val (.long p0), .second, .val (.int p1), .val (.int p2), .val (.int p3), .val (.int p4), .val (.int p5), .val (.int (0 : Int32)), .val (.int (0 : Int32)), .val (.int (0 : Int32)), .val (.int (0 : Int32)), .val (.int (0 : Int32)), .val (.int (0 : Int32)), .unset, .unset, .unset, .unset, .unset, .unset, .unset, .unset, .unset, .unset] [(.ref b211)]))
    refine own_Goes.st ?_ (fun _ k => XS.astore X211.here hx rfl (hb hby at_94) rfl rfl (l' := #[.val (.long p0), .second, .val (.int p1), .val (.int p2), .val (.int p3), .val (.int p4), .val (.int p5), .val (.int (0 : Int32)), .val (.int (0 : Int32)), .val (.int (0 : Int32)), .val (.int (0 : Int32)), .val (.int (0 : Int32)), .val (.int (0 : Int32)), .val (.ref b211), .unset, .unset, .unset, .unset, .unset, .unset, .unset, .unset, .unset]) rfl k)
    refine own_Goes.st ?_ (fun _ k => XS.iconst X211.here hx rfl (hb hby at_96) k)
    refine own_Goes.st ?_ (fun _ k => XS.istore X211.here hx rfl (hb hby at_97) rfl (l' := #[.val (.long p0), .second, .val (.int p1), .val (.int p2), .val (.int p3), .val (.int p4), .val (.int p5), .val (.int (0 : Int32)), .val (.int (0 : Int32)), .val (.int (0 : Int32)), .val (.int (0 : Int32)), .val (.int (0 : Int32)), .val (.int (0 : Int32)), .val (.ref b211), .val (.int (0 : Int32)), .unset, .unset, .unset, .unset, .unset, .unset, .unset, .unset]) rfl k)
    refine own_Goes.st ?_ (fun _ k => XS.iload X211.here hx rfl (hb hby at_99) rfl k)
    refine own_Goes.st ?_ (fun _ k => XS.ifYes X211.here hx rfl (pc0 := 101) (pc' := 113) rfl (hb hby at_101) rfl ((if0 _ _).trans (teq (by decide : (0 : Int32) = (0 : Int32))).1) (by decide) (by decide) k)
    refine own_Goes.st ?_ (fun _ k => XS.iload X211.here hx rfl (hb hby at_113) rfl k)
    show own_Goes p.tables e below P (T211.setTop (mkF m 115 #[.val (.long p0), .second, .val (.int p1), .val (.int p2), .val (.int p3), .val (.int p4), .val (.int p5), .val (.int (0 : Int32)), .val (.int (0 : Int32)), .val (.int (0 : Int32)), .val (.int (0 : Int32)), .val (.int (0 : Int32)), .val (.int (0 : Int32)), .val (.ref b211), .val (.int (0 : Int32)), .unset, .unset, .unset, .unset, .unset, .unset, .unset, .unset] [(.int (0 : Int32))]))
    refine own_Goes.st ?_ (fun _ k => XS.ifYes X211.here hx rfl (pc0 := 115) (pc' := 127) rfl (hb hby at_115) rfl ((if0 _ _).trans (teq (by decide : (0 : Int32) = (0 : Int32))).1) (by decide) (by decide) k)
    refine own_Goes.st ?_ (fun _ k => XS.iload X211.here hx rfl (hb hby at_127) rfl k)
    refine own_Goes.st ?_ (fun _ k => XS.ifYes X211.here hx rfl (pc0 := 129) (pc' := 141) rfl (hb hby at_129) rfl ((if0 _ _).trans (teq (by decide : (0 : Int32) = (0 : Int32))).1) (by decide) (by decide) k)
    refine own_Goes.st ?_ (fun _ k => XS.iload X211.here hx rfl (hb hby at_141) rfl k)
    refine own_Goes.st ?_ (fun _ k => XS.ifYes X211.here hx rfl (pc0 := 143) (pc' := 155) rfl (hb hby at_143) rfl ((if0 _ _).trans (teq (by decide : (0 : Int32) = (0 : Int32))).1) (by decide) (by decide) k)
    refine own_Goes.st ?_ (fun _ k => XS.iload X211.here hx rfl (hb hby at_155) rfl k)
    show own_Goes p.tables e below P (T211.setTop (mkF m 157 #[.val (.long p0), .second, .val (.int p1), .val (.int p2), .val (.int p3), .val (.int p4), .val (.int p5), .val (.int (0 : Int32)), .val (.int (0 : Int32)), .val (.int (0 : Int32)), .val (.int (0 : Int32)), .val (.int (0 : Int32)), .val (.int (0 : Int32)), .val (.ref b211), .val (.int (0 : Int32)), .unset, .unset, .unset, .unset, .unset, .unset, .unset, .unset] [(.int (0 : Int32))]))
    refine own_Goes.st ?_ (fun _ k => XS.ifNo X211.here hx rfl (hb hby at_157) rfl ((if0 _ _).trans (teq (by decide : (0 : Int32) = (0 : Int32))).2) k)
    refine own_Goes.st ?_ (fun _ k => XS.lloadN X211.here hx rfl (hb hby at_160) rfl k)
    refine own_Goes.st ?_ (fun _ k => XS.goto X211.here hx rfl (pc0 := 161) (pc' := 168) rfl (hb hby at_161) (by decide) (by decide) k)
    refine own_Goes.st ?_ (fun _ k => XS.lstore X211.here hx rfl (hb hby at_168) rfl (l' := #[.val (.long p0), .second, .val (.int p1), .val (.int p2), .val (.int p3), .val (.int p4), .val (.int p5), .val (.int (0 : Int32)), .val (.int (0 : Int32)), .val (.int (0 : Int32)), .val (.int (0 : Int32)), .val (.int (0 : Int32)), .val (.int (0 : Int32)), .val (.ref b211), .val (.int (0 : Int32)), .val (.long p0), .second, .unset, .unset, .unset, .unset, .unset, .unset]) rfl k)
    exact T0n _ _ X211 _ e211 N0 Z212 b211 k211 _ _ _ _ _ _ V213 rfl
  · skip
    show own_Goes p.tables e below P (s₁.setTop (mkF m 6 #[.val (.long p0), .second, .val (.int p1), .val (.int p2), .val (.int p3), .val (.int p4), .val (.int p5), .val (.int (1 : Int32)), .unset, .unset, .unset, .unset, .unset, .unset, .unset, .unset, .unset, .unset, .unset, .unset, .unset, .unset, .unset] []))
    refine own_Goes.st ?_ (fun _ k => XS.iload X0.here hx rfl (hb hby at_6) rfl k)
    refine own_Goes.st ?_ (fun _ k => XS.iconst X0.here hx rfl (hb hby at_8) k)
    refine own_Goes.st ?_ (fun _ k => XS.iand X0.here hx rfl (hb hby at_9) rfl k)
    refine own_Goes.st ?_ (fun _ k => XS.ifNo X0.here hx rfl (hb hby at_10) rfl ((if0 _ _).trans (feq (by decide : ¬ ((1 : Int32) = (0 : Int32)))).1) k)
    refine own_Goes.st ?_ (fun _ k => XS.iconst X0.here hx rfl (hb hby at_13) k)
    refine own_Goes.st ?_ (fun _ k => XS.goto X0.here hx rfl (pc0 := 14) (pc' := 18) rfl (hb hby at_14) (by decide) (by decide) k)
    show own_Goes p.tables e below P (s₁.setTop (mkF m 18 #[.val (.long p0), .second, .val (.int p1), .val (.int p2), .val (.int p3), .val (.int p4), .val (.int p5), .val (.int (1 : Int32)), .unset, .unset, .unset, .unset, .unset, .unset, .unset, .unset, .unset, .unset, .unset, .unset, .unset, .unset, .unset] [(.int (1 : Int32))]))
    refine own_Goes.st ?_ (fun _ k => XS.istore X0.here hx rfl (hb hby at_18) rfl (l' := #[.val (.long p0), .second, .val (.int p1), .val (.int p2), .val (.int p3), .val (.int p4), .val (.int p5), .val (.int (1 : Int32)), .val (.int (1 : Int32)), .unset, .unset, .unset, .unset, .unset, .unset, .unset, .unset, .unset, .unset, .unset, .unset, .unset, .unset]) rfl k)
    refine own_Goes.st ?_ (fun _ k => XS.iload X0.here hx rfl (hb hby at_20) rfl k)
    refine own_Goes.st ?_ (fun _ k => XS.iconst X0.here hx rfl (hb hby at_22) k)
    refine own_Goes.st ?_ (fun _ k => XS.iand X0.here hx rfl (hb hby at_23) rfl k)
    refine own_Goes.st ?_ (fun _ k => XS.ifYes X0.here hx rfl (pc0 := 24) (pc' := 31) rfl (hb hby at_24) rfl ((if0 _ _).trans (teq (by decide : (0 : Int32) = (0 : Int32))).1) (by decide) (by decide) k)
    refine own_Goes.st ?_ (fun _ k => XS.iconst X0.here hx rfl (hb hby at_31) k)
    show own_Goes p.tables e below P (s₁.setTop (mkF m 32 #[.val (.long p0), .second, .val (.int p1), .val (.int p2), .val (.int p3), .val (.int p4), .val (.int p5), .val (.int (1 : Int32)), .val (.int (1 : Int32)), .unset, .unset, .unset, .unset, .unset, .unset, .unset, .unset, .unset, .unset, .unset, .unset, .unset, .unset] [(.int (0 : Int32))]))
    refine own_Goes.st ?_ (fun _ k => XS.istore X0.here hx rfl (hb hby at_32) rfl (l' := #[.val (.long p0), .second, .val (.int p1), .val (.int p2), .val (.int p3), .val (.int p4), .val (.int p5), .val (.int (1 : Int32)), .val (.int (1 : Int32)), .val (.int (0 : Int32)), .unset, .unset, .unset, .unset, .unset, .unset, .unset, .unset, .unset, .unset, .unset, .unset, .unset]) rfl k)
    refine own_Goes.st ?_ (fun _ k => XS.iload X0.here hx rfl (hb hby at_34) rfl k)
    refine own_Goes.st ?_ (fun _ k => XS.iconst X0.here hx rfl (hb hby at_36) k)
    refine own_Goes.st ?_ (fun _ k => XS.iand X0.here hx rfl (hb hby at_37) rfl k)
    refine own_Goes.st ?_ (fun _ k => XS.ifYes X0.here hx rfl (pc0 := 38) (pc' := 45) rfl (hb hby at_38) rfl ((if0 _ _).trans (teq (by decide : (0 : Int32) = (0 : Int32))).1) (by decide) (by decide) k)
    refine own_Goes.st ?_ (fun _ k => XS.iconst X0.here hx rfl (hb hby at_45) k)
    show own_Goes p.tables e below P (s₁.setTop (mkF m 46 #[.val (.long p0), .second, .val (.int p1), .val (.int p2), .val (.int p3), .val (.int p4), .val (.int p5), .val (.int (1 : Int32)), .val (.int (1 : Int32)), .val (.int (0 : Int32)), .unset, .unset, .unset, .unset, .unset, .unset, .unset, .unset, .unset, .unset, .unset, .unset, .unset] [(.int (0 : Int32))]))
    refine own_Goes.st ?_ (fun _ k => XS.istore X0.here hx rfl (hb hby at_46) rfl (l' := #[.val (.long p0), .second, .val (.int p1), .val (.int p2), .val (.int p3), .val (.int p4), .val (.int p5), .val (.int (1 : Int32)), .val (.int (1 : Int32)), .val (.int (0 : Int32)), .val (.int (0 : Int32)), .unset, .unset, .unset, .unset, .unset, .unset, .unset, .unset, .unset, .unset, .unset, .unset]) rfl k)
    refine own_Goes.st ?_ (fun _ k => XS.iload X0.here hx rfl (hb hby at_48) rfl k)
    refine own_Goes.st ?_ (fun _ k => XS.bipush X0.here hx rfl (hb hby at_50) k)
    refine own_Goes.st ?_ (fun _ k => XS.iand X0.here hx rfl (hb hby at_52) rfl k)
    refine own_Goes.st ?_ (fun _ k => XS.ifYes X0.here hx rfl (pc0 := 53) (pc' := 60) rfl (hb hby at_53) rfl ((if0 _ _).trans (teq (by decide : (0 : Int32) = (0 : Int32))).1) (by decide) (by decide) k)
    refine own_Goes.st ?_ (fun _ k => XS.iconst X0.here hx rfl (hb hby at_60) k)
    show own_Goes p.tables e below P (s₁.setTop (mkF m 61 #[.val (.long p0), .second, .val (.int p1), .val (.int p2), .val (.int p3), .val (.int p4), .val (.int p5), .val (.int (1 : Int32)), .val (.int (1 : Int32)), .val (.int (0 : Int32)), .val (.int (0 : Int32)), .unset, .unset, .unset, .unset, .unset, .unset, .unset, .unset, .unset, .unset, .unset, .unset] [(.int (0 : Int32))]))
    refine own_Goes.st ?_ (fun _ k => XS.istore X0.here hx rfl (hb hby at_61) rfl (l' := #[.val (.long p0), .second, .val (.int p1), .val (.int p2), .val (.int p3), .val (.int p4), .val (.int p5), .val (.int (1 : Int32)), .val (.int (1 : Int32)), .val (.int (0 : Int32)), .val (.int (0 : Int32)), .val (.int (0 : Int32)), .unset, .unset, .unset, .unset, .unset, .unset, .unset, .unset, .unset, .unset, .unset]) rfl k)
    refine own_Goes.st ?_ (fun _ k => XS.iload X0.here hx rfl (hb hby at_63) rfl k)
    refine own_Goes.st ?_ (fun _ k => XS.iconst X0.here hx rfl (hb hby at_65) k)
    refine own_Goes.st ?_ (fun _ k => XS.iand X0.here hx rfl (hb hby at_66) rfl k)
    refine own_Goes.st ?_ (fun _ k => XS.iload X0.here hx rfl (hb hby at_67) rfl k)
    refine own_Goes.st ?_ (fun _ k => XS.iconst X0.here hx rfl (hb hby at_69) k)
    show own_Goes p.tables e below P (s₁.setTop (mkF m 70 #[.val (.long p0), .second, .val (.int p1), .val (.int p2), .val (.int p3), .val (.int p4), .val (.int p5), .val (.int (1 : Int32)), .val (.int (1 : Int32)), .val (.int (0 : Int32)), .val (.int (0 : Int32)), .val (.int (0 : Int32)), .unset, .unset, .unset, .unset, .unset, .unset, .unset, .unset, .unset, .unset, .unset] [(.int (1 : Int32)), (.int (1 : Int32)), (.int (1 : Int32))]))
    refine own_Goes.st ?_ (fun _ k => XS.ishr X0.here hx rfl (hb hby at_70) rfl k)
    refine own_Goes.st ?_ (fun _ k => XS.iconst X0.here hx rfl (hb hby at_71) k)
    refine own_Goes.st ?_ (fun _ k => XS.iand X0.here hx rfl (hb hby at_72) rfl k)
    refine own_Goes.st ?_ (fun _ k => XS.iadd X0.here hx rfl (hb hby at_73) rfl k)
    refine own_Goes.st ?_ (fun _ k => XS.iload X0.here hx rfl (hb hby at_74) rfl k)
    refine own_Goes.st ?_ (fun _ k => XS.iconst X0.here hx rfl (hb hby at_76) k)
    show own_Goes p.tables e below P (s₁.setTop (mkF m 77 #[.val (.long p0), .second, .val (.int p1), .val (.int p2), .val (.int p3), .val (.int p4), .val (.int p5), .val (.int (1 : Int32)), .val (.int (1 : Int32)), .val (.int (0 : Int32)), .val (.int (0 : Int32)), .val (.int (0 : Int32)), .unset, .unset, .unset, .unset, .unset, .unset, .unset, .unset, .unset, .unset, .unset] [(.int (2 : Int32)), (.int (1 : Int32)), (.int (1 : Int32))]))
    refine own_Goes.st ?_ (fun _ k => XS.ishr X0.here hx rfl (hb hby at_77) rfl k)
    refine own_Goes.st ?_ (fun _ k => XS.iconst X0.here hx rfl (hb hby at_78) k)
    refine own_Goes.st ?_ (fun _ k => XS.iand X0.here hx rfl (hb hby at_79) rfl k)
    refine own_Goes.st ?_ (fun _ k => XS.iadd X0.here hx rfl (hb hby at_80) rfl k)
    refine own_Goes.st ?_ (fun _ k => XS.iload X0.here hx rfl (hb hby at_81) rfl k)
    refine own_Goes.st ?_ (fun _ k => XS.iconst X0.here hx rfl (hb hby at_83) k)
    show own_Goes p.tables e below P (s₁.setTop (mkF m 84 #[.val (.long p0), .second, .val (.int p1), .val (.int p2), .val (.int p3), .val (.int p4), .val (.int p5), .val (.int (1 : Int32)), .val (.int (1 : Int32)), .val (.int (0 : Int32)), .val (.int (0 : Int32)), .val (.int (0 : Int32)), .unset, .unset, .unset, .unset, .unset, .unset, .unset, .unset, .unset, .unset, .unset] [(.int (3 : Int32)), (.int (1 : Int32)), (.int (1 : Int32))]))
    refine own_Goes.st ?_ (fun _ k => XS.ishr X0.here hx rfl (hb hby at_84) rfl k)
    refine own_Goes.st ?_ (fun _ k => XS.iconst X0.here hx rfl (hb hby at_85) k)
    refine own_Goes.st ?_ (fun _ k => XS.iand X0.here hx rfl (hb hby at_86) rfl k)
    refine own_Goes.st ?_ (fun _ k => XS.iadd X0.here hx rfl (hb hby at_87) rfl k)
    refine own_Goes.st ?_ (fun _ k => XS.istore X0.here hx rfl (hb hby at_88) rfl (l' := #[.val (.long p0), .second, .val (.int p1), .val (.int p2), .val (.int p3), .val (.int p4), .val (.int p5), .val (.int (1 : Int32)), .val (.int (1 : Int32)), .val (.int (0 : Int32)), .val (.int (0 : Int32)), .val (.int (0 : Int32)), .val (.int (1 : Int32)), .unset, .unset, .unset, .unset, .unset, .unset, .unset, .unset, .unset, .unset]) rfl k)
    refine own_Goes.st ?_ (fun _ k => XS.iload X0.here hx rfl (hb hby at_90) rfl k)
    show own_Goes p.tables e below P (s₁.setTop (mkF m 92 #[.val (.long p0), .second, .val (.int p1), .val (.int p2), .val (.int p3), .val (.int p4), .val (.int p5), .val (.int (1 : Int32)), .val (.int (1 : Int32)), .val (.int (0 : Int32)), .val (.int (0 : Int32)), .val (.int (0 : Int32)), .val (.int (1 : Int32)), .unset, .unset, .unset, .unset, .unset, .unset, .unset, .unset, .unset, .unset] [(.int (1 : Int32))]))
    obtain ⟨T214, h214, k214, X214, e214, E214, A214, J214, st214⟩ := newPE X0 hx hZ (hw _ (List.mem_of_getElem? (i := 0) rfl)) e0 (g := (mkF m 92 #[.val (.long p0), .second, .val (.int p1), .val (.int p2), .val (.int p3), .val (.int p4), .val (.int p5), .val (.int (1 : Int32)), .val (.int (1 : Int32)), .val (.int (0 : Int32)), .val (.int (0 : Int32)), .val (.int (0 : Int32)), .val (.int (1 : Int32)), .unset, .unset, .unset, .unset, .unset, .unset, .unset, .unset, .unset, .unset] [(.int (1 : Int32))])) rfl (hb hby at_92) rfl (by decide) (cap := 4) (by decide) (by decide) (by decide) (by decide) (ad := "[I") rfl
    obtain ⟨b214, g214⟩ : ∃ z, z = h0.size := ⟨_, rfl⟩
    rw [← g214] at A214 J214 st214
    have ge_b214 : n0 ≤ b214 := Nat.le_trans Z0 (Nat.le_of_eq g214.symm)
    refine own_Goes.st ?_ st214
    have Z215 : n0 ≤ h214.size := Nat.le_trans Z0 E214.1
    have V216 : Arv Z h214 b214 k214 .int (1 : Int32) [(.int (0 : Int32))] (.int 0) := (Arv.new A214 (by decide)).pad (pad_rep [] _ 1)
    show own_Goes p.tables e below P (T214.setTop (mkF m 94 #[.val (.long p0), .second, .val (.int p1), .val (.int p2), .val (.int p3), .val (.int p4), .val (.int p5), .val (.int (1 : Int32)), .val (.int (1 : Int32)), .val (.int (0 : Int32)), .val (.int (0 : Int32)), .val (.int (0 : Int32)), .val (.int (1 : Int32)), .unset, .unset, .unset, .unset, .unset, .unset, .unset, .unset, .unset, .unset] [(.ref b214)]))
    refine own_Goes.st ?_ (fun _ k => XS.astore X214.here hx rfl (hb hby at_94) rfl rfl (l' := #[.val (.long p0), .second, .val (.int p1), .val (.int p2), .val (.int p3), .val (.int p4), .val (.int p5), .val (.int (1 : Int32)), .val (.int (1 : Int32)), .val (.int (0 : Int32)), .val (.int (0 : Int32)), .val (.int (0 : Int32)), .val (.int (1 : Int32)), .val (.ref b214), .unset, .unset, .unset, .unset, .unset, .unset, .unset, .unset, .unset]) rfl k)
    refine own_Goes.st ?_ (fun _ k => XS.iconst X214.here hx rfl (hb hby at_96) k)
    refine own_Goes.st ?_ (fun _ k => XS.istore X214.here hx rfl (hb hby at_97) rfl (l' := #[.val (.long p0), .second, .val (.int p1), .val (.int p2), .val (.int p3), .val (.int p4), .val (.int p5), .val (.int (1 : Int32)), .val (.int (1 : Int32)), .val (.int (0 : Int32)), .val (.int (0 : Int32)), .val (.int (0 : Int32)), .val (.int (1 : Int32)), .val (.ref b214), .val (.int (0 : Int32)), .unset, .unset, .unset, .unset, .unset, .unset, .unset, .unset]) rfl k)
    refine own_Goes.st ?_ (fun _ k => XS.iload X214.here hx rfl (hb hby at_99) rfl k)
    refine own_Goes.st ?_ (fun _ k => XS.ifNo X214.here hx rfl (hb hby at_101) rfl ((if0 _ _).trans (feq (by decide : ¬ ((1 : Int32) = (0 : Int32)))).1) k)
    refine own_Goes.st ?_ (fun _ k => XS.aload X214.here hx rfl (hb hby at_104) rfl rfl k)
    show own_Goes p.tables e below P (T214.setTop (mkF m 106 #[.val (.long p0), .second, .val (.int p1), .val (.int p2), .val (.int p3), .val (.int p4), .val (.int p5), .val (.int (1 : Int32)), .val (.int (1 : Int32)), .val (.int (0 : Int32)), .val (.int (0 : Int32)), .val (.int (0 : Int32)), .val (.int (1 : Int32)), .val (.ref b214), .val (.int (0 : Int32)), .unset, .unset, .unset, .unset, .unset, .unset, .unset, .unset] [(.ref b214)]))
    refine own_Goes.st ?_ (fun _ k => XS.iload X214.here hx rfl (hb hby at_106) rfl k)
    refine own_Goes.st ?_ (fun _ k => XS.iconst X214.here hx rfl (hb hby at_108) k)
    have Vc217 := V216
    obtain ⟨cl217, Ar217, qc217, S217, Nn217, Hs217, Gs217⟩ := Vc217
    have hin218 : ¬ ((0 : Int32) < 0 ∨ cl217.slots.size ≤ ((0 : Int32)).toNatClampNeg) := inb_of S217 ⟨by decide, by decide⟩
    obtain ⟨T218, h218, X218, e218, W218, st218⟩ := stI X214 hx hZ e214 Ar217 (j := (0 : Int32)) hin218 (g := (mkF m 109 #[.val (.long p0), .second, .val (.int p1), .val (.int p2), .val (.int p3), .val (.int p4), .val (.int p5), .val (.int (1 : Int32)), .val (.int (1 : Int32)), .val (.int (0 : Int32)), .val (.int (0 : Int32)), .val (.int (0 : Int32)), .val (.int (1 : Int32)), .val (.ref b214), .val (.int (0 : Int32)), .unset, .unset, .unset, .unset, .unset, .unset, .unset, .unset] [(.int (0 : Int32)), (.int (0 : Int32)), (.ref b214)])) rfl rfl (hb hby at_109)
    refine own_Goes.st ?_ st218
    have V219 : Arv Z h218 b214 k214 .int (1 : Int32) [(.int (0 : Int32))] (.int 0) := Arv.set Ar217 qc217 S217 Nn217 Hs217 Gs217 rfl W218 0 rfl (Nat.le_of_ble_eq_true rfl)
    have Z220 : n0 ≤ h218.size := by rw [W218.size]; exact Z215
    have N221 := Fr.snoc X218 N0 ge_b214
    show own_Goes p.tables e below P (T218.setTop (mkF m 110 #[.val (.long p0), .second, .val (.int p1), .val (.int p2), .val (.int p3), .val (.int p4), .val (.int p5), .val (.int (1 : Int32)), .val (.int (1 : Int32)), .val (.int (0 : Int32)), .val (.int (0 : Int32)), .val (.int (0 : Int32)), .val (.int (1 : Int32)), .val (.ref b214), .val (.int (0 : Int32)), .unset, .unset, .unset, .unset, .unset, .unset, .unset, .unset] []))
    refine own_Goes.st ?_ (fun _ k => XS.iinc X218.here hx rfl (hb hby at_110) rfl (l' := #[.val (.long p0), .second, .val (.int p1), .val (.int p2), .val (.int p3), .val (.int p4), .val (.int p5), .val (.int (1 : Int32)), .val (.int (1 : Int32)), .val (.int (0 : Int32)), .val (.int (0 : Int32)), .val (.int (0 : Int32)), .val (.int (1 : Int32)), .val (.ref b214), .val (.int (1 : Int32)), .unset, .unset, .unset, .unset, .unset, .unset, .unset, .unset]) rfl k)
    refine own_Goes.st ?_ (fun _ k => XS.iload X218.here hx rfl (hb hby at_113) rfl k)
    refine own_Goes.st ?_ (fun _ k => XS.ifYes X218.here hx rfl (pc0 := 115) (pc' := 127) rfl (hb hby at_115) rfl ((if0 _ _).trans (teq (by decide : (0 : Int32) = (0 : Int32))).1) (by decide) (by decide) k)
    refine own_Goes.st ?_ (fun _ k => XS.iload X218.here hx rfl (hb hby at_127) rfl k)
    refine own_Goes.st ?_ (fun _ k => XS.ifYes X218.here hx rfl (pc0 := 129) (pc' := 141) rfl (hb hby at_129) rfl ((if0 _ _).trans (teq (by decide : (0 : Int32) = (0 : Int32))).1) (by decide) (by decide) k)
    refine own_Goes.st ?_ (fun _ k => XS.iload X218.here hx rfl (hb hby at_141) rfl k)
    show own_Goes p.tables e below P (T218.setTop (mkF m 143 #[.val (.long p0), .second, .val (.int p1), .val (.int p2), .val (.int p3), .val (.int p4), .val (.int p5), .val (.int (1 : Int32)), .val (.int (1 : Int32)), .val (.int (0 : Int32)), .val (.int (0 : Int32)), .val (.int (0 : Int32)), .val (.int (1 : Int32)), .val (.ref b214), .val (.int (1 : Int32)), .unset, .unset, .unset, .unset, .unset, .unset, .unset, .unset] [(.int (0 : Int32))]))
    refine own_Goes.st ?_ (fun _ k => XS.ifYes X218.here hx rfl (pc0 := 143) (pc' := 155) rfl (hb hby at_143) rfl ((if0 _ _).trans (teq (by decide : (0 : Int32) = (0 : Int32))).1) (by decide) (by decide) k)
    refine own_Goes.st ?_ (fun _ k => XS.iload X218.here hx rfl (hb hby at_155) rfl k)
    refine own_Goes.st ?_ (fun _ k => XS.ifYes X218.here hx rfl (pc0 := 157) (pc' := 164) rfl (hb hby at_157) rfl ((if0 _ _).trans (feq (by decide : ¬ ((1 : Int32) = (0 : Int32)))).2) (by decide) (by decide) k)
    refine own_Goes.st ?_ (fun _ k => XS.lloadN X218.here hx rfl (hb hby at_164) rfl k)
    refine own_Goes.st ?_ (fun _ k => XS.bipush X218.here hx rfl (hb hby at_165) k)
    refine own_Goes.st ?_ (fun _ k => XS.lshr X218.here hx rfl (hb hby at_167) rfl k)
    show own_Goes p.tables e below P (T218.setTop (mkF m 168 #[.val (.long p0), .second, .val (.int p1), .val (.int p2), .val (.int p3), .val (.int p4), .val (.int p5), .val (.int (1 : Int32)), .val (.int (1 : Int32)), .val (.int (0 : Int32)), .val (.int (0 : Int32)), .val (.int (0 : Int32)), .val (.int (1 : Int32)), .val (.ref b214), .val (.int (1 : Int32)), .unset, .unset, .unset, .unset, .unset, .unset, .unset, .unset] [(.long (p0 >>> ((14 : Int32) &&& 0x3f).toInt64))]))
    refine own_Goes.st ?_ (fun _ k => XS.lstore X218.here hx rfl (hb hby at_168) rfl (l' := #[.val (.long p0), .second, .val (.int p1), .val (.int p2), .val (.int p3), .val (.int p4), .val (.int p5), .val (.int (1 : Int32)), .val (.int (1 : Int32)), .val (.int (0 : Int32)), .val (.int (0 : Int32)), .val (.int (0 : Int32)), .val (.int (1 : Int32)), .val (.ref b214), .val (.int (1 : Int32)), .val (.long (p0 >>> ((14 : Int32) &&& 0x3f).toInt64)), .second, .unset, .unset, .unset, .unset, .unset, .unset]) rfl k)
    exact T1n _ _ X218 _ e218 N221 Z220 b214 k214 _ _ _ _ _ _ _ V219 (own_sh14 p0) (by decide) rfl
  · skip
    show own_Goes p.tables e below P (s₁.setTop (mkF m 6 #[.val (.long p0), .second, .val (.int p1), .val (.int p2), .val (.int p3), .val (.int p4), .val (.int p5), .val (.int (2 : Int32)), .unset, .unset, .unset, .unset, .unset, .unset, .unset, .unset, .unset, .unset, .unset, .unset, .unset, .unset, .unset] []))
    refine own_Goes.st ?_ (fun _ k => XS.iload X0.here hx rfl (hb hby at_6) rfl k)
    refine own_Goes.st ?_ (fun _ k => XS.iconst X0.here hx rfl (hb hby at_8) k)
    refine own_Goes.st ?_ (fun _ k => XS.iand X0.here hx rfl (hb hby at_9) rfl k)
    refine own_Goes.st ?_ (fun _ k => XS.ifYes X0.here hx rfl (pc0 := 10) (pc' := 17) rfl (hb hby at_10) rfl ((if0 _ _).trans (teq (by decide : (0 : Int32) = (0 : Int32))).1) (by decide) (by decide) k)
    refine own_Goes.st ?_ (fun _ k => XS.iconst X0.here hx rfl (hb hby at_17) k)
    refine own_Goes.st ?_ (fun _ k => XS.istore X0.here hx rfl (hb hby at_18) rfl (l' := #[.val (.long p0), .second, .val (.int p1), .val (.int p2), .val (.int p3), .val (.int p4), .val (.int p5), .val (.int (2 : Int32)), .val (.int (0 : Int32)), .unset, .unset, .unset, .unset, .unset, .unset, .unset, .unset, .unset, .unset, .unset, .unset, .unset, .unset]) rfl k)
    show own_Goes p.tables e below P (s₁.setTop (mkF m 20 #[.val (.long p0), .second, .val (.int p1), .val (.int p2), .val (.int p3), .val (.int p4), .val (.int p5), .val (.int (2 : Int32)), .val (.int (0 : Int32)), .unset, .unset, .unset, .unset, .unset, .unset, .unset, .unset, .unset, .unset, .unset, .unset, .unset, .unset] []))
    refine own_Goes.st ?_ (fun _ k => XS.iload X0.here hx rfl (hb hby at_20) rfl k)
    refine own_Goes.st ?_ (fun _ k => XS.iconst X0.here hx rfl (hb hby at_22) k)
    refine own_Goes.st ?_ (fun _ k => XS.iand X0.here hx rfl (hb hby at_23) rfl k)
    refine own_Goes.st ?_ (fun _ k => XS.ifNo X0.here hx rfl (hb hby at_24) rfl ((if0 _ _).trans (feq (by decide : ¬ ((2 : Int32) = (0 : Int32)))).1) k)
    refine own_Goes.st ?_ (fun _ k => XS.iconst X0.here hx rfl (hb hby at_27) k)
    refine own_Goes.st ?_ (fun _ k => XS.goto X0.here hx rfl (pc0 := 28) (pc' := 32) rfl (hb hby at_28) (by decide) (by decide) k)
    show own_Goes p.tables e below P (s₁.setTop (mkF m 32 #[.val (.long p0), .second, .val (.int p1), .val (.int p2), .val (.int p3), .val (.int p4), .val (.int p5), .val (.int (2 : Int32)), .val (.int (0 : Int32)), .unset, .unset, .unset, .unset, .unset, .unset, .unset, .unset, .unset, .unset, .unset, .unset, .unset, .unset] [(.int (1 : Int32))]))
    refine own_Goes.st ?_ (fun _ k => XS.istore X0.here hx rfl (hb hby at_32) rfl (l' := #[.val (.long p0), .second, .val (.int p1), .val (.int p2), .val (.int p3), .val (.int p4), .val (.int p5), .val (.int (2 : Int32)), .val (.int (0 : Int32)), .val (.int (1 : Int32)), .unset, .unset, .unset, .unset, .unset, .unset, .unset, .unset, .unset, .unset, .unset, .unset, .unset]) rfl k)
    refine own_Goes.st ?_ (fun _ k => XS.iload X0.here hx rfl (hb hby at_34) rfl k)
    refine own_Goes.st ?_ (fun _ k => XS.iconst X0.here hx rfl (hb hby at_36) k)
    refine own_Goes.st ?_ (fun _ k => XS.iand X0.here hx rfl (hb hby at_37) rfl k)
    refine own_Goes.st ?_ (fun _ k => XS.ifYes X0.here hx rfl (pc0 := 38) (pc' := 45) rfl (hb hby at_38) rfl ((if0 _ _).trans (teq (by decide : (0 : Int32) = (0 : Int32))).1) (by decide) (by decide) k)
    refine own_Goes.st ?_ (fun _ k => XS.iconst X0.here hx rfl (hb hby at_45) k)
    show own_Goes p.tables e below P (s₁.setTop (mkF m 46 #[.val (.long p0), .second, .val (.int p1), .val (.int p2), .val (.int p3), .val (.int p4), .val (.int p5), .val (.int (2 : Int32)), .val (.int (0 : Int32)), .val (.int (1 : Int32)), .unset, .unset, .unset, .unset, .unset, .unset, .unset, .unset, .unset, .unset, .unset, .unset, .unset] [(.int (0 : Int32))]))
    refine own_Goes.st ?_ (fun _ k => XS.istore X0.here hx rfl (hb hby at_46) rfl (l' := #[.val (.long p0), .second, .val (.int p1), .val (.int p2), .val (.int p3), .val (.int p4), .val (.int p5), .val (.int (2 : Int32)), .val (.int (0 : Int32)), .val (.int (1 : Int32)), .val (.int (0 : Int32)), .unset, .unset, .unset, .unset, .unset, .unset, .unset, .unset, .unset, .unset, .unset, .unset]) rfl k)
    refine own_Goes.st ?_ (fun _ k => XS.iload X0.here hx rfl (hb hby at_48) rfl k)
    refine own_Goes.st ?_ (fun _ k => XS.bipush X0.here hx rfl (hb hby at_50) k)
    refine own_Goes.st ?_ (fun _ k => XS.iand X0.here hx rfl (hb hby at_52) rfl k)
    refine own_Goes.st ?_ (fun _ k => XS.ifYes X0.here hx rfl (pc0 := 53) (pc' := 60) rfl (hb hby at_53) rfl ((if0 _ _).trans (teq (by decide : (0 : Int32) = (0 : Int32))).1) (by decide) (by decide) k)
    refine own_Goes.st ?_ (fun _ k => XS.iconst X0.here hx rfl (hb hby at_60) k)
    show own_Goes p.tables e below P (s₁.setTop (mkF m 61 #[.val (.long p0), .second, .val (.int p1), .val (.int p2), .val (.int p3), .val (.int p4), .val (.int p5), .val (.int (2 : Int32)), .val (.int (0 : Int32)), .val (.int (1 : Int32)), .val (.int (0 : Int32)), .unset, .unset, .unset, .unset, .unset, .unset, .unset, .unset, .unset, .unset, .unset, .unset] [(.int (0 : Int32))]))
    refine own_Goes.st ?_ (fun _ k => XS.istore X0.here hx rfl (hb hby at_61) rfl (l' := #[.val (.long p0), .second, .val (.int p1), .val (.int p2), .val (.int p3), .val (.int p4), .val (.int p5), .val (.int (2 : Int32)), .val (.int (0 : Int32)), .val (.int (1 : Int32)), .val (.int (0 : Int32)), .val (.int (0 : Int32)), .unset, .unset, .unset, .unset, .unset, .unset, .unset, .unset, .unset, .unset, .unset]) rfl k)
    refine own_Goes.st ?_ (fun _ k => XS.iload X0.here hx rfl (hb hby at_63) rfl k)
    refine own_Goes.st ?_ (fun _ k => XS.iconst X0.here hx rfl (hb hby at_65) k)
    refine own_Goes.st ?_ (fun _ k => XS.iand X0.here hx rfl (hb hby at_66) rfl k)
    refine own_Goes.st ?_ (fun _ k => XS.iload X0.here hx rfl (hb hby at_67) rfl k)
    refine own_Goes.st ?_ (fun _ k => XS.iconst X0.here hx rfl (hb hby at_69) k)
    show own_Goes p.tables e below P (s₁.setTop (mkF m 70 #[.val (.long p0), .second, .val (.int p1), .val (.int p2), .val (.int p3), .val (.int p4), .val (.int p5), .val (.int (2 : Int32)), .val (.int (0 : Int32)), .val (.int (1 : Int32)), .val (.int (0 : Int32)), .val (.int (0 : Int32)), .unset, .unset, .unset, .unset, .unset, .unset, .unset, .unset, .unset, .unset, .unset] [(.int (1 : Int32)), (.int (2 : Int32)), (.int (0 : Int32))]))
    refine own_Goes.st ?_ (fun _ k => XS.ishr X0.here hx rfl (hb hby at_70) rfl k)
    refine own_Goes.st ?_ (fun _ k => XS.iconst X0.here hx rfl (hb hby at_71) k)
    refine own_Goes.st ?_ (fun _ k => XS.iand X0.here hx rfl (hb hby at_72) rfl k)
    refine own_Goes.st ?_ (fun _ k => XS.iadd X0.here hx rfl (hb hby at_73) rfl k)
    refine own_Goes.st ?_ (fun _ k => XS.iload X0.here hx rfl (hb hby at_74) rfl k)
    refine own_Goes.st ?_ (fun _ k => XS.iconst X0.here hx rfl (hb hby at_76) k)
    show own_Goes p.tables e below P (s₁.setTop (mkF m 77 #[.val (.long p0), .second, .val (.int p1), .val (.int p2), .val (.int p3), .val (.int p4), .val (.int p5), .val (.int (2 : Int32)), .val (.int (0 : Int32)), .val (.int (1 : Int32)), .val (.int (0 : Int32)), .val (.int (0 : Int32)), .unset, .unset, .unset, .unset, .unset, .unset, .unset, .unset, .unset, .unset, .unset] [(.int (2 : Int32)), (.int (2 : Int32)), (.int (1 : Int32))]))
    refine own_Goes.st ?_ (fun _ k => XS.ishr X0.here hx rfl (hb hby at_77) rfl k)
    refine own_Goes.st ?_ (fun _ k => XS.iconst X0.here hx rfl (hb hby at_78) k)
    refine own_Goes.st ?_ (fun _ k => XS.iand X0.here hx rfl (hb hby at_79) rfl k)
    refine own_Goes.st ?_ (fun _ k => XS.iadd X0.here hx rfl (hb hby at_80) rfl k)
    refine own_Goes.st ?_ (fun _ k => XS.iload X0.here hx rfl (hb hby at_81) rfl k)
    refine own_Goes.st ?_ (fun _ k => XS.iconst X0.here hx rfl (hb hby at_83) k)
    show own_Goes p.tables e below P (s₁.setTop (mkF m 84 #[.val (.long p0), .second, .val (.int p1), .val (.int p2), .val (.int p3), .val (.int p4), .val (.int p5), .val (.int (2 : Int32)), .val (.int (0 : Int32)), .val (.int (1 : Int32)), .val (.int (0 : Int32)), .val (.int (0 : Int32)), .unset, .unset, .unset, .unset, .unset, .unset, .unset, .unset, .unset, .unset, .unset] [(.int (3 : Int32)), (.int (2 : Int32)), (.int (1 : Int32))]))
    refine own_Goes.st ?_ (fun _ k => XS.ishr X0.here hx rfl (hb hby at_84) rfl k)
    refine own_Goes.st ?_ (fun _ k => XS.iconst X0.here hx rfl (hb hby at_85) k)
    refine own_Goes.st ?_ (fun _ k => XS.iand X0.here hx rfl (hb hby at_86) rfl k)
    refine own_Goes.st ?_ (fun _ k => XS.iadd X0.here hx rfl (hb hby at_87) rfl k)
    refine own_Goes.st ?_ (fun _ k => XS.istore X0.here hx rfl (hb hby at_88) rfl (l' := #[.val (.long p0), .second, .val (.int p1), .val (.int p2), .val (.int p3), .val (.int p4), .val (.int p5), .val (.int (2 : Int32)), .val (.int (0 : Int32)), .val (.int (1 : Int32)), .val (.int (0 : Int32)), .val (.int (0 : Int32)), .val (.int (1 : Int32)), .unset, .unset, .unset, .unset, .unset, .unset, .unset, .unset, .unset, .unset]) rfl k)
    refine own_Goes.st ?_ (fun _ k => XS.iload X0.here hx rfl (hb hby at_90) rfl k)
    show own_Goes p.tables e below P (s₁.setTop (mkF m 92 #[.val (.long p0), .second, .val (.int p1), .val (.int p2), .val (.int p3), .val (.int p4), .val (.int p5), .val (.int (2 : Int32)), .val (.int (0 : Int32)), .val (.int (1 : Int32)), .val (.int (0 : Int32)), .val (.int (0 : Int32)), .val (.int (1 : Int32)), .unset, .unset, .unset, .unset, .unset, .unset, .unset, .unset, .unset, .unset] [(.int (1 : Int32))]))
    obtain ⟨T222, h222, k222, X222, e222, E222, A222, J222, st222⟩ := newPE X0 hx hZ (hw _ (List.mem_of_getElem? (i := 0) rfl)) e0 (g := (mkF m 92 #[.val (.long p0), .second, .val (.int p1), .val (.int p2), .val (.int p3), .val (.int p4), .val (.int p5), .val (.int (2 : Int32)), .val (.int (0 : Int32)), .val (.int (1 : Int32)), .val (.int (0 : Int32)), .val (.int (0 : Int32)), .val (.int (1 : Int32)), .unset, .unset, .unset, .unset, .unset, .unset, .unset, .unset, .unset, .unset] [(.int (1 : Int32))])) rfl (hb hby at_92) rfl (by decide) (cap := 4) (by decide) (by decide) (by decide) (by decide) (ad := "[I") rfl
    obtain ⟨b222, g222⟩ : ∃ z, z = h0.size := ⟨_, rfl⟩
    rw [← g222] at A222 J222 st222
    have ge_b222 : n0 ≤ b222 := Nat.le_trans Z0 (Nat.le_of_eq g222.symm)
    refine own_Goes.st ?_ st222
    have Z223 : n0 ≤ h222.size := Nat.le_trans Z0 E222.1
    have V224 : Arv Z h222 b222 k222 .int (1 : Int32) [(.int (0 : Int32))] (.int 0) := (Arv.new A222 (by decide)).pad (pad_rep [] _ 1)
    show own_Goes p.tables e below P (T222.setTop (mkF m 94 #[.val (.long p0), .second, .val (.int p1), .val (.int p2), .val (.int p3), .val (.int p4), .val (.int p5), .val (.int (2 : Int32)), .val (.int (0 : Int32)), .val (.int (1 : Int32)), .val (.int (0 : Int32)), .val (.int (0 : Int32)), .val (.int (1 : Int32)), .unset, .unset, .unset, .unset, .unset, .unset, .unset, .unset, .unset, .unset] [(.ref b222)]))
    refine own_Goes.st ?_ (fun _ k => XS.astore X222.here hx rfl (hb hby at_94) rfl rfl (l' := #[.val (.long p0), .second, .val (.int p1), .val (.int p2), .val (.int p3), .val (.int p4), .val (.int p5), .val (.int (2 : Int32)), .val (.int (0 : Int32)), .val (.int (1 : Int32)), .val (.int (0 : Int32)), .val (.int (0 : Int32)), .val (.int (1 : Int32)), .val (.ref b222), .unset, .unset, .unset, .unset, .unset, .unset, .unset, .unset, .unset]) rfl k)
    refine own_Goes.st ?_ (fun _ k => XS.iconst X222.here hx rfl (hb hby at_96) k)
    refine own_Goes.st ?_ (fun _ k => XS.istore X222.here hx rfl (hb hby at_97) rfl (l' := #[.val (.long p0), .second, .val (.int p1), .val (.int p2), .val (.int p3), .val (.int p4), .val (.int p5), .val (.int (2 : Int32)), .val (.int (0 : Int32)), .val (.int (1 : Int32)), .val (.int (0 : Int32)), .val (.int (0 : Int32)), .val (.int (1 : Int32)), .val (.ref b222), .val (.int (0 : Int32)), .unset, .unset, .unset, .unset, .unset, .unset, .unset, .unset]) rfl k)
    refine own_Goes.st ?_ (fun _ k => XS.iload X222.here hx rfl (hb hby at_99) rfl k)
    refine own_Goes.st ?_ (fun _ k => XS.ifYes X222.here hx rfl (pc0 := 101) (pc' := 113) rfl (hb hby at_101) rfl ((if0 _ _).trans (teq (by decide : (0 : Int32) = (0 : Int32))).1) (by decide) (by decide) k)
    refine own_Goes.st ?_ (fun _ k => XS.iload X222.here hx rfl (hb hby at_113) rfl k)
    show own_Goes p.tables e below P (T222.setTop (mkF m 115 #[.val (.long p0), .second, .val (.int p1), .val (.int p2), .val (.int p3), .val (.int p4), .val (.int p5), .val (.int (2 : Int32)), .val (.int (0 : Int32)), .val (.int (1 : Int32)), .val (.int (0 : Int32)), .val (.int (0 : Int32)), .val (.int (1 : Int32)), .val (.ref b222), .val (.int (0 : Int32)), .unset, .unset, .unset, .unset, .unset, .unset, .unset, .unset] [(.int (1 : Int32))]))
    refine own_Goes.st ?_ (fun _ k => XS.ifNo X222.here hx rfl (hb hby at_115) rfl ((if0 _ _).trans (feq (by decide : ¬ ((1 : Int32) = (0 : Int32)))).1) k)
    refine own_Goes.st ?_ (fun _ k => XS.aload X222.here hx rfl (hb hby at_118) rfl rfl k)
    refine own_Goes.st ?_ (fun _ k => XS.iload X222.here hx rfl (hb hby at_120) rfl k)
    refine own_Goes.st ?_ (fun _ k => XS.iconst X222.here hx rfl (hb hby at_122) k)
    have Vc225 := V224
    obtain ⟨cl225, Ar225, qc225, S225, Nn225, Hs225, Gs225⟩ := Vc225
    have hin226 : ¬ ((0 : Int32) < 0 ∨ cl225.slots.size ≤ ((0 : Int32)).toNatClampNeg) := inb_of S225 ⟨by decide, by decide⟩
    obtain ⟨T226, h226, X226, e226, W226, st226⟩ := stI X222 hx hZ e222 Ar225 (j := (0 : Int32)) hin226 (g := (mkF m 123 #[.val (.long p0), .second, .val (.int p1), .val (.int p2), .val (.int p3), .val (.int p4), .val (.int p5), .val (.int (2 : Int32)), .val (.int (0 : Int32)), .val (.int (1 : Int32)), .val (.int (0 : Int32)), .val (.int (0 : Int32)), .val (.int (1 : Int32)), .val (.ref b222), .val (.int (0 : Int32)), .unset, .unset, .unset, .unset, .unset, .unset, .unset, .unset] [(.int (1 : Int32)), (.int (0 : Int32)), (.ref b222)])) rfl rfl (hb hby at_123)
    refine own_Goes.st ?_ st226
    have V227 : Arv Z h226 b222 k222 .int (1 : Int32) [(.int (1 : Int32))] (.int 0) := Arv.set Ar225 qc225 S225 Nn225 Hs225 Gs225 rfl W226 0 rfl (Nat.le_of_ble_eq_true rfl)
    have Z228 : n0 ≤ h226.size := by rw [W226.size]; exact Z223
    have N229 := Fr.snoc X226 N0 ge_b222
    show own_Goes p.tables e below P (T226.setTop (mkF m 124 #[.val (.long p0), .second, .val (.int p1), .val (.int p2), .val (.int p3), .val (.int p4), .val (.int p5), .val (.int (2 : Int32)), .val (.int (0 : Int32)), .val (.int (1 : Int32)), .val (.int (0 : Int32)), .val (.int (0 : Int32)), .val (.int (1 : Int32)), .val (.ref b222), .val (.int (0 : Int32)), .unset, .unset, .unset, .unset, .unset, .unset, .unset, .unset] []))
    refine own_Goes.st ?_ (fun _ k => XS.iinc X226.here hx rfl (hb hby at_124) rfl (l' := #[.val (.long p0), .second, .val (.int p1), .val (.int p2), .val (.int p3), .val (.int p4), .val (.int p5), .val (.int (2 : Int32)), .val (.int (0 : Int32)), .val (.int (1 : Int32)), .val (.int (0 : Int32)), .val (.int (0 : Int32)), .val (.int (1 : Int32)), .val (.ref b222), .val (.int (1 : Int32)), .unset, .unset, .unset, .unset, .unset, .unset, .unset, .unset]) rfl k)
    refine own_Goes.st ?_ (fun _ k => XS.iload X226.here hx rfl (hb hby at_127) rfl k)
    refine own_Goes.st ?_ (fun _ k => XS.ifYes X226.here hx rfl (pc0 := 129) (pc' := 141) rfl (hb hby at_129) rfl ((if0 _ _).trans (teq (by decide : (0 : Int32) = (0 : Int32))).1) (by decide) (by decide) k)
    refine own_Goes.st ?_ (fun _ k => XS.iload X226.here hx rfl (hb hby at_141) rfl k)
    refine own_Goes.st ?_ (fun _ k => XS.ifYes X226.here hx rfl (pc0 := 143) (pc' := 155) rfl (hb hby at_143) rfl ((if0 _ _).trans (teq (by decide : (0 : Int32) = (0 : Int32))).1) (by decide) (by decide) k)
    refine own_Goes.st ?_ (fun _ k => XS.iload X226.here hx rfl (hb hby at_155) rfl k)
    show own_Goes p.tables e below P (T226.setTop (mkF m 157 #[.val (.long p0), .second, .val (.int p1), .val (.int p2), .val (.int p3), .val (.int p4), .val (.int p5), .val (.int (2 : Int32)), .val (.int (0 : Int32)), .val (.int (1 : Int32)), .val (.int (0 : Int32)), .val (.int (0 : Int32)), .val (.int (1 : Int32)), .val (.ref b222), .val (.int (1 : Int32)), .unset, .unset, .unset, .unset, .unset, .unset, .unset, .unset] [(.int (2 : Int32))]))
    refine own_Goes.st ?_ (fun _ k => XS.ifYes X226.here hx rfl (pc0 := 157) (pc' := 164) rfl (hb hby at_157) rfl ((if0 _ _).trans (feq (by decide : ¬ ((2 : Int32) = (0 : Int32)))).2) (by decide) (by decide) k)
    refine own_Goes.st ?_ (fun _ k => XS.lloadN X226.here hx rfl (hb hby at_164) rfl k)
    refine own_Goes.st ?_ (fun _ k => XS.bipush X226.here hx rfl (hb hby at_165) k)
    refine own_Goes.st ?_ (fun _ k => XS.lshr X226.here hx rfl (hb hby at_167) rfl k)
    refine own_Goes.st ?_ (fun _ k => XS.lstore X226.here hx rfl (hb hby at_168) rfl (l' := #[.val (.long p0), .second, .val (.int p1), .val (.int p2), .val (.int p3), .val (.int p4), .val (.int p5), .val (.int (2 : Int32)), .val (.int (0 : Int32)), .val (.int (1 : Int32)), .val (.int (0 : Int32)), .val (.int (0 : Int32)), .val (.int (1 : Int32)), .val (.ref b222), .val (.int (1 : Int32)), .val (.long (p0 >>> ((14 : Int32) &&& 0x3f).toInt64)), .second, .unset, .unset, .unset, .unset, .unset, .unset]) rfl k)
    exact T1n _ _ X226 _ e226 N229 Z228 b222 k222 _ _ _ _ _ _ _ V227 (own_sh14 p0) (by decide) rfl
  · skip
    show own_Goes p.tables e below P (s₁.setTop (mkF m 6 #[.val (.long p0), .second, .val (.int p1), .val (.int p2), .val (.int p3), .val (.int p4), .val (.int p5), .val (.int (3 : Int32)), .unset, .unset, .unset, .unset, .unset, .unset, .unset, .unset, .unset, .unset, .unset, .unset, .unset, .unset, .unset] []))
    refine own_Goes.st ?_ (fun _ k => XS.iload X0.here hx rfl (hb hby at_6) rfl k)
    refine own_Goes.st ?_ (fun _ k => XS.iconst X0.here hx rfl (hb hby at_8) k)
    refine own_Goes.st ?_ (fun _ k => XS.iand X0.here hx rfl (hb hby at_9) rfl k)
    refine own_Goes.st ?_ (fun _ k => XS.ifNo X0.here hx rfl (hb hby at_10) rfl ((if0 _ _).trans (feq (by decide : ¬ ((1 : Int32) = (0 : Int32)))).1) k)
    refine own_Goes.st ?_ (fun _ k => XS.iconst X0.here hx rfl (hb hby at_13) k)
    refine own_Goes.st ?_ (fun _ k => XS.goto X0.here hx rfl (pc0 := 14) (pc' := 18) rfl (hb hby at_14) (by decide) (by decide) k)
    show own_Goes p.tables e below P (s₁.setTop (mkF m 18 #[.val (.long p0), .second, .val (.int p1), .val (.int p2), .val (.int p3), .val (.int p4), .val (.int p5), .val (.int (3 : Int32)), .unset, .unset, .unset, .unset, .unset, .unset, .unset, .unset, .unset, .unset, .unset, .unset, .unset, .unset, .unset] [(.int (1 : Int32))]))
    refine own_Goes.st ?_ (fun _ k => XS.istore X0.here hx rfl (hb hby at_18) rfl (l' := #[.val (.long p0), .second, .val (.int p1), .val (.int p2), .val (.int p3), .val (.int p4), .val (.int p5), .val (.int (3 : Int32)), .val (.int (1 : Int32)), .unset, .unset, .unset, .unset, .unset, .unset, .unset, .unset, .unset, .unset, .unset, .unset, .unset, .unset]) rfl k)
    refine own_Goes.st ?_ (fun _ k => XS.iload X0.here hx rfl (hb hby at_20) rfl k)
    refine own_Goes.st ?_ (fun _ k => XS.iconst X0.here hx rfl (hb hby at_22) k)
    refine own_Goes.st ?_ (fun _ k => XS.iand X0.here hx rfl (hb hby at_23) rfl k)
    refine own_Goes.st ?_ (fun _ k => XS.ifNo X0.here hx rfl (hb hby at_24) rfl ((if0 _ _).trans (feq (by decide : ¬ ((2 : Int32) = (0 : Int32)))).1) k)
    refine own_Goes.st ?_ (fun _ k => XS.iconst X0.here hx rfl (hb hby at_27) k)
    show own_Goes p.tables e below P (s₁.setTop (mkF m 28 #[.val (.long p0), .second, .val (.int p1), .val (.int p2), .val (.int p3), .val (.int p4), .val (.int p5), .val (.int (3 : Int32)), .val (.int (1 : Int32)), .unset, .unset, .unset, .unset, .unset, .unset, .unset, .unset, .unset, .unset, .unset, .unset, .unset, .unset] [(.int (1 : Int32))]))
    refine own_Goes.st ?_ (fun _ k => XS.goto X0.here hx rfl (pc0 := 28) (pc' := 32) rfl (hb hby at_28) (by decide) (by decide) k)
    refine own_Goes.st ?_ (fun _ k => XS.istore X0.here hx rfl (hb hby at_32) rfl (l' := #[.val (.long p0), .second, .val (.int p1), .val (.int p2), .val (.int p3), .val (.int p4), .val (.int p5), .val (.int (3 : Int32)), .val (.int (1 : Int32)), .val (.int (1 : Int32)), .unset, .unset, .unset, .unset, .unset, .unset, .unset, .unset, .unset, .unset, .unset, .unset, .unset]) rfl k)
    refine own_Goes.st ?_ (fun _ k => XS.iload X0.here hx rfl (hb hby at_34) rfl k)
    refine own_Goes.st ?_ (fun _ k => XS.iconst X0.here hx rfl (hb hby at_36) k)
    refine own_Goes.st ?_ (fun _ k => XS.iand X0.here hx rfl (hb hby at_37) rfl k)
    refine own_Goes.st ?_ (fun _ k => XS.ifYes X0.here hx rfl (pc0 := 38) (pc' := 45) rfl (hb hby at_38) rfl ((if0 _ _).trans (teq (by decide : (0 : Int32) = (0 : Int32))).1) (by decide) (by decide) k)
    show own_Goes p.tables e below P (s₁.setTop (mkF m 45 #[.val (.long p0), .second, .val (.int p1), .val (.int p2), .val (.int p3), .val (.int p4), .val (.int p5), .val (.int (3 : Int32)), .val (.int (1 : Int32)), .val (.int (1 : Int32)), .unset, .unset, .unset, .unset, .unset, .unset, .unset, .unset, .unset, .unset, .unset, .unset, .unset] []))
    refine own_Goes.st ?_ (fun _ k => XS.iconst X0.here hx rfl (hb hby at_45) k)
    refine own_Goes.st ?_ (fun _ k => XS.istore X0.here hx rfl (hb hby at_46) rfl (l' := #[.val (.long p0), .second, .val (.int p1), .val (.int p2), .val (.int p3), .val (.int p4), .val (.int p5), .val (.int (3 : Int32)), .val (.int (1 : Int32)), .val (.int (1 : Int32)), .val (.int (0 : Int32)), .unset, .unset, .unset, .unset, .unset, .unset, .unset, .unset, .unset, .unset, .unset, .unset]) rfl k)
    refine own_Goes.st ?_ (fun _ k => XS.iload X0.here hx rfl (hb hby at_48) rfl k)
    refine own_Goes.st ?_ (fun _ k => XS.bipush X0.here hx rfl (hb hby at_50) k)
    refine own_Goes.st ?_ (fun _ k => XS.iand X0.here hx rfl (hb hby at_52) rfl k)
    refine own_Goes.st ?_ (fun _ k => XS.ifYes X0.here hx rfl (pc0 := 53) (pc' := 60) rfl (hb hby at_53) rfl ((if0 _ _).trans (teq (by decide : (0 : Int32) = (0 : Int32))).1) (by decide) (by decide) k)
    show own_Goes p.tables e below P (s₁.setTop (mkF m 60 #[.val (.long p0), .second, .val (.int p1), .val (.int p2), .val (.int p3), .val (.int p4), .val (.int p5), .val (.int (3 : Int32)), .val (.int (1 : Int32)), .val (.int (1 : Int32)), .val (.int (0 : Int32)), .unset, .unset, .unset, .unset, .unset, .unset, .unset, .unset, .unset, .unset, .unset, .unset] []))
    refine own_Goes.st ?_ (fun _ k => XS.iconst X0.here hx rfl (hb hby at_60) k)
    refine own_Goes.st ?_ (fun _ k => XS.istore X0.here hx rfl (hb hby at_61) rfl (l' := #[.val (.long p0), .second, .val (.int p1), .val (.int p2), .val (.int p3), .val (.int p4), .val (.int p5), .val (.int (3 : Int32)), .val (.int (1 : Int32)), .val (.int (1 : Int32)), .val (.int (0 : Int32)), .val (.int (0 : Int32)), .unset, .unset, .unset, .unset, .unset, .unset, .unset, .unset, .unset, .unset, .unset]) rfl k)
    refine own_Goes.st ?_ (fun _ k => XS.iload X0.here hx rfl (hb hby at_63) rfl k)
    refine own_Goes.st ?_ (fun _ k => XS.iconst X0.here hx rfl (hb hby at_65) k)
    refine own_Goes.st ?_ (fun _ k => XS.iand X0.here hx rfl (hb hby at_66) rfl k)
    refine own_Goes.st ?_ (fun _ k => XS.iload X0.here hx rfl (hb hby at_67) rfl k)
    show own_Goes p.tables e below P (s₁.setTop (mkF m 69 #[.val (.long p0), .second, .val (.int p1), .val (.int p2), .val (.int p3), .val (.int p4), .val (.int p5), .val (.int (3 : Int32)), .val (.int (1 : Int32)), .val (.int (1 : Int32)), .val (.int (0 : Int32)), .val (.int (0 : Int32)), .unset, .unset, .unset, .unset, .unset, .unset, .unset, .unset, .unset, .unset, .unset] [(.int (3 : Int32)), (.int (1 : Int32))]))
    refine own_Goes.st ?_ (fun _ k => XS.iconst X0.here hx rfl (hb hby at_69) k)
    refine own_Goes.st ?_ (fun _ k => XS.ishr X0.here hx rfl (hb hby at_70) rfl k)
    refine own_Goes.st ?_ (fun _ k => XS.iconst X0.here hx rfl (hb hby at_71) k)
    refine own_Goes.st ?_ (fun _ k => XS.iand X0.here hx rfl (hb hby at_72) rfl k)
    refine own_Goes.st ?_ (fun _ k => XS.iadd X0.here hx rfl (hb hby at_73) rfl k)
    refine own_Goes.st ?_ (fun _ k => XS.iload X0.here hx rfl (hb hby at_74) rfl k)
    show own_Goes p.tables e below P (s₁.setTop (mkF m 76 #[.val (.long p0), .second, .val (.int p1), .val (.int p2), .val (.int p3), .val (.int p4), .val (.int p5), .val (.int (3 : Int32)), .val (.int (1 : Int32)), .val (.int (1 : Int32)), .val (.int (0 : Int32)), .val (.int (0 : Int32)), .unset, .unset, .unset, .unset, .unset, .unset, .unset, .unset, .unset, .unset, .unset] [(.int (3 : Int32)), (.int (2 : Int32))]))
    refine own_Goes.st ?_ (fun _ k => XS.iconst X0.here hx rfl (hb hby at_76) k)
    refine own_Goes.st ?_ (fun _ k => XS.ishr X0.here hx rfl (hb hby at_77) rfl k)
    refine own_Goes.st ?_ (fun _ k => XS.iconst X0.here hx rfl (hb hby at_78) k)
    refine own_Goes.st ?_ (fun _ k => XS.iand X0.here hx rfl (hb hby at_79) rfl k)
    refine own_Goes.st ?_ (fun _ k => XS.iadd X0.here hx rfl (hb hby at_80) rfl k)
    refine own_Goes.st ?_ (fun _ k => XS.iload X0.here hx rfl (hb hby at_81) rfl k)
    show own_Goes p.tables e below P (s₁.setTop (mkF m 83 #[.val (.long p0), .second, .val (.int p1), .val (.int p2), .val (.int p3), .val (.int p4), .val (.int p5), .val (.int (3 : Int32)), .val (.int (1 : Int32)), .val (.int (1 : Int32)), .val (.int (0 : Int32)), .val (.int (0 : Int32)), .unset, .unset, .unset, .unset, .unset, .unset, .unset, .unset, .unset, .unset, .unset] [(.int (3 : Int32)), (.int (2 : Int32))]))
    refine own_Goes.st ?_ (fun _ k => XS.iconst X0.here hx rfl (hb hby at_83) k)
    refine own_Goes.st ?_ (fun _ k => XS.ishr X0.here hx rfl (hb hby at_84) rfl k)
    refine own_Goes.st ?_ (fun _ k => XS.iconst X0.here hx rfl (hb hby at_85) k)
    refine own_Goes.st ?_ (fun _ k => XS.iand X0.here hx rfl (hb hby at_86) rfl k)
    refine own_Goes.st ?_ (fun _ k => XS.iadd X0.here hx rfl (hb hby at_87) rfl k)
    refine own_Goes.st ?_ (fun _ k => XS.istore X0.here hx rfl (hb hby at_88) rfl (l' := #[.val (.long p0), .second, .val (.int p1), .val (.int p2), .val (.int p3), .val (.int p4), .val (.int p5), .val (.int (3 : Int32)), .val (.int (1 : Int32)), .val (.int (1 : Int32)), .val (.int (0 : Int32)), .val (.int (0 : Int32)), .val (.int (2 : Int32)), .unset, .unset, .unset, .unset, .unset, .unset, .unset, .unset, .unset, .unset]) rfl k)
    show own_Goes p.tables e below P (s₁.setTop (mkF m 90 #[.val (.long p0), .second, .val (.int p1), .val (.int p2), .val (.int p3), .val (.int p4), .val (.int p5), .val (.int (3 : Int32)), .val (.int (1 : Int32)), .val (.int (1 : Int32)), .val (.int (0 : Int32)), .val (.int (0 : Int32)), .val (.int (2 : Int32)), .unset, .unset, .unset, .unset, .unset, .unset, .unset, .unset, .unset, .unset] []))
    refine own_Goes.st ?_ (fun _ k => XS.iload X0.here hx rfl (hb hby at_90) rfl k)
    obtain ⟨T230, h230, k230, X230, e230, E230, A230, J230, st230⟩ := newPE X0 hx hZ (hw _ (List.mem_of_getElem? (i := 0) rfl)) e0 (g := (mkF m 92 #[.val (.long p0), .second, .val (.int p1), .val (.int p2), .val (.int p3), .val (.int p4), .val (.int p5), .val (.int (3 : Int32)), .val (.int (1 : Int32)), .val (.int (1 : Int32)), .val (.int (0 : Int32)), .val (.int (0 : Int32)), .val (.int (2 : Int32)), .unset, .unset, .unset, .unset, .unset, .unset, .unset, .unset, .unset, .unset] [(.int (2 : Int32))])) rfl (hb hby at_92) rfl (by decide) (cap := 4) (by decide) (by decide) (by decide) (by decide) (ad := "[I") rfl
    obtain ⟨b230, g230⟩ : ∃ z, z = h0.size := ⟨_, rfl⟩
    rw [← g230] at A230 J230 st230
    have ge_b230 : n0 ≤ b230 := Nat.le_trans Z0 (Nat.le_of_eq g230.symm)
    refine own_Goes.st ?_ st230
    have Z231 : n0 ≤ h230.size := Nat.le_trans Z0 E230.1
    have V232 : Arv Z h230 b230 k230 .int (2 : Int32) [(.int (0 : Int32)), (.int (0 : Int32))] (.int 0) := (Arv.new A230 (by decide)).pad (pad_rep [] _ 2)
    show own_Goes p.tables e below P (T230.setTop (mkF m 94 #[.val (.long p0), .second, .val (.int p1), .val (.int p2), .val (.int p3), .val (.int p4), .val (.int p5), .val (.int (3 : Int32)), .val (.int (1 : Int32)), .val (.int (1 : Int32)), .val (.int (0 : Int32)), .val (.int (0 : Int32)), .val (.int (2 : Int32)), .unset, .unset, .unset, .unset, .unset, .unset, .unset, .unset, .unset, .unset] [(.ref b230)]))
    refine own_Goes.st ?_ (fun _ k => XS.astore X230.here hx rfl (hb hby at_94) rfl rfl (l' := #[.val (.long p0), .second, .val (.int p1), .val (.int p2), .val (.int p3), .val (.int p4), .val (.int p5), .val (.int (3 : Int32)), .val (.int (1 : Int32)), .val (.int (1 : Int32)), .val (.int (0 : Int32)), .val (.int (0 : Int32)), .val (.int (2 : Int32)), .val (.ref b230), .unset, .unset, .unset, .unset, .unset, .unset, .unset, .unset, .unset]) rfl k)
    refine own_Goes.st ?_ (fun _ k => XS.iconst X230.here hx rfl (hb hby at_96) k)
    refine own_Goes.st ?_ (fun _ k => XS.istore X230.here hx rfl (hb hby at_97) rfl (l' := #[.val (.long p0), .second, .val (.int p1), .val (.int p2), .val (.int p3), .val (.int p4), .val (.int p5), .val (.int (3 : Int32)), .val (.int (1 : Int32)), .val (.int (1 : Int32)), .val (.int (0 : Int32)), .val (.int (0 : Int32)), .val (.int (2 : Int32)), .val (.ref b230), .val (.int (0 : Int32)), .unset, .unset, .unset, .unset, .unset, .unset, .unset, .unset]) rfl k)
    refine own_Goes.st ?_ (fun _ k => XS.iload X230.here hx rfl (hb hby at_99) rfl k)
    refine own_Goes.st ?_ (fun _ k => XS.ifNo X230.here hx rfl (hb hby at_101) rfl ((if0 _ _).trans (feq (by decide : ¬ ((1 : Int32) = (0 : Int32)))).1) k)
    refine own_Goes.st ?_ (fun _ k => XS.aload X230.here hx rfl (hb hby at_104) rfl rfl k)
    show own_Goes p.tables e below P (T230.setTop (mkF m 106 #[.val (.long p0), .second, .val (.int p1), .val (.int p2), .val (.int p3), .val (.int p4), .val (.int p5), .val (.int (3 : Int32)), .val (.int (1 : Int32)), .val (.int (1 : Int32)), .val (.int (0 : Int32)), .val (.int (0 : Int32)), .val (.int (2 : Int32)), .val (.ref b230), .val (.int (0 : Int32)), .unset, .unset, .unset, .unset, .unset, .unset, .unset, .unset] [(.ref b230)]))
    refine own_Goes.st ?_ (fun _ k => XS.iload X230.here hx rfl (hb hby at_106) rfl k)
    refine own_Goes.st ?_ (fun _ k => XS.iconst X230.here hx rfl (hb hby at_108) k)
    have Vc233 := V232
    obtain ⟨cl233, Ar233, qc233, S233, Nn233, Hs233, Gs233⟩ := Vc233
    have hin234 : ¬ ((0 : Int32) < 0 ∨ cl233.slots.size ≤ ((0 : Int32)).toNatClampNeg) := inb_of S233 ⟨by decide, by decide⟩
    obtain ⟨T234, h234, X234, e234, W234, st234⟩ := stI X230 hx hZ e230 Ar233 (j := (0 : Int32)) hin234 (g := (mkF m 109 #[.val (.long p0), .second, .val (.int p1), .val (.int p2), .val (.int p3), .val (.int p4), .val (.int p5), .val (.int (3 : Int32)), .val (.int (1 : Int32)), .val (.int (1 : Int32)), .val (.int (0 : Int32)), .val (.int (0 : Int32)), .val (.int (2 : Int32)), .val (.ref b230), .val (.int (0 : Int32)), .unset, .unset, .unset, .unset, .unset, .unset, .unset, .unset] [(.int (0 : Int32)), (.int (0 : Int32)), (.ref b230)])) rfl rfl (hb hby at_109)
    refine own_Goes.st ?_ st234
    have V235 : Arv Z h234 b230 k230 .int (2 : Int32) [(.int (0 : Int32)), (.int (0 : Int32))] (.int 0) := Arv.set Ar233 qc233 S233 Nn233 Hs233 Gs233 rfl W234 0 rfl (Nat.le_of_ble_eq_true rfl)
    have Z236 : n0 ≤ h234.size := by rw [W234.size]; exact Z231
    have N237 := Fr.snoc X234 N0 ge_b230
    show own_Goes p.tables e below P (T234.setTop (mkF m 110 #[.val (.long p0), .second, .val (.int p1), .val (.int p2), .val (.int p3), .val (.int p4), .val (.int p5), .val (.int (3 : Int32)), .val (.int (1 : Int32)), .val (.int (1 : Int32)), .val (.int (0 : Int32)), .val (.int (0 : Int32)), .val (.int (2 : Int32)), .val (.ref b230), .val (.int (0 : Int32)), .unset, .unset, .unset, .unset, .unset, .unset, .unset, .unset] []))
    refine own_Goes.st ?_ (fun _ k => XS.iinc X234.here hx rfl (hb hby at_110) rfl (l' := #[.val (.long p0), .second, .val (.int p1), .val (.int p2), .val (.int p3), .val (.int p4), .val (.int p5), .val (.int (3 : Int32)), .val (.int (1 : Int32)), .val (.int (1 : Int32)), .val (.int (0 : Int32)), .val (.int (0 : Int32)), .val (.int (2 : Int32)), .val (.ref b230), .val (.int (1 : Int32)), .unset, .unset, .unset, .unset, .unset, .unset, .unset, .unset]) rfl k)
    refine own_Goes.st ?_ (fun _ k => XS.iload X234.here hx rfl (hb hby at_113) rfl k)
    refine own_Goes.st ?_ (fun _ k => XS.ifNo X234.here hx rfl (hb hby at_115) rfl ((if0 _ _).trans (feq (by decide : ¬ ((1 : Int32) = (0 : Int32)))).1) k)
    refine own_Goes.st ?_ (fun _ k => XS.aload X234.here hx rfl (hb hby at_118) rfl rfl k)
    refine own_Goes.st ?_ (fun _ k => XS.iload X234.here hx rfl (hb hby at_120) rfl k)
    refine own_Goes.st ?_ (fun _ k => XS.iconst X234.here hx rfl (hb hby at_122) k)
    show own_Goes p.tables e below P (T234.setTop (mkF m 123 #[.val (.long p0), .second, .val (.int p1), .val (.int p2), .val (.int p3), .val (.int p4), .val (.int p5), .val (.int (3 : Int32)), .val (.int (1 : Int32)), .val (.int (1 : Int32)), .val (.int (0 : Int32)), .val (.int (0 : Int32)), .val (.int (2 : Int32)), .val (.ref b230), .val (.int (1 : Int32)), .unset, .unset, .unset, .unset, .unset, .unset, .unset, .unset] [(.int (1 : Int32)), (.int (1 : Int32)), (.ref b230)]))
    have Vc238 := V235
    obtain ⟨cl238, Ar238, qc238, S238, Nn238, Hs238, Gs238⟩ := Vc238
    have hin239 : ¬ ((1 : Int32) < 0 ∨ cl238.slots.size ≤ ((1 : Int32)).toNatClampNeg) := inb_of S238 ⟨by decide, by decide⟩
    obtain ⟨T239, h239, X239, e239, W239, st239⟩ := stI X234 hx hZ e234 Ar238 (j := (1 : Int32)) hin239 (g := (mkF m 123 #[.val (.long p0), .second, .val (.int p1), .val (.int p2), .val (.int p3), .val (.int p4), .val (.int p5), .val (.int (3 : Int32)), .val (.int (1 : Int32)), .val (.int (1 : Int32)), .val (.int (0 : Int32)), .val (.int (0 : Int32)), .val (.int (2 : Int32)), .val (.ref b230), .val (.int (1 : Int32)), .unset, .unset, .unset, .unset, .unset, .unset, .unset, .unset] [(.int (1 : Int32)), (.int (1 : Int32)), (.ref b230)])) rfl rfl (hb hby at_123)
    refine own_Goes.st ?_ st239
    have V240 : Arv Z h239 b230 k230 .int (2 : Int32) [(.int (0 : Int32)), (.int (1 : Int32))] (.int 0) := Arv.set Ar238 qc238 S238 Nn238 Hs238 Gs238 rfl W239 1 rfl (Nat.le_of_ble_eq_true rfl)
    have Z241 : n0 ≤ h239.size := by rw [W239.size]; exact Z236
    have N242 := Fr.snoc X239 N237 ge_b230
    show own_Goes p.tables e below P (T239.setTop (mkF m 124 #[.val (.long p0), .second, .val (.int p1), .val (.int p2), .val (.int p3), .val (.int p4), .val (.int p5), .val (.int (3 : Int32)), .val (.int (1 : Int32)), .val (.int (1 : Int32)), .val (.int (0 : Int32)), .val (.int (0 : Int32)), .val (.int (2 : Int32)), .val (.ref b230), .val (.int (1 : Int32)), .unset, .unset, .unset, .unset, .unset, .unset, .unset, .unset] []))
    refine own_Goes.st ?_ (fun _ k => XS.iinc X239.here hx rfl (hb hby at_124) rfl (l' := #[.val (.long p0), .second, .val (.int p1), .val (.int p2), .val (.int p3), .val (.int p4), .val (.int p5), .val (.int (3 : Int32)), .val (.int (1 : Int32)), .val (.int (1 : Int32)), .val (.int (0 : Int32)), .val (.int (0 : Int32)), .val (.int (2 : Int32)), .val (.ref b230), .val (.int (2 : Int32)), .unset, .unset, .unset, .unset, .unset, .unset, .unset, .unset]) rfl k)
    refine own_Goes.st ?_ (fun _ k => XS.iload X239.here hx rfl (hb hby at_127) rfl k)
    refine own_Goes.st ?_ (fun _ k => XS.ifYes X239.here hx rfl (pc0 := 129) (pc' := 141) rfl (hb hby at_129) rfl ((if0 _ _).trans (teq (by decide : (0 : Int32) = (0 : Int32))).1) (by decide) (by decide) k)
    refine own_Goes.st ?_ (fun _ k => XS.iload X239.here hx rfl (hb hby at_141) rfl k)
    refine own_Goes.st ?_ (fun _ k => XS.ifYes X239.here hx rfl (pc0 := 143) (pc' := 155) rfl (hb hby at_143) rfl ((if0 _ _).trans (teq (by decide : (0 : Int32) = (0 : Int32))).1) (by decide) (by decide) k)
    refine own_Goes.st ?_ (fun _ k => XS.iload X239.here hx rfl (hb hby at_155) rfl k)
    show own_Goes p.tables e below P (T239.setTop (mkF m 157 #[.val (.long p0), .second, .val (.int p1), .val (.int p2), .val (.int p3), .val (.int p4), .val (.int p5), .val (.int (3 : Int32)), .val (.int (1 : Int32)), .val (.int (1 : Int32)), .val (.int (0 : Int32)), .val (.int (0 : Int32)), .val (.int (2 : Int32)), .val (.ref b230), .val (.int (2 : Int32)), .unset, .unset, .unset, .unset, .unset, .unset, .unset, .unset] [(.int (3 : Int32))]))
    refine own_Goes.st ?_ (fun _ k => XS.ifYes X239.here hx rfl (pc0 := 157) (pc' := 164) rfl (hb hby at_157) rfl ((if0 _ _).trans (feq (by decide : ¬ ((3 : Int32) = (0 : Int32)))).2) (by decide) (by decide) k)
    refine own_Goes.st ?_ (fun _ k => XS.lloadN X239.here hx rfl (hb hby at_164) rfl k)
    refine own_Goes.st ?_ (fun _ k => XS.bipush X239.here hx rfl (hb hby at_165) k)
    refine own_Goes.st ?_ (fun _ k => XS.lshr X239.here hx rfl (hb hby at_167) rfl k)
    refine own_Goes.st ?_ (fun _ k => XS.lstore X239.here hx rfl (hb hby at_168) rfl (l' := #[.val (.long p0), .second, .val (.int p1), .val (.int p2), .val (.int p3), .val (.int p4), .val (.int p5), .val (.int (3 : Int32)), .val (.int (1 : Int32)), .val (.int (1 : Int32)), .val (.int (0 : Int32)), .val (.int (0 : Int32)), .val (.int (2 : Int32)), .val (.ref b230), .val (.int (2 : Int32)), .val (.long (p0 >>> ((14 : Int32) &&& 0x3f).toInt64)), .second, .unset, .unset, .unset, .unset, .unset, .unset]) rfl k)
    exact T2n _ _ X239 _ e239 N242 Z241 b230 k230 _ _ _ _ _ _ _ _ V240 (own_sh14 p0) (by decide) (by decide) rfl
  · skip
    show own_Goes p.tables e below P (s₁.setTop (mkF m 6 #[.val (.long p0), .second, .val (.int p1), .val (.int p2), .val (.int p3), .val (.int p4), .val (.int p5), .val (.int (4 : Int32)), .unset, .unset, .unset, .unset, .unset, .unset, .unset, .unset, .unset, .unset, .unset, .unset, .unset, .unset, .unset] []))
    refine own_Goes.st ?_ (fun _ k => XS.iload X0.here hx rfl (hb hby at_6) rfl k)
    refine own_Goes.st ?_ (fun _ k => XS.iconst X0.here hx rfl (hb hby at_8) k)
    refine own_Goes.st ?_ (fun _ k => XS.iand X0.here hx rfl (hb hby at_9) rfl k)
    refine own_Goes.st ?_ (fun _ k => XS.ifYes X0.here hx rfl (pc0 := 10) (pc' := 17) rfl (hb hby at_10) rfl ((if0 _ _).trans (teq (by decide : (0 : Int32) = (0 : Int32))).1) (by decide) (by decide) k)
    refine own_Goes.st ?_ (fun _ k => XS.iconst X0.here hx rfl (hb hby at_17) k)
    refine own_Goes.st ?_ (fun _ k => XS.istore X0.here hx rfl (hb hby at_18) rfl (l' := #[.val (.long p0), .second, .val (.int p1), .val (.int p2), .val (.int p3), .val (.int p4), .val (.int p5), .val (.int (4 : Int32)), .val (.int (0 : Int32)), .unset, .unset, .unset, .unset, .unset, .unset, .unset, .unset, .unset, .unset, .unset, .unset, .unset, .unset]) rfl k)
    show own_Goes p.tables e below P (s₁.setTop (mkF m 20 #[.val (.long p0), .second, .val (.int p1), .val (.int p2), .val (.int p3), .val (.int p4), .val (.int p5), .val (.int (4 : Int32)), .val (.int (0 : Int32)), .unset, .unset, .unset, .unset, .unset, .unset, .unset, .unset, .unset, .unset, .unset, .unset, .unset, .unset] []))
    refine own_Goes.st ?_ (fun _ k => XS.iload X0.here hx rfl (hb hby at_20) rfl k)
    refine own_Goes.st ?_ (fun _ k => XS.iconst X0.here hx rfl (hb hby at_22) k)
    refine own_Goes.st ?_ (fun _ k => XS.iand X0.here hx rfl (hb hby at_23) rfl k)
    refine own_Goes.st ?_ (fun _ k => XS.ifYes X0.here hx rfl (pc0 := 24) (pc' := 31) rfl (hb hby at_24) rfl ((if0 _ _).trans (teq (by decide : (0 : Int32) = (0 : Int32))).1) (by decide) (by decide) k)
    refine own_Goes.st ?_ (fun _ k => XS.iconst X0.here hx rfl (hb hby at_31) k)
    refine own_Goes.st ?_ (fun _ k => XS.istore X0.here hx rfl (hb hby at_32) rfl (l' := #[.val (.long p0), .second, .val (.int p1), .val (.int p2), .val (.int p3), .val (.int p4), .val (.int p5), .val (.int (4 : Int32)), .val (.int (0 : Int32)), .val (.int (0 : Int32)), .unset, .unset, .unset, .unset, .unset, .unset, .unset, .unset, .unset, .unset, .unset, .unset, .unset]) rfl k)
    show own_Goes p.tables e below P (s₁.setTop (mkF m 34 #[.val (.long p0), .second, .val (.int p1), .val (.int p2), .val (.int p3), .val (.int p4), .val (.int p5), .val (.int (4 : Int32)), .val (.int (0 : Int32)), .val (.int (0 : Int32)), .unset, .unset, .unset, .unset, .unset, .unset, .unset, .unset, .unset, .unset, .unset, .unset, .unset] []))
    refine own_Goes.st ?_ (fun _ k => XS.iload X0.here hx rfl (hb hby at_34) rfl k)
    refine own_Goes.st ?_ (fun _ k => XS.iconst X0.here hx rfl (hb hby at_36) k)
    refine own_Goes.st ?_ (fun _ k => XS.iand X0.here hx rfl (hb hby at_37) rfl k)
    refine own_Goes.st ?_ (fun _ k => XS.ifNo X0.here hx rfl (hb hby at_38) rfl ((if0 _ _).trans (feq (by decide : ¬ ((4 : Int32) = (0 : Int32)))).1) k)
    refine own_Goes.st ?_ (fun _ k => XS.iconst X0.here hx rfl (hb hby at_41) k)
    refine own_Goes.st ?_ (fun _ k => XS.goto X0.here hx rfl (pc0 := 42) (pc' := 46) rfl (hb hby at_42) (by decide) (by decide) k)
    show own_Goes p.tables e below P (s₁.setTop (mkF m 46 #[.val (.long p0), .second, .val (.int p1), .val (.int p2), .val (.int p3), .val (.int p4), .val (.int p5), .val (.int (4 : Int32)), .val (.int (0 : Int32)), .val (.int (0 : Int32)), .unset, .unset, .unset, .unset, .unset, .unset, .unset, .unset, .unset, .unset, .unset, .unset, .unset] [(.int (1 : Int32))]))
    refine own_Goes.st ?_ (fun _ k => XS.istore X0.here hx rfl (hb hby at_46) rfl (l' := #[.val (.long p0), .second, .val (.int p1), .val (.int p2), .val (.int p3), .val (.int p4), .val (.int p5), .val (.int (4 : Int32)), .val (.int (0 : Int32)), .val (.int (0 : Int32)), .val (.int (1 : Int32)), .unset, .unset, .unset, .unset, .unset, .unset, .unset, .unset, .unset, .unset, .unset, .unset]) rfl k)
    refine own_Goes.st ?_ (fun _ k => XS.iload X0.here hx rfl (hb hby at_48) rfl k)
    refine own_Goes.st ?_ (fun _ k => XS.bipush X0.here hx rfl (hb hby at_50) k)
    refine own_Goes.st ?_ (fun _ k => XS.iand X0.here hx rfl (hb hby at_52) rfl k)
    refine own_Goes.st ?_ (fun _ k => XS.ifYes X0.here hx rfl (pc0 := 53) (pc' := 60) rfl (hb hby at_53) rfl ((if0 _ _).trans (teq (by decide : (0 : Int32) = (0 : Int32))).1) (by decide) (by decide) k)
    refine own_Goes.st ?_ (fun _ k => XS.iconst X0.here hx rfl (hb hby at_60) k)
    show own_Goes p.tables e below P (s₁.setTop (mkF m 61 #[.val (.long p0), .second, .val (.int p1), .val (.int p2), .val (.int p3), .val (.int p4), .val (.int p5), .val (.int (4 : Int32)), .val (.int (0 : Int32)), .val (.int (0 : Int32)), .val (.int (1 : Int32)), .unset, .unset, .unset, .unset, .unset, .unset, .unset, .unset, .unset, .unset, .unset, .unset] [(.int (0 : Int32))]))
    refine own_Goes.st ?_ (fun _ k => XS.istore X0.here hx rfl (hb hby at_61) rfl (l' := #[.val (.long p0), .second, .val (.int p1), .val (.int p2), .val (.int p3), .val (.int p4), .val (.int p5), .val (.int (4 : Int32)), .val (.int (0 : Int32)), .val (.int (0 : Int32)), .val (.int (1 : Int32)), .val (.int (0 : Int32)), .unset, .unset, .unset, .unset, .unset, .unset, .unset, .unset, .unset, .unset, .unset]) rfl k)
    refine own_Goes.st ?_ (fun _ k => XS.iload X0.here hx rfl (hb hby at_63) rfl k)
    refine own_Goes.st ?_ (fun _ k => XS.iconst X0.here hx rfl (hb hby at_65) k)
    refine own_Goes.st ?_ (fun _ k => XS.iand X0.here hx rfl (hb hby at_66) rfl k)
    refine own_Goes.st ?_ (fun _ k => XS.iload X0.here hx rfl (hb hby at_67) rfl k)
    refine own_Goes.st ?_ (fun _ k => XS.iconst X0.here hx rfl (hb hby at_69) k)
    show own_Goes p.tables e below P (s₁.setTop (mkF m 70 #[.val (.long p0), .second, .val (.int p1), .val (.int p2), .val (.int p3), .val (.int p4), .val (.int p5), .val (.int (4 : Int32)), .val (.int (0 : Int32)), .val (.int (0 : Int32)), .val (.int (1 : Int32)), .val (.int (0 : Int32)), .unset, .unset, .unset, .unset, .unset, .unset, .unset, .unset, .unset, .unset, .unset] [(.int (1 : Int32)), (.int (4 : Int32)), (.int (0 : Int32))]))
    refine own_Goes.st ?_ (fun _ k => XS.ishr X0.here hx rfl (hb hby at_70) rfl k)
    refine own_Goes.st ?_ (fun _ k => XS.iconst X0.here hx rfl (hb hby at_71) k)
    refine own_Goes.st ?_ (fun _ k => XS.iand X0.here hx rfl (hb hby at_72) rfl k)
    refine own_Goes.st ?_ (fun _ k => XS.iadd X0.here hx rfl (hb hby at_73) rfl k)
    refine own_Goes.st ?_ (fun _ k => XS.iload X0.here hx rfl (hb hby at_74) rfl k)
    refine own_Goes.st ?_ (fun _ k => XS.iconst X0.here hx rfl (hb hby at_76) k)
    show own_Goes p.tables e below P (s₁.setTop (mkF m 77 #[.val (.long p0), .second, .val (.int p1), .val (.int p2), .val (.int p3), .val (.int p4), .val (.int p5), .val (.int (4 : Int32)), .val (.int (0 : Int32)), .val (.int (0 : Int32)), .val (.int (1 : Int32)), .val (.int (0 : Int32)), .unset, .unset, .unset, .unset, .unset, .unset, .unset, .unset, .unset, .unset, .unset] [(.int (2 : Int32)), (.int (4 : Int32)), (.int (0 : Int32))]))
    refine own_Goes.st ?_ (fun _ k => XS.ishr X0.here hx rfl (hb hby at_77) rfl k)
    refine own_Goes.st ?_ (fun _ k => XS.iconst X0.here hx rfl (hb hby at_78) k)
    refine own_Goes.st ?_ (fun _ k => XS.iand X0.here hx rfl (hb hby at_79) rfl k)
    refine own_Goes.st ?_ (fun _ k => XS.iadd X0.here hx rfl (hb hby at_80) rfl k)
    refine own_Goes.st ?_ (fun _ k => XS.iload X0.here hx rfl (hb hby at_81) rfl k)
    refine own_Goes.st ?_ (fun _ k => XS.iconst X0.here hx rfl (hb hby at_83) k)
    show own_Goes p.tables e below P (s₁.setTop (mkF m 84 #[.val (.long p0), .second, .val (.int p1), .val (.int p2), .val (.int p3), .val (.int p4), .val (.int p5), .val (.int (4 : Int32)), .val (.int (0 : Int32)), .val (.int (0 : Int32)), .val (.int (1 : Int32)), .val (.int (0 : Int32)), .unset, .unset, .unset, .unset, .unset, .unset, .unset, .unset, .unset, .unset, .unset] [(.int (3 : Int32)), (.int (4 : Int32)), (.int (1 : Int32))]))
    refine own_Goes.st ?_ (fun _ k => XS.ishr X0.here hx rfl (hb hby at_84) rfl k)
    refine own_Goes.st ?_ (fun _ k => XS.iconst X0.here hx rfl (hb hby at_85) k)
    refine own_Goes.st ?_ (fun _ k => XS.iand X0.here hx rfl (hb hby at_86) rfl k)
    refine own_Goes.st ?_ (fun _ k => XS.iadd X0.here hx rfl (hb hby at_87) rfl k)
    refine own_Goes.st ?_ (fun _ k => XS.istore X0.here hx rfl (hb hby at_88) rfl (l' := #[.val (.long p0), .second, .val (.int p1), .val (.int p2), .val (.int p3), .val (.int p4), .val (.int p5), .val (.int (4 : Int32)), .val (.int (0 : Int32)), .val (.int (0 : Int32)), .val (.int (1 : Int32)), .val (.int (0 : Int32)), .val (.int (1 : Int32)), .unset, .unset, .unset, .unset, .unset, .unset, .unset, .unset, .unset, .unset]) rfl k)
    refine own_Goes.st ?_ (fun _ k => XS.iload X0.here hx rfl (hb hby at_90) rfl k)
    show own_Goes p.tables e below P (s₁.setTop (mkF m 92 #[.val (.long p0), .second, .val (.int p1), .val (.int p2), .val (.int p3), .val (.int p4), .val (.int p5), .val (.int (4 : Int32)), .val (.int (0 : Int32)), .val (.int (0 : Int32)), .val (.int (1 : Int32)), .val (.int (0 : Int32)), .val (.int (1 : Int32)), .unset, .unset, .unset, .unset, .unset, .unset, .unset, .unset, .unset, .unset] [(.int (1 : Int32))]))
    obtain ⟨T243, h243, k243, X243, e243, E243, A243, J243, st243⟩ := newPE X0 hx hZ (hw _ (List.mem_of_getElem? (i := 0) rfl)) e0 (g := (mkF m 92 #[.val (.long p0), .second, .val (.int p1), .val (.int p2), .val (.int p3), .val (.int p4), .val (.int p5), .val (.int (4 : Int32)), .val (.int (0 : Int32)), .val (.int (0 : Int32)), .val (.int (1 : Int32)), .val (.int (0 : Int32)), .val (.int (1 : Int32)), .unset, .unset, .unset, .unset, .unset, .unset, .unset, .unset, .unset, .unset] [(.int (1 : Int32))])) rfl (hb hby at_92) rfl (by decide) (cap := 4) (by decide) (by decide) (by decide) (by decide) (ad := "[I") rfl
    obtain ⟨b243, g243⟩ : ∃ z, z = h0.size := ⟨_, rfl⟩
    rw [← g243] at A243 J243 st243
    have ge_b243 : n0 ≤ b243 := Nat.le_trans Z0 (Nat.le_of_eq g243.symm)
    refine own_Goes.st ?_ st243
    have Z244 : n0 ≤ h243.size := Nat.le_trans Z0 E243.1
    have V245 : Arv Z h243 b243 k243 .int (1 : Int32) [(.int (0 : Int32))] (.int 0) := (Arv.new A243 (by decide)).pad (pad_rep [] _ 1)
    show own_Goes p.tables e below P (T243.setTop (mkF m 94 #[.val (.long p0), .second, .val (.int p1), .val (.int p2), .val (.int p3), .val (.int p4), .val (.int p5), .val (.int (4 : Int32)), .val (.int (0 : Int32)), .val (.int (0 : Int32)), .val (.int (1 : Int32)), .val (.int (0 : Int32)), .val (.int (1 : Int32)), .unset, .unset, .unset, .unset, .unset, .unset, .unset, .unset, .unset, .unset] [(.ref b243)]))
    refine own_Goes.st ?_ (fun _ k => XS.astore X243.here hx rfl (hb hby at_94) rfl rfl (l' := #[.val (.long p0), .second, .val (.int p1), .val (.int p2), .val (.int p3), .val (.int p4), .val (.int p5), .val (.int (4 : Int32)), .val (.int (0 : Int32)), .val (.int (0 : Int32)), .val (.int (1 : Int32)), .val (.int (0 : Int32)), .val (.int (1 : Int32)), .val (.ref b243), .unset, .unset, .unset, .unset, .unset, .unset, .unset, .unset, .unset]) rfl k)
    refine own_Goes.st ?_ (fun _ k => XS.iconst X243.here hx rfl (hb hby at_96) k)
    refine own_Goes.st ?_ (fun _ k => XS.istore X243.here hx rfl (hb hby at_97) rfl (l' := #[.val (.long p0), .second, .val (.int p1), .val (.int p2), .val (.int p3), .val (.int p4), .val (.int p5), .val (.int (4 : Int32)), .val (.int (0 : Int32)), .val (.int (0 : Int32)), .val (.int (1 : Int32)), .val (.int (0 : Int32)), .val (.int (1 : Int32)), .val (.ref b243), .val (.int (0 : Int32)), .unset, .unset, .unset, .unset, .unset, .unset, .unset, .unset]) rfl k)
    refine own_Goes.st ?_ (fun _ k => XS.iload X243.here hx rfl (hb hby at_99) rfl k)
    refine own_Goes.st ?_ (fun _ k => XS.ifYes X243.here hx rfl (pc0 := 101) (pc' := 113) rfl (hb hby at_101) rfl ((if0 _ _).trans (teq (by decide : (0 : Int32) = (0 : Int32))).1) (by decide) (by decide) k)
    refine own_Goes.st ?_ (fun _ k => XS.iload X243.here hx rfl (hb hby at_113) rfl k)
    show own_Goes p.tables e below P (T243.setTop (mkF m 115 #[.val (.long p0), .second, .val (.int p1), .val (.int p2), .val (.int p3), .val (.int p4), .val (.int p5), .val (.int (4 : Int32)), .val (.int (0 : Int32)), .val (.int (0 : Int32)), .val (.int (1 : Int32)), .val (.int (0 : Int32)), .val (.int (1 : Int32)), .val (.ref b243), .val (.int (0 : Int32)), .unset, .unset, .unset, .unset, .unset, .unset, .unset, .unset] [(.int (0 : Int32))]))
    refine own_Goes.st ?_ (fun _ k => XS.ifYes X243.here hx rfl (pc0 := 115) (pc' := 127) rfl (hb hby at_115) rfl ((if0 _ _).trans (teq (by decide : (0 : Int32) = (0 : Int32))).1) (by decide) (by decide) k)
    refine own_Goes.st ?_ (fun _ k => XS.iload X243.here hx rfl (hb hby at_127) rfl k)
    refine own_Goes.st ?_ (fun _ k => XS.ifNo X243.here hx rfl (hb hby at_129) rfl ((if0 _ _).trans (feq (by decide : ¬ ((1 : Int32) = (0 : Int32)))).1) k)
    refine own_Goes.st ?_ (fun _ k => XS.aload X243.here hx rfl (hb hby at_132) rfl rfl k)
    refine own_Goes.st ?_ (fun _ k => XS.iload X243.here hx rfl (hb hby at_134) rfl k)
    refine own_Goes.st ?_ (fun _ k => XS.iconst X243.here hx rfl (hb hby at_136) k)
    show own_Goes p.tables e below P (T243.setTop (mkF m 137 #[.val (.long p0), .second, .val (.int p1), .val (.int p2), .val (.int p3), .val (.int p4), .val (.int p5), .val (.int (4 : Int32)), .val (.int (0 : Int32)), .val (.int (0 : Int32)), .val (.int (1 : Int32)), .val (.int (0 : Int32)), .val (.int (1 : Int32)), .val (.ref b243), .val (.int (0 : Int32)), .unset, .unset, .unset, .unset, .unset, .unset, .unset, .unset] [(.int (2 : Int32)), (.int (0 : Int32)), (.ref b243)]))
    have Vc246 := V245
    obtain ⟨cl246, Ar246, qc246, S246, Nn246, Hs246, Gs246⟩ := Vc246
    have hin247 : ¬ ((0 : Int32) < 0 ∨ cl246.slots.size ≤ ((0 : Int32)).toNatClampNeg) := inb_of S246 ⟨by decide, by decide⟩
    obtain ⟨T247, h247, X247, e247, W247, st247⟩ := stI X243 hx hZ e243 Ar246 (j := (0 : Int32)) hin247 (g := (mkF m 137 #[.val (.long p0), .second, .val (.int p1), .val (.int p2), .val (.int p3), .val (.int p4), .val (.int p5), .val (.int (4 : Int32)), .val (.int (0 : Int32)), .val (.int (0 : Int32)), .val (.int (1 : Int32)), .val (.int (0 : Int32)), .val (.int (1 : Int32)), .val (.ref b243), .val (.int (0 : Int32)), .unset, .unset, .unset, .unset, .unset, .unset, .unset, .unset] [(.int (2 : Int32)), (.int (0 : Int32)), (.ref b243)])) rfl rfl (hb hby at_137)
    refine own_Goes.st ?_ st247
    have V248 : Arv Z h247 b243 k243 .int (1 : Int32) [(.int (2 : Int32))] (.int 0) := Arv.set Ar246 qc246 S246 Nn246 Hs246 Gs246 rfl W247 0 rfl (Nat.le_of_ble_eq_true rfl)
    have Z249 : n0 ≤ h247.size := by rw [W247.size]; exact Z244
    have N250 := Fr.snoc X247 N0 ge_b243
    show own_Goes p.tables e below P (T247.setTop (mkF m 138 #[.val (.long p0), .second, .val (.int p1), .val (.int p2), .val (.int p3), .val (.int p4), .val (.int p5), .val (.int (4 : Int32)), .val (.int (0 : Int32)), .val (.int (0 : Int32)), .val (.int (1 : Int32)), .val (.int (0 : Int32)), .val (.int (1 : Int32)), .val (.ref b243), .val (.int (0 : Int32)), .unset, .unset, .unset, .unset, .unset, .unset, .unset, .unset] []))
    refine own_Goes.st ?_ (fun _ k => XS.iinc X247.here hx rfl (hb hby at_138) rfl (l' := #[.val (.long p0), .second, .val (.int p1), .val (.int p2), .val (.int p3), .val (.int p4), .val (.int p5), .val (.int (4 : Int32)), .val (.int (0 : Int32)), .val (.int (0 : Int32)), .val (.int (1 : Int32)), .val (.int (0 : Int32)), .val (.int (1 : Int32)), .val (.ref b243), .val (.int (1 : Int32)), .unset, .unset, .unset, .unset, .unset, .unset, .unset, .unset]) rfl k)
    refine own_Goes.st ?_ (fun _ k => XS.iload X247.here hx rfl (hb hby at_141) rfl k)
    refine own_Goes.st ?_ (fun _ k => XS.ifYes X247.here hx rfl (pc0 := 143) (pc' := 155) rfl (hb hby at_143) rfl ((if0 _ _).trans (teq (by decide : (0 : Int32) = (0 : Int32))).1) (by decide) (by decide) k)
    refine own_Goes.st ?_ (fun _ k => XS.iload X247.here hx rfl (hb hby at_155) rfl k)
    refine own_Goes.st ?_ (fun _ k => XS.ifYes X247.here hx rfl (pc0 := 157) (pc' := 164) rfl (hb hby at_157) rfl ((if0 _ _).trans (feq (by decide : ¬ ((4 : Int32) = (0 : Int32)))).2) (by decide) (by decide) k)
    refine own_Goes.st ?_ (fun _ k => XS.lloadN X247.here hx rfl (hb hby at_164) rfl k)
    show own_Goes p.tables e below P (T247.setTop (mkF m 165 #[.val (.long p0), .second, .val (.int p1), .val (.int p2), .val (.int p3), .val (.int p4), .val (.int p5), .val (.int (4 : Int32)), .val (.int (0 : Int32)), .val (.int (0 : Int32)), .val (.int (1 : Int32)), .val (.int (0 : Int32)), .val (.int (1 : Int32)), .val (.ref b243), .val (.int (1 : Int32)), .unset, .unset, .unset, .unset, .unset, .unset, .unset, .unset] [(.long p0)]))
    refine own_Goes.st ?_ (fun _ k => XS.bipush X247.here hx rfl (hb hby at_165) k)
    refine own_Goes.st ?_ (fun _ k => XS.lshr X247.here hx rfl (hb hby at_167) rfl k)
    refine own_Goes.st ?_ (fun _ k => XS.lstore X247.here hx rfl (hb hby at_168) rfl (l' := #[.val (.long p0), .second, .val (.int p1), .val (.int p2), .val (.int p3), .val (.int p4), .val (.int p5), .val (.int (4 : Int32)), .val (.int (0 : Int32)), .val (.int (0 : Int32)), .val (.int (1 : Int32)), .val (.int (0 : Int32)), .val (.int (1 : Int32)), .val (.ref b243), .val (.int (1 : Int32)), .val (.long (p0 >>> ((14 : Int32) &&& 0x3f).toInt64)), .second, .unset, .unset, .unset, .unset, .unset, .unset]) rfl k)
    exact T1n _ _ X247 _ e247 N250 Z249 b243 k243 _ _ _ _ _ _ _ V248 (own_sh14 p0) (by decide) rfl
  · skip
    show own_Goes p.tables e below P (s₁.setTop (mkF m 6 #[.val (.long p0), .second, .val (.int p1), .val (.int p2), .val (.int p3), .val (.int p4), .val (.int p5), .val (.int (5 : Int32)), .unset, .unset, .unset, .unset, .unset, .unset, .unset, .unset, .unset, .unset, .unset, .unset, .unset, .unset, .unset] []))
    refine own_Goes.st ?_ (fun _ k => XS.iload X0.here hx rfl (hb hby at_6) rfl k)
    refine own_Goes.st ?_ (fun _ k => XS.iconst X0.here hx rfl (hb hby at_8) k)
    refine own_Goes.st ?_ (fun _ k => XS.iand X0.here hx rfl (hb hby at_9) rfl k)
    refine own_Goes.st ?_ (fun _ k => XS.ifNo X0.here hx rfl (hb hby at_10) rfl ((if0 _ _).trans (feq (by decide : ¬ ((1 : Int32) = (0 : Int32)))).1) k)
    refine own_Goes.st ?_ (fun _ k => XS.iconst X0.here hx rfl (hb hby at_13) k)
    refine own_Goes.st ?_ (fun _ k => XS.goto X0.here hx rfl (pc0 := 14) (pc' := 18) rfl (hb hby at_14) (by decide) (by decide) k)
    show own_Goes p.tables e below P (s₁.setTop (mkF m 18 #[.val (.long p0), .second, .val (.int p1), .val (.int p2), .val (.int p3), .val (.int p4), .val (.int p5), .val (.int (5 : Int32)), .unset, .unset, .unset, .unset, .unset, .unset, .unset, .unset, .unset, .unset, .unset, .unset, .unset, .unset, .unset] [(.int (1 : Int32))]))
    refine own_Goes.st ?_ (fun _ k => XS.istore X0.here hx rfl (hb hby at_18) rfl (l' := #[.val (.long p0), .second, .val (.int p1), .val (.int p2), .val (.int p3), .val (.int p4), .val (.int p5), .val (.int (5 : Int32)), .val (.int (1 : Int32)), .unset, .unset, .unset, .unset, .unset, .unset, .unset, .unset, .unset, .unset, .unset, .unset, .unset, .unset]) rfl k)
    refine own_Goes.st ?_ (fun _ k => XS.iload X0.here hx rfl (hb hby at_20) rfl k)
    refine own_Goes.st ?_ (fun _ k => XS.iconst X0.here hx rfl (hb hby at_22) k)
    refine own_Goes.st ?_ (fun _ k => XS.iand X0.here hx rfl (hb hby at_23) rfl k)
    refine own_Goes.st ?_ (fun _ k => XS.ifYes X0.here hx rfl (pc0 := 24) (pc' := 31) rfl (hb hby at_24) rfl ((if0 _ _).trans (teq (by decide : (0 : Int32) = (0 : Int32))).1) (by decide) (by decide) k)
    refine own_Goes.st ?_ (fun _ k => XS.iconst X0.here hx rfl (hb hby at_31) k)
    show own_Goes p.tables e below P (s₁.setTop (mkF m 32 #[.val (.long p0), .second, .val (.int p1), .val (.int p2), .val (.int p3), .val (.int p4), .val (.int p5), .val (.int (5 : Int32)), .val (.int (1 : Int32)), .unset, .unset, .unset, .unset, .unset, .unset, .unset, .unset, .unset, .unset, .unset, .unset, .unset, .unset] [(.int (0 : Int32))]))
    refine own_Goes.st ?_ (fun _ k => XS.istore X0.here hx rfl (hb hby at_32) rfl (l' := #[.val (.long p0), .second, .val (.int p1), .val (.int p2), .val (.int p3), .val (.int p4), .val (.int p5), .val (.int (5 : Int32)), .val (.int (1 : Int32)), .val (.int (0 : Int32)), .unset, .unset, .unset, .unset, .unset, .unset, .unset, .unset, .unset, .unset, .unset, .unset, .unset]) rfl k)
    refine own_Goes.st ?_ (fun _ k => XS.iload X0.here hx rfl (hb hby at_34) rfl k)
    refine own_Goes.st ?_ (fun _ k => XS.iconst X0.here hx rfl (hb hby at_36) k)
    refine own_Goes.st ?_ (fun _ k => XS.iand X0.here hx rfl (hb hby at_37) rfl k)
    refine own_Goes.st ?_ (fun _ k => XS.ifNo X0.here hx rfl (hb hby at_38) rfl ((if0 _ _).trans (feq (by decide : ¬ ((4 : Int32) = (0 : Int32)))).1) k)
    refine own_Goes.st ?_ (fun _ k => XS.iconst X0.here hx rfl (hb hby at_41) k)
    show own_Goes p.tables e below P (s₁.setTop (mkF m 42 #[.val (.long p0), .second, .val (.int p1), .val (.int p2), .val (.int p3), .val (.int p4), .val (.int p5), .val (.int (5 : Int32)), .val (.int (1 : Int32)), .val (.int (0 : Int32)), .unset, .unset, .unset, .unset, .unset, .unset, .unset, .unset, .unset, .unset, .unset, .unset, .unset] [(.int (1 : Int32))]))
    refine own_Goes.st ?_ (fun _ k => XS.goto X0.here hx rfl (pc0 := 42) (pc' := 46) rfl (hb hby at_42) (by decide) (by decide) k)
    refine own_Goes.st ?_ (fun _ k => XS.istore X0.here hx rfl (hb hby at_46) rfl (l' := #[.val (.long p0), .second, .val (.int p1), .val (.int p2), .val (.int p3), .val (.int p4), .val (.int p5), .val (.int (5 : Int32)), .val (.int (1 : Int32)), .val (.int (0 : Int32)), .val (.int (1 : Int32)), .unset, .unset, .unset, .unset, .unset, .unset, .unset, .unset, .unset, .unset, .unset, .unset]) rfl k)
    refine own_Goes.st ?_ (fun _ k => XS.iload X0.here hx rfl (hb hby at_48) rfl k)
    refine own_Goes.st ?_ (fun _ k => XS.bipush X0.here hx rfl (hb hby at_50) k)
    refine own_Goes.st ?_ (fun _ k => XS.iand X0.here hx rfl (hb hby at_52) rfl k)
    refine own_Goes.st ?_ (fun _ k => XS.ifYes X0.here hx rfl (pc0 := 53) (pc' := 60) rfl (hb hby at_53) rfl ((if0 _ _).trans (teq (by decide : (0 : Int32) = (0 : Int32))).1) (by decide) (by decide) k)
    show own_Goes p.tables e below P (s₁.setTop (mkF m 60 #[.val (.long p0), .second, .val (.int p1), .val (.int p2), .val (.int p3), .val (.int p4), .val (.int p5), .val (.int (5 : Int32)), .val (.int (1 : Int32)), .val (.int (0 : Int32)), .val (.int (1 : Int32)), .unset, .unset, .unset, .unset, .unset, .unset, .unset, .unset, .unset, .unset, .unset, .unset] []))
    refine own_Goes.st ?_ (fun _ k => XS.iconst X0.here hx rfl (hb hby at_60) k)
    refine own_Goes.st ?_ (fun _ k => XS.istore X0.here hx rfl (hb hby at_61) rfl (l' := #[.val (.long p0), .second, .val (.int p1), .val (.int p2), .val (.int p3), .val (.int p4), .val (.int p5), .val (.int (5 : Int32)), .val (.int (1 : Int32)), .val (.int (0 : Int32)), .val (.int (1 : Int32)), .val (.int (0 : Int32)), .unset, .unset, .unset, .unset, .unset, .unset, .unset, .unset, .unset, .unset, .unset]) rfl k)
    refine own_Goes.st ?_ (fun _ k => XS.iload X0.here hx rfl (hb hby at_63) rfl k)
    refine own_Goes.st ?_ (fun _ k => XS.iconst X0.here hx rfl (hb hby at_65) k)
    refine own_Goes.st ?_ (fun _ k => XS.iand X0.here hx rfl (hb hby at_66) rfl k)
    refine own_Goes.st ?_ (fun _ k => XS.iload X0.here hx rfl (hb hby at_67) rfl k)
    show own_Goes p.tables e below P (s₁.setTop (mkF m 69 #[.val (.long p0), .second, .val (.int p1), .val (.int p2), .val (.int p3), .val (.int p4), .val (.int p5), .val (.int (5 : Int32)), .val (.int (1 : Int32)), .val (.int (0 : Int32)), .val (.int (1 : Int32)), .val (.int (0 : Int32)), .unset, .unset, .unset, .unset, .unset, .unset, .unset, .unset, .unset, .unset, .unset] [(.int (5 : Int32)), (.int (1 : Int32))]))
    refine own_Goes.st ?_ (fun _ k => XS.iconst X0.here hx rfl (hb hby at_69) k)
    refine own_Goes.st ?_ (fun _ k => XS.ishr X0.here hx rfl (hb hby at_70) rfl k)
    refine own_Goes.st ?_ (fun _ k => XS.iconst X0.here hx rfl (hb hby at_71) k)
    refine own_Goes.st ?_ (fun _ k => XS.iand X0.here hx rfl (hb hby at_72) rfl k)
    refine own_Goes.st ?_ (fun _ k => XS.iadd X0.here hx rfl (hb hby at_73) rfl k)
    refine own_Goes.st ?_ (fun _ k => XS.iload X0.here hx rfl (hb hby at_74) rfl k)
    show own_Goes p.tables e below P (s₁.setTop (mkF m 76 #[.val (.long p0), .second, .val (.int p1), .val (.int p2), .val (.int p3), .val (.int p4), .val (.int p5), .val (.int (5 : Int32)), .val (.int (1 : Int32)), .val (.int (0 : Int32)), .val (.int (1 : Int32)), .val (.int (0 : Int32)), .unset, .unset, .unset, .unset, .unset, .unset, .unset, .unset, .unset, .unset, .unset] [(.int (5 : Int32)), (.int (1 : Int32))]))
    refine own_Goes.st ?_ (fun _ k => XS.iconst X0.here hx rfl (hb hby at_76) k)
    refine own_Goes.st ?_ (fun _ k => XS.ishr X0.here hx rfl (hb hby at_77) rfl k)
    refine own_Goes.st ?_ (fun _ k => XS.iconst X0.here hx rfl (hb hby at_78) k)
    refine own_Goes.st ?_ (fun _ k => XS.iand X0.here hx rfl (hb hby at_79) rfl k)
    refine own_Goes.st ?_ (fun _ k => XS.iadd X0.here hx rfl (hb hby at_80) rfl k)
    refine own_Goes.st ?_ (fun _ k => XS.iload X0.here hx rfl (hb hby at_81) rfl k)
    show own_Goes p.tables e below P (s₁.setTop (mkF m 83 #[.val (.long p0), .second, .val (.int p1), .val (.int p2), .val (.int p3), .val (.int p4), .val (.int p5), .val (.int (5 : Int32)), .val (.int (1 : Int32)), .val (.int (0 : Int32)), .val (.int (1 : Int32)), .val (.int (0 : Int32)), .unset, .unset, .unset, .unset, .unset, .unset, .unset, .unset, .unset, .unset, .unset] [(.int (5 : Int32)), (.int (2 : Int32))]))
    refine own_Goes.st ?_ (fun _ k => XS.iconst X0.here hx rfl (hb hby at_83) k)
    refine own_Goes.st ?_ (fun _ k => XS.ishr X0.here hx rfl (hb hby at_84) rfl k)
    refine own_Goes.st ?_ (fun _ k => XS.iconst X0.here hx rfl (hb hby at_85) k)
    refine own_Goes.st ?_ (fun _ k => XS.iand X0.here hx rfl (hb hby at_86) rfl k)
    refine own_Goes.st ?_ (fun _ k => XS.iadd X0.here hx rfl (hb hby at_87) rfl k)
    refine own_Goes.st ?_ (fun _ k => XS.istore X0.here hx rfl (hb hby at_88) rfl (l' := #[.val (.long p0), .second, .val (.int p1), .val (.int p2), .val (.int p3), .val (.int p4), .val (.int p5), .val (.int (5 : Int32)), .val (.int (1 : Int32)), .val (.int (0 : Int32)), .val (.int (1 : Int32)), .val (.int (0 : Int32)), .val (.int (2 : Int32)), .unset, .unset, .unset, .unset, .unset, .unset, .unset, .unset, .unset, .unset]) rfl k)
    show own_Goes p.tables e below P (s₁.setTop (mkF m 90 #[.val (.long p0), .second, .val (.int p1), .val (.int p2), .val (.int p3), .val (.int p4), .val (.int p5), .val (.int (5 : Int32)), .val (.int (1 : Int32)), .val (.int (0 : Int32)), .val (.int (1 : Int32)), .val (.int (0 : Int32)), .val (.int (2 : Int32)), .unset, .unset, .unset, .unset, .unset, .unset, .unset, .unset, .unset, .unset] []))
    refine own_Goes.st ?_ (fun _ k => XS.iload X0.here hx rfl (hb hby at_90) rfl k)
    obtain ⟨T251, h251, k251, X251, e251, E251, A251, J251, st251⟩ := newPE X0 hx hZ (hw _ (List.mem_of_getElem? (i := 0) rfl)) e0 (g := (mkF m 92 #[.val (.long p0), .second, .val (.int p1), .val (.int p2), .val (.int p3), .val (.int p4), .val (.int p5), .val (.int (5 : Int32)), .val (.int (1 : Int32)), .val (.int (0 : Int32)), .val (.int (1 : Int32)), .val (.int (0 : Int32)), .val (.int (2 : Int32)), .unset, .unset, .unset, .unset, .unset, .unset, .unset, .unset, .unset, .unset] [(.int (2 : Int32))])) rfl (hb hby at_92) rfl (by decide) (cap := 4) (by decide) (by decide) (by decide) (by decide) (ad := "[I") rfl
    obtain ⟨b251, g251⟩ : ∃ z, z = h0.size := ⟨_, rfl⟩
    rw [← g251] at A251 J251 st251
    have ge_b251 : n0 ≤ b251 := Nat.le_trans Z0 (Nat.le_of_eq g251.symm)
    refine own_Goes.st ?_ st251
    have Z252 : n0 ≤ h251.size := Nat.le_trans Z0 E251.1
    have V253 : Arv Z h251 b251 k251 .int (2 : Int32) [(.int (0 : Int32)), (.int (0 : Int32))] (.int 0) := (Arv.new A251 (by decide)).pad (pad_rep [] _ 2)
    show own_Goes p.tables e below P (T251.setTop (mkF m 94 #[.val (.long p0), .second, .val (.int p1), .val (.int p2), .val (.int p3), .val (.int p4), .val (.int p5), .val (.int (5 : Int32)), .val (.int (1 : Int32)), .val (.int (0 : Int32)), .val (.int (1 : Int32)), .val (.int (0 : Int32)), .val (.int (2 : Int32)), .unset, .unset, .unset, .unset, .unset, .unset, .unset, .unset, .unset, .unset] [(.ref b251)]))
    refine own_Goes.st ?_ (fun _ k => XS.astore X251.here hx rfl (hb hby at_94) rfl rfl (l' := #[.val (.long p0), .second, .val (.int p1), .val (.int p2), .val (.int p3), .val (.int p4), .val (.int p5), .val (.int (5 : Int32)), .val (.int (1 : Int32)), .val (.int (0 : Int32)), .val (.int (1 : Int32)), .val (.int (0 : Int32)), .val (.int (2 : Int32)), .val (.ref b251), .unset, .unset, .unset, .unset, .unset, .unset, .unset, .unset, .unset]) rfl k)
    refine own_Goes.st ?_ (fun _ k => XS.iconst X251.here hx rfl (hb hby at_96) k)
    refine own_Goes.st ?_ (fun _ k => XS.istore X251.here hx rfl (hb hby at_97) rfl (l' := #[.val (.long p0), .second, .val (.int p1), .val (.int p2), .val (.int p3), .val (.int p4), .val (.int p5), .val (.int (5 : Int32)), .val (.int (1 : Int32)), .val (.int (0 : Int32)), .val (.int (1 : Int32)), .val (.int (0 : Int32)), .val (.int (2 : Int32)), .val (.ref b251), .val (.int (0 : Int32)), .unset, .unset, .unset, .unset, .unset, .unset, .unset, .unset]) rfl k)
    refine own_Goes.st ?_ (fun _ k => XS.iload X251.here hx rfl (hb hby at_99) rfl k)
    refine own_Goes.st ?_ (fun _ k => XS.ifNo X251.here hx rfl (hb hby at_101) rfl ((if0 _ _).trans (feq (by decide : ¬ ((1 : Int32) = (0 : Int32)))).1) k)
    refine own_Goes.st ?_ (fun _ k => XS.aload X251.here hx rfl (hb hby at_104) rfl rfl k)
    show own_Goes p.tables e below P (T251.setTop (mkF m 106 #[.val (.long p0), .second, .val (.int p1), .val (.int p2), .val (.int p3), .val (.int p4), .val (.int p5), .val (.int (5 : Int32)), .val (.int (1 : Int32)), .val (.int (0 : Int32)), .val (.int (1 : Int32)), .val (.int (0 : Int32)), .val (.int (2 : Int32)), .val (.ref b251), .val (.int (0 : Int32)), .unset, .unset, .unset, .unset, .unset, .unset, .unset, .unset] [(.ref b251)]))
    refine own_Goes.st ?_ (fun _ k => XS.iload X251.here hx rfl (hb hby at_106) rfl k)
    refine own_Goes.st ?_ (fun _ k => XS.iconst X251.here hx rfl (hb hby at_108) k)
    have Vc254 := V253
    obtain ⟨cl254, Ar254, qc254, S254, Nn254, Hs254, Gs254⟩ := Vc254
    have hin255 : ¬ ((0 : Int32) < 0 ∨ cl254.slots.size ≤ ((0 : Int32)).toNatClampNeg) := inb_of S254 ⟨by decide, by decide⟩
    obtain ⟨T255, h255, X255, e255, W255, st255⟩ := stI X251 hx hZ e251 Ar254 (j := (0 : Int32)) hin255 (g := (mkF m 109 #[.val (.long p0), .second, .val (.int p1), .val (.int p2), .val (.int p3), .val (.int p4), .val (.int p5), .val (.int (5 : Int32)), .val (.int (1 : Int32)), .val (.int (0 : Int32)), .val (.int (1 : Int32)), .val (.int (0 : Int32)), .val (.int (2 : Int32)), .val (.ref b251), .val (.int (0 : Int32)), .unset, .unset, .unset, .unset, .unset, .unset, .unset, .unset] [(.int (0 : Int32)), (.int (0 : Int32)), (.ref b251)])) rfl rfl (hb hby at_109)
    refine own_Goes.st ?_ st255
    have V256 : Arv Z h255 b251 k251 .int (2 : Int32) [(.int (0 : Int32)), (.int (0 : Int32))] (.int 0) := Arv.set Ar254 qc254 S254 Nn254 Hs254 Gs254 rfl W255 0 rfl (Nat.le_of_ble_eq_true rfl)
    have Z257 : n0 ≤ h255.size := by rw [W255.size]; exact Z252
    have N258 := Fr.snoc X255 N0 ge_b251
    show own_Goes p.tables e below P (T255.setTop (mkF m 110 #[.val (.long p0), .second, .val (.int p1), .val (.int p2), .val (.int p3), .val (.int p4), .val (.int p5), .val (.int (5 : Int32)), .val (.int (1 : Int32)), .val (.int (0 : Int32)), .val (.int (1 : Int32)), .val (.int (0 : Int32)), .val (.int (2 : Int32)), .val (.ref b251), .val (.int (0 : Int32)), .unset, .unset, .unset, .unset, .unset, .unset, .unset, .unset] []))
    refine own_Goes.st ?_ (fun _ k => XS.iinc X255.here hx rfl (hb hby at_110) rfl (l' := #[.val (.long p0), .second, .val (.int p1), .val (.int p2), .val (.int p3), .val (.int p4), .val (.int p5), .val (.int (5 : Int32)), .val (.int (1 : Int32)), .val (.int (0 : Int32)), .val (.int (1 : Int32)), .val (.int (0 : Int32)), .val (.int (2 : Int32)), .val (.ref b251), .val (.int (1 : Int32)), .unset, .unset, .unset, .unset, .unset, .unset, .unset, .unset]) rfl k)
    refine own_Goes.st ?_ (fun _ k => XS.iload X255.here hx rfl (hb hby at_113) rfl k)
    refine own_Goes.st ?_ (fun _ k => XS.ifYes X255.here hx rfl (pc0 := 115) (pc' := 127) rfl (hb hby at_115) rfl ((if0 _ _).trans (teq (by decide : (0 : Int32) = (0 : Int32))).1) (by decide) (by decide) k)
    refine own_Goes.st ?_ (fun _ k => XS.iload X255.here hx rfl (hb hby at_127) rfl k)
    refine own_Goes.st ?_ (fun _ k => XS.ifNo X255.here hx rfl (hb hby at_129) rfl ((if0 _ _).trans (feq (by decide : ¬ ((1 : Int32) = (0 : Int32)))).1) k)
    refine own_Goes.st ?_ (fun _ k => XS.aload X255.here hx rfl (hb hby at_132) rfl rfl k)
    show own_Goes p.tables e below P (T255.setTop (mkF m 134 #[.val (.long p0), .second, .val (.int p1), .val (.int p2), .val (.int p3), .val (.int p4), .val (.int p5), .val (.int (5 : Int32)), .val (.int (1 : Int32)), .val (.int (0 : Int32)), .val (.int (1 : Int32)), .val (.int (0 : Int32)), .val (.int (2 : Int32)), .val (.ref b251), .val (.int (1 : Int32)), .unset, .unset, .unset, .unset, .unset, .unset, .unset, .unset] [(.ref b251)]))
    refine own_Goes.st ?_ (fun _ k => XS.iload X255.here hx rfl (hb hby at_134) rfl k)
    refine own_Goes.st ?_ (fun _ k => XS.iconst X255.here hx rfl (hb hby at_136) k)
    have Vc259 := V256
    obtain ⟨cl259, Ar259, qc259, S259, Nn259, Hs259, Gs259⟩ := Vc259
    have hin260 : ¬ ((1 : Int32) < 0 ∨ cl259.slots.size ≤ ((1 : Int32)).toNatClampNeg) := inb_of S259 ⟨by decide, by decide⟩
    obtain ⟨T260, h260, X260, e260, W260, st260⟩ := stI X255 hx hZ e255 Ar259 (j := (1 : Int32)) hin260 (g := (mkF m 137 #[.val (.long p0), .second, .val (.int p1), .val (.int p2), .val (.int p3), .val (.int p4), .val (.int p5), .val (.int (5 : Int32)), .val (.int (1 : Int32)), .val (.int (0 : Int32)), .val (.int (1 : Int32)), .val (.int (0 : Int32)), .val (.int (2 : Int32)), .val (.ref b251), .val (.int (1 : Int32)), .unset, .unset, .unset, .unset, .unset, .unset, .unset, .unset] [(.int (2 : Int32)), (.int (1 : Int32)), (.ref b251)])) rfl rfl (hb hby at_137)
    refine own_Goes.st ?_ st260
    have V261 : Arv Z h260 b251 k251 .int (2 : Int32) [(.int (0 : Int32)), (.int (2 : Int32))] (.int 0) := Arv.set Ar259 qc259 S259 Nn259 Hs259 Gs259 rfl W260 1 rfl (Nat.le_of_ble_eq_true rfl)
    have Z262 : n0 ≤ h260.size := by rw [W260.size]; exact Z257
    have N263 := Fr.snoc X260 N258 ge_b251
    show own_Goes p.tables e below P (T260.setTop (mkF m 138 #[.val (.long p0), .second, .val (.int p1), .val (.int p2), .val (.int p3), .val (.int p4), .val (.int p5), .val (.int (5 : Int32)), .val (.int (1 : Int32)), .val (.int (0 : Int32)), .val (.int (1 : Int32)), .val (.int (0 : Int32)), .val (.int (2 : Int32)), .val (.ref b251), .val (.int (1 : Int32)), .unset, .unset, .unset, .unset, .unset, .unset, .unset, .unset] []))
    refine own_Goes.st ?_ (fun _ k => XS.iinc X260.here hx rfl (hb hby at_138) rfl (l' := #[.val (.long p0), .second, .val (.int p1), .val (.int p2), .val (.int p3), .val (.int p4), .val (.int p5), .val (.int (5 : Int32)), .val (.int (1 : Int32)), .val (.int (0 : Int32)), .val (.int (1 : Int32)), .val (.int (0 : Int32)), .val (.int (2 : Int32)), .val (.ref b251), .val (.int (2 : Int32)), .unset, .unset, .unset, .unset, .unset, .unset, .unset, .unset]) rfl k)
    refine own_Goes.st ?_ (fun _ k => XS.iload X260.here hx rfl (hb hby at_141) rfl k)
    refine own_Goes.st ?_ (fun _ k => XS.ifYes X260.here hx rfl (pc0 := 143) (pc' := 155) rfl (hb hby at_143) rfl ((if0 _ _).trans (teq (by decide : (0 : Int32) = (0 : Int32))).1) (by decide) (by decide) k)
    refine own_Goes.st ?_ (fun _ k => XS.iload X260.here hx rfl (hb hby at_155) rfl k)
    refine own_Goes.st ?_ (fun _ k => XS.ifYes X260.here hx rfl (pc0 := 157) (pc' := 164) rfl (hb hby at_157) rfl ((if0 _ _).trans (feq (by decide : ¬ ((5 : Int32) = (0 : Int32)))).2) (by decide) (by decide) k)
    refine own_Goes.st ?_ (fun _ k => XS.lloadN X260.here hx rfl (hb hby at_164) rfl k)
    show own_Goes p.tables e below P (T260.setTop (mkF m 165 #[.val (.long p0), .second, .val (.int p1), .val (.int p2), .val (.int p3), .val (.int p4), .val (.int p5), .val (.int (5 : Int32)), .val (.int (1 : Int32)), .val (.int (0 : Int32)), .val (.int (1 : Int32)), .val (.int (0 : Int32)), .val (.int (2 : Int32)), .val (.ref b251), .val (.int (2 : Int32)), .unset, .unset, .unset, .unset, .unset, .unset, .unset, .unset] [(.long p0)]))
    refine own_Goes.st ?_ (fun _ k => XS.bipush X260.here hx rfl (hb hby at_165) k)
    refine own_Goes.st ?_ (fun _ k => XS.lshr X260.here hx rfl (hb hby at_167) rfl k)
    refine own_Goes.st ?_ (fun _ k => XS.lstore X260.here hx rfl (hb hby at_168) rfl (l' := #[.val (.long p0), .second, .val (.int p1), .val (.int p2), .val (.int p3), .val (.int p4), .val (.int p5), .val (.int (5 : Int32)), .val (.int (1 : Int32)), .val (.int (0 : Int32)), .val (.int (1 : Int32)), .val (.int (0 : Int32)), .val (.int (2 : Int32)), .val (.ref b251), .val (.int (2 : Int32)), .val (.long (p0 >>> ((14 : Int32) &&& 0x3f).toInt64)), .second, .unset, .unset, .unset, .unset, .unset, .unset]) rfl k)
    exact T2n _ _ X260 _ e260 N263 Z262 b251 k251 _ _ _ _ _ _ _ _ V261 (own_sh14 p0) (by decide) (by decide) rfl
  · skip
    show own_Goes p.tables e below P (s₁.setTop (mkF m 6 #[.val (.long p0), .second, .val (.int p1), .val (.int p2), .val (.int p3), .val (.int p4), .val (.int p5), .val (.int (6 : Int32)), .unset, .unset, .unset, .unset, .unset, .unset, .unset, .unset, .unset, .unset, .unset, .unset, .unset, .unset, .unset] []))
    refine own_Goes.st ?_ (fun _ k => XS.iload X0.here hx rfl (hb hby at_6) rfl k)
    refine own_Goes.st ?_ (fun _ k => XS.iconst X0.here hx rfl (hb hby at_8) k)
    refine own_Goes.st ?_ (fun _ k => XS.iand X0.here hx rfl (hb hby at_9) rfl k)
    refine own_Goes.st ?_ (fun _ k => XS.ifYes X0.here hx rfl (pc0 := 10) (pc' := 17) rfl (hb hby at_10) rfl ((if0 _ _).trans (teq (by decide : (0 : Int32) = (0 : Int32))).1) (by decide) (by decide) k)
    refine own_Goes.st ?_ (fun _ k => XS.iconst X0.here hx rfl (hb hby at_17) k)
    refine own_Goes.st ?_ (fun _ k => XS.istore X0.here hx rfl (hb hby at_18) rfl (l' := #[.val (.long p0), .second, .val (.int p1), .val (.int p2), .val (.int p3), .val (.int p4), .val (.int p5), .val (.int (6 : Int32)), .val (.int (0 : Int32)), .unset, .unset, .unset, .unset, .unset, .unset, .unset, .unset, .unset, .unset, .unset, .unset, .unset, .unset]) rfl k)
    show own_Goes p.tables e below P (s₁.setTop (mkF m 20 #[.val (.long p0), .second, .val (.int p1), .val (.int p2), .val (.int p3), .val (.int p4), .val (.int p5), .val (.int (6 : Int32)), .val (.int (0 : Int32)), .unset, .unset, .unset, .unset, .unset, .unset, .unset, .unset, .unset, .unset, .unset, .unset, .unset, .unset] []))
    refine own_Goes.st ?_ (fun _ k => XS.iload X0.here hx rfl (hb hby at_20) rfl k)
    refine own_Goes.st ?_ (fun _ k => XS.iconst X0.here hx rfl (hb hby at_22) k)
    refine own_Goes.st ?_ (fun _ k => XS.iand X0.here hx rfl (hb hby at_23) rfl k)
    refine own_Goes.st ?_ (fun _ k => XS.ifNo X0.here hx rfl (hb hby at_24) rfl ((if0 _ _).trans (feq (by decide : ¬ ((2 : Int32) = (0 : Int32)))).1) k)
    refine own_Goes.st ?_ (fun _ k => XS.iconst X0.here hx rfl (hb hby at_27) k)
    refine own_Goes.st ?_ (fun _ k => XS.goto X0.here hx rfl (pc0 := 28) (pc' := 32) rfl (hb hby at_28) (by decide) (by decide) k)
    show own_Goes p.tables e below P (s₁.setTop (mkF m 32 #[.val (.long p0), .second, .val (.int p1), .val (.int p2), .val (.int p3), .val (.int p4), .val (.int p5), .val (.int (6 : Int32)), .val (.int (0 : Int32)), .unset, .unset, .unset, .unset, .unset, .unset, .unset, .unset, .unset, .unset, .unset, .unset, .unset, .unset] [(.int (1 : Int32))]))
    refine own_Goes.st ?_ (fun _ k => XS.istore X0.here hx rfl (hb hby at_32) rfl (l' := #[.val (.long p0), .second, .val (.int p1), .val (.int p2), .val (.int p3), .val (.int p4), .val (.int p5), .val (.int (6 : Int32)), .val (.int (0 : Int32)), .val (.int (1 : Int32)), .unset, .unset, .unset, .unset, .unset, .unset, .unset, .unset, .unset, .unset, .unset, .unset, .unset]) rfl k)
    refine own_Goes.st ?_ (fun _ k => XS.iload X0.here hx rfl (hb hby at_34) rfl k)
    refine own_Goes.st ?_ (fun _ k => XS.iconst X0.here hx rfl (hb hby at_36) k)
    refine own_Goes.st ?_ (fun _ k => XS.iand X0.here hx rfl (hb hby at_37) rfl k)
    refine own_Goes.st ?_ (fun _ k => XS.ifNo X0.here hx rfl (hb hby at_38) rfl ((if0 _ _).trans (feq (by decide : ¬ ((4 : Int32) = (0 : Int32)))).1) k)
    refine own_Goes.st ?_ (fun _ k => XS.iconst X0.here hx rfl (hb hby at_41) k)
    show own_Goes p.tables e below P (s₁.setTop (mkF m 42 #[.val (.long p0), .second, .val (.int p1), .val (.int p2), .val (.int p3), .val (.int p4), .val (.int p5), .val (.int (6 : Int32)), .val (.int (0 : Int32)), .val (.int (1 : Int32)), .unset, .unset, .unset, .unset, .unset, .unset, .unset, .unset, .unset, .unset, .unset, .unset, .unset] [(.int (1 : Int32))]))
    refine own_Goes.st ?_ (fun _ k => XS.goto X0.here hx rfl (pc0 := 42) (pc' := 46) rfl (hb hby at_42) (by decide) (by decide) k)
    refine own_Goes.st ?_ (fun _ k => XS.istore X0.here hx rfl (hb hby at_46) rfl (l' := #[.val (.long p0), .second, .val (.int p1), .val (.int p2), .val (.int p3), .val (.int p4), .val (.int p5), .val (.int (6 : Int32)), .val (.int (0 : Int32)), .val (.int (1 : Int32)), .val (.int (1 : Int32)), .unset, .unset, .unset, .unset, .unset, .unset, .unset, .unset, .unset, .unset, .unset, .unset]) rfl k)
    refine own_Goes.st ?_ (fun _ k => XS.iload X0.here hx rfl (hb hby at_48) rfl k)
    refine own_Goes.st ?_ (fun _ k => XS.bipush X0.here hx rfl (hb hby at_50) k)
    refine own_Goes.st ?_ (fun _ k => XS.iand X0.here hx rfl (hb hby at_52) rfl k)
    refine own_Goes.st ?_ (fun _ k => XS.ifYes X0.here hx rfl (pc0 := 53) (pc' := 60) rfl (hb hby at_53) rfl ((if0 _ _).trans (teq (by decide : (0 : Int32) = (0 : Int32))).1) (by decide) (by decide) k)
    show own_Goes p.tables e below P (s₁.setTop (mkF m 60 #[.val (.long p0), .second, .val (.int p1), .val (.int p2), .val (.int p3), .val (.int p4), .val (.int p5), .val (.int (6 : Int32)), .val (.int (0 : Int32)), .val (.int (1 : Int32)), .val (.int (1 : Int32)), .unset, .unset, .unset, .unset, .unset, .unset, .unset, .unset, .unset, .unset, .unset, .unset] []))
    refine own_Goes.st ?_ (fun _ k => XS.iconst X0.here hx rfl (hb hby at_60) k)
    refine own_Goes.st ?_ (fun _ k => XS.istore X0.here hx rfl (hb hby at_61) rfl (l' := #[.val (.long p0), .second, .val (.int p1), .val (.int p2), .val (.int p3), .val (.int p4), .val (.int p5), .val (.int (6 : Int32)), .val (.int (0 : Int32)), .val (.int (1 : Int32)), .val (.int (1 : Int32)), .val (.int (0 : Int32)), .unset, .unset, .unset, .unset, .unset, .unset, .unset, .unset, .unset, .unset, .unset]) rfl k)
    refine own_Goes.st ?_ (fun _ k => XS.iload X0.here hx rfl (hb hby at_63) rfl k)
    refine own_Goes.st ?_ (fun _ k => XS.iconst X0.here hx rfl (hb hby at_65) k)
    refine own_Goes.st ?_ (fun _ k => XS.iand X0.here hx rfl (hb hby at_66) rfl k)
    refine own_Goes.st ?_ (fun _ k => XS.iload X0.here hx rfl (hb hby at_67) rfl k)
    show own_Goes p.tables e below P (s₁.setTop (mkF m 69 #[.val (.long p0), .second, .val (.int p1), .val (.int p2), .val (.int p3), .val (.int p4), .val (.int p5), .val (.int (6 : Int32)), .val (.int (0 : Int32)), .val (.int (1 : Int32)), .val (.int (1 : Int32)), .val (.int (0 : Int32)), .unset, .unset, .unset, .unset, .unset, .unset, .unset, .unset, .unset, .unset, .unset] [(.int (6 : Int32)), (.int (0 : Int32))]))
    refine own_Goes.st ?_ (fun _ k => XS.iconst X0.here hx rfl (hb hby at_69) k)
    refine own_Goes.st ?_ (fun _ k => XS.ishr X0.here hx rfl (hb hby at_70) rfl k)
    refine own_Goes.st ?_ (fun _ k => XS.iconst X0.here hx rfl (hb hby at_71) k)
    refine own_Goes.st ?_ (fun _ k => XS.iand X0.here hx rfl (hb hby at_72) rfl k)
    refine own_Goes.st ?_ (fun _ k => XS.iadd X0.here hx rfl (hb hby at_73) rfl k)
    refine own_Goes.st ?_ (fun _ k => XS.iload X0.here hx rfl (hb hby at_74) rfl k)
    show own_Goes p.tables e below P (s₁.setTop (mkF m 76 #[.val (.long p0), .second, .val (.int p1), .val (.int p2), .val (.int p3), .val (.int p4), .val (.int p5), .val (.int (6 : Int32)), .val (.int (0 : Int32)), .val (.int (1 : Int32)), .val (.int (1 : Int32)), .val (.int (0 : Int32)), .unset, .unset, .unset, .unset, .unset, .unset, .unset, .unset, .unset, .unset, .unset] [(.int (6 : Int32)), (.int (1 : Int32))]))
    refine own_Goes.st ?_ (fun _ k => XS.iconst X0.here hx rfl (hb hby at_76) k)
    refine own_Goes.st ?_ (fun _ k => XS.ishr X0.here hx rfl (hb hby at_77) rfl k)
    refine own_Goes.st ?_ (fun _ k => XS.iconst X0.here hx rfl (hb hby at_78) k)
    refine own_Goes.st ?_ (fun _ k => XS.iand X0.here hx rfl (hb hby at_79) rfl k)
    refine own_Goes.st ?_ (fun _ k => XS.iadd X0.here hx rfl (hb hby at_80) rfl k)
    refine own_Goes.st ?_ (fun _ k => XS.iload X0.here hx rfl (hb hby at_81) rfl k)
    show own_Goes p.tables e below P (s₁.setTop (mkF m 83 #[.val (.long p0), .second, .val (.int p1), .val (.int p2), .val (.int p3), .val (.int p4), .val (.int p5), .val (.int (6 : Int32)), .val (.int (0 : Int32)), .val (.int (1 : Int32)), .val (.int (1 : Int32)), .val (.int (0 : Int32)), .unset, .unset, .unset, .unset, .unset, .unset, .unset, .unset, .unset, .unset, .unset] [(.int (6 : Int32)), (.int (2 : Int32))]))
    refine own_Goes.st ?_ (fun _ k => XS.iconst X0.here hx rfl (hb hby at_83) k)
    refine own_Goes.st ?_ (fun _ k => XS.ishr X0.here hx rfl (hb hby at_84) rfl k)
    refine own_Goes.st ?_ (fun _ k => XS.iconst X0.here hx rfl (hb hby at_85) k)
    refine own_Goes.st ?_ (fun _ k => XS.iand X0.here hx rfl (hb hby at_86) rfl k)
    refine own_Goes.st ?_ (fun _ k => XS.iadd X0.here hx rfl (hb hby at_87) rfl k)
    refine own_Goes.st ?_ (fun _ k => XS.istore X0.here hx rfl (hb hby at_88) rfl (l' := #[.val (.long p0), .second, .val (.int p1), .val (.int p2), .val (.int p3), .val (.int p4), .val (.int p5), .val (.int (6 : Int32)), .val (.int (0 : Int32)), .val (.int (1 : Int32)), .val (.int (1 : Int32)), .val (.int (0 : Int32)), .val (.int (2 : Int32)), .unset, .unset, .unset, .unset, .unset, .unset, .unset, .unset, .unset, .unset]) rfl k)
    show own_Goes p.tables e below P (s₁.setTop (mkF m 90 #[.val (.long p0), .second, .val (.int p1), .val (.int p2), .val (.int p3), .val (.int p4), .val (.int p5), .val (.int (6 : Int32)), .val (.int (0 : Int32)), .val (.int (1 : Int32)), .val (.int (1 : Int32)), .val (.int (0 : Int32)), .val (.int (2 : Int32)), .unset, .unset, .unset, .unset, .unset, .unset, .unset, .unset, .unset, .unset] []))
    refine own_Goes.st ?_ (fun _ k => XS.iload X0.here hx rfl (hb hby at_90) rfl k)
    obtain ⟨T264, h264, k264, X264, e264, E264, A264, J264, st264⟩ := newPE X0 hx hZ (hw _ (List.mem_of_getElem? (i := 0) rfl)) e0 (g := (mkF m 92 #[.val (.long p0), .second, .val (.int p1), .val (.int p2), .val (.int p3), .val (.int p4), .val (.int p5), .val (.int (6 : Int32)), .val (.int (0 : Int32)), .val (.int (1 : Int32)), .val (.int (1 : Int32)), .val (.int (0 : Int32)), .val (.int (2 : Int32)), .unset, .unset, .unset, .unset, .unset, .unset, .unset, .unset, .unset, .unset] [(.int (2 : Int32))])) rfl (hb hby at_92) rfl (by decide) (cap := 4) (by decide) (by decide) (by decide) (by decide) (ad := "[I") rfl
    obtain ⟨b264, g264⟩ : ∃ z, z = h0.size := ⟨_, rfl⟩
    rw [← g264] at A264 J264 st264
    have ge_b264 : n0 ≤ b264 := Nat.le_trans Z0 (Nat.le_of_eq g264.symm)
    refine own_Goes.st ?_ st264
    have Z265 : n0 ≤ h264.size := Nat.le_trans Z0 E264.1
    have V266 : Arv Z h264 b264 k264 .int (2 : Int32) [(.int (0 : Int32)), (.int (0 : Int32))] (.int 0) := (Arv.new A264 (by decide)).pad (pad_rep [] _ 2)
    show own_Goes p.tables e below P (T264.setTop (mkF m 94 #[.val (.long p0), .second, .val (.int p1), .val (.int p2), .val (.int p3), .val (.int p4), .val (.int p5), .val (.int (6 : Int32)), .val (.int (0 : Int32)), .val (.int (1 : Int32)), .val (.int (1 : Int32)), .val (.int (0 : Int32)), .val (.int (2 : Int32)), .unset, .unset, .unset, .unset, .unset, .unset, .unset, .unset, .unset, .unset] [(.ref b264)]))
    refine own_Goes.st ?_ (fun _ k => XS.astore X264.here hx rfl (hb hby at_94) rfl rfl (l' := #[.val (.long p0), .second, .val (.int p1), .val (.int p2), .val (.int p3), .val (.int p4), .val (.int p5), .val (.int (6 : Int32)), .val (.int (0 : Int32)), .val (.int (1 : Int32)), .val (.int (1 : Int32)), .val (.int (0 : Int32)), .val (.int (2 : Int32)), .val (.ref b264), .unset, .unset, .unset, .unset, .unset, .unset, .unset, .unset, .unset]) rfl k)
    refine own_Goes.st ?_ (fun _ k => XS.iconst X264.here hx rfl (hb hby at_96) k)
    refine own_Goes.st ?_ (fun _ k => XS.istore X264.here hx rfl (hb hby at_97) rfl (l' := #[.val (.long p0), .second, .val (.int p1), .val (.int p2), .val (.int p3), .val (.int p4), .val (.int p5), .val (.int (6 : Int32)), .val (.int (0 : Int32)), .val (.int (1 : Int32)), .val (.int (1 : Int32)), .val (.int (0 : Int32)), .val (.int (2 : Int32)), .val (.ref b264), .val (.int (0 : Int32)), .unset, .unset, .unset, .unset, .unset, .unset, .unset, .unset]) rfl k)
    refine own_Goes.st ?_ (fun _ k => XS.iload X264.here hx rfl (hb hby at_99) rfl k)
    refine own_Goes.st ?_ (fun _ k => XS.ifYes X264.here hx rfl (pc0 := 101) (pc' := 113) rfl (hb hby at_101) rfl ((if0 _ _).trans (teq (by decide : (0 : Int32) = (0 : Int32))).1) (by decide) (by decide) k)
    refine own_Goes.st ?_ (fun _ k => XS.iload X264.here hx rfl (hb hby at_113) rfl k)
    show own_Goes p.tables e below P (T264.setTop (mkF m 115 #[.val (.long p0), .second, .val (.int p1), .val (.int p2), .val (.int p3), .val (.int p4), .val (.int p5), .val (.int (6 : Int32)), .val (.int (0 : Int32)), .val (.int (1 : Int32)), .val (.int (1 : Int32)), .val (.int (0 : Int32)), .val (.int (2 : Int32)), .val (.ref b264), .val (.int (0 : Int32)), .unset, .unset, .unset, .unset, .unset, .unset, .unset, .unset] [(.int (1 : Int32))]))
    refine own_Goes.st ?_ (fun _ k => XS.ifNo X264.here hx rfl (hb hby at_115) rfl ((if0 _ _).trans (feq (by decide : ¬ ((1 : Int32) = (0 : Int32)))).1) k)
    refine own_Goes.st ?_ (fun _ k => XS.aload X264.here hx rfl (hb hby at_118) rfl rfl k)
    refine own_Goes.st ?_ (fun _ k => XS.iload X264.here hx rfl (hb hby at_120) rfl k)
    refine own_Goes.st ?_ (fun _ k => XS.iconst X264.here hx rfl (hb hby at_122) k)
    have Vc267 := V266
    obtain ⟨cl267, Ar267, qc267, S267, Nn267, Hs267, Gs267⟩ := Vc267
    have hin268 : ¬ ((0 : Int32) < 0 ∨ cl267.slots.size ≤ ((0 : Int32)).toNatClampNeg) := inb_of S267 ⟨by decide, by decide⟩
    obtain ⟨T268, h268, X268, e268, W268, st268⟩ := stI X264 hx hZ e264 Ar267 (j := (0 : Int32)) hin268 (g := (mkF m 123 #[.val (.long p0), .second, .val (.int p1), .val (.int p2), .val (.int p3), .val (.int p4), .val (.int p5), .val (.int (6 : Int32)), .val (.int (0 : Int32)), .val (.int (1 : Int32)), .val (.int (1 : Int32)), .val (.int (0 : Int32)), .val (.int (2 : Int32)), .val (.ref b264), .val (.int (0 : Int32)), .unset, .unset, .unset, .unset, .unset, .unset, .unset, .unset] [(.int (1 : Int32)), (.int (0 : Int32)), (.ref b264)])) rfl rfl (hb hby at_123)
    refine own_Goes.st ?_ st268
    have V269 : Arv Z h268 b264 k264 .int (2 : Int32) [(.int (1 : Int32)), (.int (0 : Int32))] (.int 0) := Arv.set Ar267 qc267 S267 Nn267 Hs267 Gs267 rfl W268 0 rfl (Nat.le_of_ble_eq_true rfl)
    have Z270 : n0 ≤ h268.size := by rw [W268.size]; exact Z265
    have N271 := Fr.snoc X268 N0 ge_b264
    show own_Goes p.tables e below P (T268.setTop (mkF m 124 #[.val (.long p0), .second, .val (.int p1), .val (.int p2), .val (.int p3), .val (.int p4), .val (.int p5), .val (.int (6 : Int32)), .val (.int (0 : Int32)), .val (.int (1 : Int32)), .val (.int (1 : Int32)), .val (.int (0 : Int32)), .val (.int (2 : Int32)), .val (.ref b264), .val (.int (0 : Int32)), .unset, .unset, .unset, .unset, .unset, .unset, .unset, .unset] []))
    refine own_Goes.st ?_ (fun _ k => XS.iinc X268.here hx rfl (hb hby at_124) rfl (l' := #[.val (.long p0), .second, .val (.int p1), .val (.int p2), .val (.int p3), .val (.int p4), .val (.int p5), .val (.int (6 : Int32)), .val (.int (0 : Int32)), .val (.int (1 : Int32)), .val (.int (1 : Int32)), .val (.int (0 : Int32)), .val (.int (2 : Int32)), .val (.ref b264), .val (.int (1 : Int32)), .unset, .unset, .unset, .unset, .unset, .unset, .unset, .unset]) rfl k)
    refine own_Goes.st ?_ (fun _ k => XS.iload X268.here hx rfl (hb hby at_127) rfl k)
    refine own_Goes.st ?_ (fun _ k => XS.ifNo X268.here hx rfl (hb hby at_129) rfl ((if0 _ _).trans (feq (by decide : ¬ ((1 : Int32) = (0 : Int32)))).1) k)
    refine own_Goes.st ?_ (fun _ k => XS.aload X268.here hx rfl (hb hby at_132) rfl rfl k)
    refine own_Goes.st ?_ (fun _ k => XS.iload X268.here hx rfl (hb hby at_134) rfl k)
    refine own_Goes.st ?_ (fun _ k => XS.iconst X268.here hx rfl (hb hby at_136) k)
    show own_Goes p.tables e below P (T268.setTop (mkF m 137 #[.val (.long p0), .second, .val (.int p1), .val (.int p2), .val (.int p3), .val (.int p4), .val (.int p5), .val (.int (6 : Int32)), .val (.int (0 : Int32)), .val (.int (1 : Int32)), .val (.int (1 : Int32)), .val (.int (0 : Int32)), .val (.int (2 : Int32)), .val (.ref b264), .val (.int (1 : Int32)), .unset, .unset, .unset, .unset, .unset, .unset, .unset, .unset] [(.int (2 : Int32)), (.int (1 : Int32)), (.ref b264)]))
    have Vc272 := V269
    obtain ⟨cl272, Ar272, qc272, S272, Nn272, Hs272, Gs272⟩ := Vc272
    have hin273 : ¬ ((1 : Int32) < 0 ∨ cl272.slots.size ≤ ((1 : Int32)).toNatClampNeg) := inb_of S272 ⟨by decide, by decide⟩
    obtain ⟨T273, h273, X273, e273, W273, st273⟩ := stI X268 hx hZ e268 Ar272 (j := (1 : Int32)) hin273 (g := (mkF m 137 #[.val (.long p0), .second, .val (.int p1), .val (.int p2), .val (.int p3), .val (.int p4), .val (.int p5), .val (.int (6 : Int32)), .val (.int (0 : Int32)), .val (.int (1 : Int32)), .val (.int (1 : Int32)), .val (.int (0 : Int32)), .val (.int (2 : Int32)), .val (.ref b264), .val (.int (1 : Int32)), .unset, .unset, .unset, .unset, .unset, .unset, .unset, .unset] [(.int (2 : Int32)), (.int (1 : Int32)), (.ref b264)])) rfl rfl (hb hby at_137)
    refine own_Goes.st ?_ st273
    have V274 : Arv Z h273 b264 k264 .int (2 : Int32) [(.int (1 : Int32)), (.int (2 : Int32))] (.int 0) := Arv.set Ar272 qc272 S272 Nn272 Hs272 Gs272 rfl W273 1 rfl (Nat.le_of_ble_eq_true rfl)
    have Z275 : n0 ≤ h273.size := by rw [W273.size]; exact Z270
    have N276 := Fr.snoc X273 N271 ge_b264
    show own_Goes p.tables e below P (T273.setTop (mkF m 138 #[.val (.long p0), .second, .val (.int p1), .val (.int p2), .val (.int p3), .val (.int p4), .val (.int p5), .val (.int (6 : Int32)), .val (.int (0 : Int32)), .val (.int (1 : Int32)), .val (.int (1 : Int32)), .val (.int (0 : Int32)), .val (.int (2 : Int32)), .val (.ref b264), .val (.int (1 : Int32)), .unset, .unset, .unset, .unset, .unset, .unset, .unset, .unset] []))
    refine own_Goes.st ?_ (fun _ k => XS.iinc X273.here hx rfl (hb hby at_138) rfl (l' := #[.val (.long p0), .second, .val (.int p1), .val (.int p2), .val (.int p3), .val (.int p4), .val (.int p5), .val (.int (6 : Int32)), .val (.int (0 : Int32)), .val (.int (1 : Int32)), .val (.int (1 : Int32)), .val (.int (0 : Int32)), .val (.int (2 : Int32)), .val (.ref b264), .val (.int (2 : Int32)), .unset, .unset, .unset, .unset, .unset, .unset, .unset, .unset]) rfl k)
    refine own_Goes.st ?_ (fun _ k => XS.iload X273.here hx rfl (hb hby at_141) rfl k)
    refine own_Goes.st ?_ (fun _ k => XS.ifYes X273.here hx rfl (pc0 := 143) (pc' := 155) rfl (hb hby at_143) rfl ((if0 _ _).trans (teq (by decide : (0 : Int32) = (0 : Int32))).1) (by decide) (by decide) k)
    refine own_Goes.st ?_ (fun _ k => XS.iload X273.here hx rfl (hb hby at_155) rfl k)
    refine own_Goes.st ?_ (fun _ k => XS.ifYes X273.here hx rfl (pc0 := 157) (pc' := 164) rfl (hb hby at_157) rfl ((if0 _ _).trans (feq (by decide : ¬ ((6 : Int32) = (0 : Int32)))).2) (by decide) (by decide) k)
    refine own_Goes.st ?_ (fun _ k => XS.lloadN X273.here hx rfl (hb hby at_164) rfl k)
    show own_Goes p.tables e below P (T273.setTop (mkF m 165 #[.val (.long p0), .second, .val (.int p1), .val (.int p2), .val (.int p3), .val (.int p4), .val (.int p5), .val (.int (6 : Int32)), .val (.int (0 : Int32)), .val (.int (1 : Int32)), .val (.int (1 : Int32)), .val (.int (0 : Int32)), .val (.int (2 : Int32)), .val (.ref b264), .val (.int (2 : Int32)), .unset, .unset, .unset, .unset, .unset, .unset, .unset, .unset] [(.long p0)]))
    refine own_Goes.st ?_ (fun _ k => XS.bipush X273.here hx rfl (hb hby at_165) k)
    refine own_Goes.st ?_ (fun _ k => XS.lshr X273.here hx rfl (hb hby at_167) rfl k)
    refine own_Goes.st ?_ (fun _ k => XS.lstore X273.here hx rfl (hb hby at_168) rfl (l' := #[.val (.long p0), .second, .val (.int p1), .val (.int p2), .val (.int p3), .val (.int p4), .val (.int p5), .val (.int (6 : Int32)), .val (.int (0 : Int32)), .val (.int (1 : Int32)), .val (.int (1 : Int32)), .val (.int (0 : Int32)), .val (.int (2 : Int32)), .val (.ref b264), .val (.int (2 : Int32)), .val (.long (p0 >>> ((14 : Int32) &&& 0x3f).toInt64)), .second, .unset, .unset, .unset, .unset, .unset, .unset]) rfl k)
    exact T2n _ _ X273 _ e273 N276 Z275 b264 k264 _ _ _ _ _ _ _ _ V274 (own_sh14 p0) (by decide) (by decide) rfl
  · skip
    show own_Goes p.tables e below P (s₁.setTop (mkF m 6 #[.val (.long p0), .second, .val (.int p1), .val (.int p2), .val (.int p3), .val (.int p4), .val (.int p5), .val (.int (7 : Int32)), .unset, .unset, .unset, .unset, .unset, .unset, .unset, .unset, .unset, .unset, .unset, .unset, .unset, .unset, .unset] []))
    refine own_Goes.st ?_ (fun _ k => XS.iload X0.here hx rfl (hb hby at_6) rfl k)
    refine own_Goes.st ?_ (fun _ k => XS.iconst X0.here hx rfl (hb hby at_8) k)
    refine own_Goes.st ?_ (fun _ k => XS.iand X0.here hx rfl (hb hby at_9) rfl k)
    refine own_Goes.st ?_ (fun _ k => XS.ifNo X0.here hx rfl (hb hby at_10) rfl ((if0 _ _).trans (feq (by decide : ¬ ((1 : Int32) = (0 : Int32)))).1) k)
    refine own_Goes.st ?_ (fun _ k => XS.iconst X0.here hx rfl (hb hby at_13) k)
    refine own_Goes.st ?_ (fun _ k => XS.goto X0.here hx rfl (pc0 := 14) (pc' := 18) rfl (hb hby at_14) (by decide) (by decide) k)
    show own_Goes p.tables e below P (s₁.setTop (mkF m 18 #[.val (.long p0), .second, .val (.int p1), .val (.int p2), .val (.int p3), .val (.int p4), .val (.int p5), .val (.int (7 : Int32)), .unset, .unset, .unset, .unset, .unset, .unset, .unset, .unset, .unset, .unset, .unset, .unset, .unset, .unset, .unset] [(.int (1 : Int32))]))
    refine own_Goes.st ?_ (fun _ k => XS.istore X0.here hx rfl (hb hby at_18) rfl (l' := #[.val (.long p0), .second, .val (.int p1), .val (.int p2), .val (.int p3), .val (.int p4), .val (.int p5), .val (.int (7 : Int32)), .val (.int (1 : Int32)), .unset, .unset, .unset, .unset, .unset, .unset, .unset, .unset, .unset, .unset, .unset, .unset, .unset, .unset]) rfl k)
    refine own_Goes.st ?_ (fun _ k => XS.iload X0.here hx rfl (hb hby at_20) rfl k)
    refine own_Goes.st ?_ (fun _ k => XS.iconst X0.here hx rfl (hb hby at_22) k)
    refine own_Goes.st ?_ (fun _ k => XS.iand X0.here hx rfl (hb hby at_23) rfl k)
    refine own_Goes.st ?_ (fun _ k => XS.ifNo X0.here hx rfl (hb hby at_24) rfl ((if0 _ _).trans (feq (by decide : ¬ ((2 : Int32) = (0 : Int32)))).1) k)
    refine own_Goes.st ?_ (fun _ k => XS.iconst X0.here hx rfl (hb hby at_27) k)
    show own_Goes p.tables e below P (s₁.setTop (mkF m 28 #[.val (.long p0), .second, .val (.int p1), .val (.int p2), .val (.int p3), .val (.int p4), .val (.int p5), .val (.int (7 : Int32)), .val (.int (1 : Int32)), .unset, .unset, .unset, .unset, .unset, .unset, .unset, .unset, .unset, .unset, .unset, .unset, .unset, .unset] [(.int (1 : Int32))]))
    refine own_Goes.st ?_ (fun _ k => XS.goto X0.here hx rfl (pc0 := 28) (pc' := 32) rfl (hb hby at_28) (by decide) (by decide) k)
    refine own_Goes.st ?_ (fun _ k => XS.istore X0.here hx rfl (hb hby at_32) rfl (l' := #[.val (.long p0), .second, .val (.int p1), .val (.int p2), .val (.int p3), .val (.int p4), .val (.int p5), .val (.int (7 : Int32)), .val (.int (1 : Int32)), .val (.int (1 : Int32)), .unset, .unset, .unset, .unset, .unset, .unset, .unset, .unset, .unset, .unset, .unset, .unset, .unset]) rfl k)
    refine own_Goes.st ?_ (fun _ k => XS.iload X0.here hx rfl (hb hby at_34) rfl k)
    refine own_Goes.st ?_ (fun _ k => XS.iconst X0.here hx rfl (hb hby at_36) k)
    refine own_Goes.st ?_ (fun _ k => XS.iand X0.here hx rfl (hb hby at_37) rfl k)
    refine own_Goes.st ?_ (fun _ k => XS.ifNo X0.here hx rfl (hb hby at_38) rfl ((if0 _ _).trans (feq (by decide : ¬ ((4 : Int32) = (0 : Int32)))).1) k)
    show own_Goes p.tables e below P (s₁.setTop (mkF m 41 #[.val (.long p0), .second, .val (.int p1), .val (.int p2), .val (.int p3), .val (.int p4), .val (.int p5), .val (.int (7 : Int32)), .val (.int (1 : Int32)), .val (.int (1 : Int32)), .unset, .unset, .unset, .unset, .unset, .unset, .unset, .unset, .unset, .unset, .unset, .unset, .unset] []))
    refine own_Goes.st ?_ (fun _ k => XS.iconst X0.here hx rfl (hb hby at_41) k)
    refine own_Goes.st ?_ (fun _ k => XS.goto X0.here hx rfl (pc0 := 42) (pc' := 46) rfl (hb hby at_42) (by decide) (by decide) k)
    refine own_Goes.st ?_ (fun _ k => XS.istore X0.here hx rfl (hb hby at_46) rfl (l' := #[.val (.long p0), .second, .val (.int p1), .val (.int p2), .val (.int p3), .val (.int p4), .val (.int p5), .val (.int (7 : Int32)), .val (.int (1 : Int32)), .val (.int (1 : Int32)), .val (.int (1 : Int32)), .unset, .unset, .unset, .unset, .unset, .unset, .unset, .unset, .unset, .unset, .unset, .unset]) rfl k)
    refine own_Goes.st ?_ (fun _ k => XS.iload X0.here hx rfl (hb hby at_48) rfl k)
    refine own_Goes.st ?_ (fun _ k => XS.bipush X0.here hx rfl (hb hby at_50) k)
    refine own_Goes.st ?_ (fun _ k => XS.iand X0.here hx rfl (hb hby at_52) rfl k)
    show own_Goes p.tables e below P (s₁.setTop (mkF m 53 #[.val (.long p0), .second, .val (.int p1), .val (.int p2), .val (.int p3), .val (.int p4), .val (.int p5), .val (.int (7 : Int32)), .val (.int (1 : Int32)), .val (.int (1 : Int32)), .val (.int (1 : Int32)), .unset, .unset, .unset, .unset, .unset, .unset, .unset, .unset, .unset, .unset, .unset, .unset] [(.int (0 : Int32))]))
    refine own_Goes.st ?_ (fun _ k => XS.ifYes X0.here hx rfl (pc0 := 53) (pc' := 60) rfl (hb hby at_53) rfl ((if0 _ _).trans (teq (by decide : (0 : Int32) = (0 : Int32))).1) (by decide) (by decide) k)
    refine own_Goes.st ?_ (fun _ k => XS.iconst X0.here hx rfl (hb hby at_60) k)
    refine own_Goes.st ?_ (fun _ k => XS.istore X0.here hx rfl (hb hby at_61) rfl (l' := #[.val (.long p0), .second, .val (.int p1), .val (.int p2), .val (.int p3), .val (.int p4), .val (.int p5), .val (.int (7 : Int32)), .val (.int (1 : Int32)), .val (.int (1 : Int32)), .val (.int (1 : Int32)), .val (.int (0 : Int32)), .unset, .unset, .unset, .unset, .unset, .unset, .unset, .unset, .unset, .unset, .unset]) rfl k)
    refine own_Goes.st ?_ (fun _ k => XS.iload X0.here hx rfl (hb hby at_63) rfl k)
    refine own_Goes.st ?_ (fun _ k => XS.iconst X0.here hx rfl (hb hby at_65) k)
    refine own_Goes.st ?_ (fun _ k => XS.iand X0.here hx rfl (hb hby at_66) rfl k)
    show own_Goes p.tables e below P (s₁.setTop (mkF m 67 #[.val (.long p0), .second, .val (.int p1), .val (.int p2), .val (.int p3), .val (.int p4), .val (.int p5), .val (.int (7 : Int32)), .val (.int (1 : Int32)), .val (.int (1 : Int32)), .val (.int (1 : Int32)), .val (.int (0 : Int32)), .unset, .unset, .unset, .unset, .unset, .unset, .unset, .unset, .unset, .unset, .unset] [(.int (1 : Int32))]))
    refine own_Goes.st ?_ (fun _ k => XS.iload X0.here hx rfl (hb hby at_67) rfl k)
    refine own_Goes.st ?_ (fun _ k => XS.iconst X0.here hx rfl (hb hby at_69) k)
    refine own_Goes.st ?_ (fun _ k => XS.ishr X0.here hx rfl (hb hby at_70) rfl k)
    refine own_Goes.st ?_ (fun _ k => XS.iconst X0.here hx rfl (hb hby at_71) k)
    refine own_Goes.st ?_ (fun _ k => XS.iand X0.here hx rfl (hb hby at_72) rfl k)
    refine own_Goes.st ?_ (fun _ k => XS.iadd X0.here hx rfl (hb hby at_73) rfl k)
    show own_Goes p.tables e below P (s₁.setTop (mkF m 74 #[.val (.long p0), .second, .val (.int p1), .val (.int p2), .val (.int p3), .val (.int p4), .val (.int p5), .val (.int (7 : Int32)), .val (.int (1 : Int32)), .val (.int (1 : Int32)), .val (.int (1 : Int32)), .val (.int (0 : Int32)), .unset, .unset, .unset, .unset, .unset, .unset, .unset, .unset, .unset, .unset, .unset] [(.int (2 : Int32))]))
    refine own_Goes.st ?_ (fun _ k => XS.iload X0.here hx rfl (hb hby at_74) rfl k)
    refine own_Goes.st ?_ (fun _ k => XS.iconst X0.here hx rfl (hb hby at_76) k)
    refine own_Goes.st ?_ (fun _ k => XS.ishr X0.here hx rfl (hb hby at_77) rfl k)
    refine own_Goes.st ?_ (fun _ k => XS.iconst X0.here hx rfl (hb hby at_78) k)
    refine own_Goes.st ?_ (fun _ k => XS.iand X0.here hx rfl (hb hby at_79) rfl k)
    refine own_Goes.st ?_ (fun _ k => XS.iadd X0.here hx rfl (hb hby at_80) rfl k)
    show own_Goes p.tables e below P (s₁.setTop (mkF m 81 #[.val (.long p0), .second, .val (.int p1), .val (.int p2), .val (.int p3), .val (.int p4), .val (.int p5), .val (.int (7 : Int32)), .val (.int (1 : Int32)), .val (.int (1 : Int32)), .val (.int (1 : Int32)), .val (.int (0 : Int32)), .unset, .unset, .unset, .unset, .unset, .unset, .unset, .unset, .unset, .unset, .unset] [(.int (3 : Int32))]))
    refine own_Goes.st ?_ (fun _ k => XS.iload X0.here hx rfl (hb hby at_81) rfl k)
    refine own_Goes.st ?_ (fun _ k => XS.iconst X0.here hx rfl (hb hby at_83) k)
    refine own_Goes.st ?_ (fun _ k => XS.ishr X0.here hx rfl (hb hby at_84) rfl k)
    refine own_Goes.st ?_ (fun _ k => XS.iconst X0.here hx rfl (hb hby at_85) k)
    refine own_Goes.st ?_ (fun _ k => XS.iand X0.here hx rfl (hb hby at_86) rfl k)
    refine own_Goes.st ?_ (fun _ k => XS.iadd X0.here hx rfl (hb hby at_87) rfl k)
    show own_Goes p.tables e below P (s₁.setTop (mkF m 88 #[.val (.long p0), .second, .val (.int p1), .val (.int p2), .val (.int p3), .val (.int p4), .val (.int p5), .val (.int (7 : Int32)), .val (.int (1 : Int32)), .val (.int (1 : Int32)), .val (.int (1 : Int32)), .val (.int (0 : Int32)), .unset, .unset, .unset, .unset, .unset, .unset, .unset, .unset, .unset, .unset, .unset] [(.int (3 : Int32))]))
    refine own_Goes.st ?_ (fun _ k => XS.istore X0.here hx rfl (hb hby at_88) rfl (l' := #[.val (.long p0), .second, .val (.int p1), .val (.int p2), .val (.int p3), .val (.int p4), .val (.int p5), .val (.int (7 : Int32)), .val (.int (1 : Int32)), .val (.int (1 : Int32)), .val (.int (1 : Int32)), .val (.int (0 : Int32)), .val (.int (3 : Int32)), .unset, .unset, .unset, .unset, .unset, .unset, .unset, .unset, .unset, .unset]) rfl k)
    refine own_Goes.st ?_ (fun _ k => XS.iload X0.here hx rfl (hb hby at_90) rfl k)
    obtain ⟨T277, h277, k277, X277, e277, E277, A277, J277, st277⟩ := newPE X0 hx hZ (hw _ (List.mem_of_getElem? (i := 0) rfl)) e0 (g := (mkF m 92 #[.val (.long p0), .second, .val (.int p1), .val (.int p2), .val (.int p3), .val (.int p4), .val (.int p5), .val (.int (7 : Int32)), .val (.int (1 : Int32)), .val (.int (1 : Int32)), .val (.int (1 : Int32)), .val (.int (0 : Int32)), .val (.int (3 : Int32)), .unset, .unset, .unset, .unset, .unset, .unset, .unset, .unset, .unset, .unset] [(.int (3 : Int32))])) rfl (hb hby at_92) rfl (by decide) (cap := 4) (by decide) (by decide) (by decide) (by decide) (ad := "[I") rfl
    obtain ⟨b277, g277⟩ : ∃ z, z = h0.size := ⟨_, rfl⟩
    rw [← g277] at A277 J277 st277
    have ge_b277 : n0 ≤ b277 := Nat.le_trans Z0 (Nat.le_of_eq g277.symm)
    refine own_Goes.st ?_ st277
    have Z278 : n0 ≤ h277.size := Nat.le_trans Z0 E277.1
    have V279 : Arv Z h277 b277 k277 .int (3 : Int32) [(.int (0 : Int32)), (.int (0 : Int32)), (.int (0 : Int32))] (.int 0) := (Arv.new A277 (by decide)).pad (pad_rep [] _ 3)
    show own_Goes p.tables e below P (T277.setTop (mkF m 94 #[.val (.long p0), .second, .val (.int p1), .val (.int p2), .val (.int p3), .val (.int p4), .val (.int p5), .val (.int (7 : Int32)), .val (.int (1 : Int32)), .val (.int (1 : Int32)), .val (.int (1 : Int32)), .val (.int (0 : Int32)), .val (.int (3 : Int32)), .unset, .unset, .unset, .unset, .unset, .unset, .unset, .unset, .unset, .unset] [(.ref b277)]))
    refine own_Goes.st ?_ (fun _ k => XS.astore X277.here hx rfl (hb hby at_94) rfl rfl (l' := #[.val (.long p0), .second, .val (.int p1), .val (.int p2), .val (.int p3), .val (.int p4), .val (.int p5), .val (.int (7 : Int32)), .val (.int (1 : Int32)), .val (.int (1 : Int32)), .val (.int (1 : Int32)), .val (.int (0 : Int32)), .val (.int (3 : Int32)), .val (.ref b277), .unset, .unset, .unset, .unset, .unset, .unset, .unset, .unset, .unset]) rfl k)
    refine own_Goes.st ?_ (fun _ k => XS.iconst X277.here hx rfl (hb hby at_96) k)
    refine own_Goes.st ?_ (fun _ k => XS.istore X277.here hx rfl (hb hby at_97) rfl (l' := #[.val (.long p0), .second, .val (.int p1), .val (.int p2), .val (.int p3), .val (.int p4), .val (.int p5), .val (.int (7 : Int32)), .val (.int (1 : Int32)), .val (.int (1 : Int32)), .val (.int (1 : Int32)), .val (.int (0 : Int32)), .val (.int (3 : Int32)), .val (.ref b277), .val (.int (0 : Int32)), .unset, .unset, .unset, .unset, .unset, .unset, .unset, .unset]) rfl k)
    refine own_Goes.st ?_ (fun _ k => XS.iload X277.here hx rfl (hb hby at_99) rfl k)
    refine own_Goes.st ?_ (fun _ k => XS.ifNo X277.here hx rfl (hb hby at_101) rfl ((if0 _ _).trans (feq (by decide : ¬ ((1 : Int32) = (0 : Int32)))).1) k)
    refine own_Goes.st ?_ (fun _ k => XS.aload X277.here hx rfl (hb hby at_104) rfl rfl k)
    show own_Goes p.tables e below P (T277.setTop (mkF m 106 #[.val (.long p0), .second, .val (.int p1), .val (.int p2), .val (.int p3), .val (.int p4), .val (.int p5), .val (.int (7 : Int32)), .val (.int (1 : Int32)), .val (.int (1 : Int32)), .val (.int (1 : Int32)), .val (.int (0 : Int32)), .val (.int (3 : Int32)), .val (.ref b277), .val (.int (0 : Int32)), .unset, .unset, .unset, .unset, .unset, .unset, .unset, .unset] [(.ref b277)]))
    refine own_Goes.st ?_ (fun _ k => XS.iload X277.here hx rfl (hb hby at_106) rfl k)
    refine own_Goes.st ?_ (fun _ k => XS.iconst X277.here hx rfl (hb hby at_108) k)
    have Vc280 := V279
    obtain ⟨cl280, Ar280, qc280, S280, Nn280, Hs280, Gs280⟩ := Vc280
    have hin281 : ¬ ((0 : Int32) < 0 ∨ cl280.slots.size ≤ ((0 : Int32)).toNatClampNeg) := inb_of S280 ⟨by decide, by decide⟩
    obtain ⟨T281, h281, X281, e281, W281, st281⟩ := stI X277 hx hZ e277 Ar280 (j := (0 : Int32)) hin281 (g := (mkF m 109 #[.val (.long p0), .second, .val (.int p1), .val (.int p2), .val (.int p3), .val (.int p4), .val (.int p5), .val (.int (7 : Int32)), .val (.int (1 : Int32)), .val (.int (1 : Int32)), .val (.int (1 : Int32)), .val (.int (0 : Int32)), .val (.int (3 : Int32)), .val (.ref b277), .val (.int (0 : Int32)), .unset, .unset, .unset, .unset, .unset, .unset, .unset, .unset] [(.int (0 : Int32)), (.int (0 : Int32)), (.ref b277)])) rfl rfl (hb hby at_109)
    refine own_Goes.st ?_ st281
    have V282 : Arv Z h281 b277 k277 .int (3 : Int32) [(.int (0 : Int32)), (.int (0 : Int32)), (.int (0 : Int32))] (.int 0) := Arv.set Ar280 qc280 S280 Nn280 Hs280 Gs280 rfl W281 0 rfl (Nat.le_of_ble_eq_true rfl)
    have Z283 : n0 ≤ h281.size := by rw [W281.size]; exact Z278
    have N284 := Fr.snoc X281 N0 ge_b277
    show own_Goes p.tables e below P (T281.setTop (mkF m 110 #[.val (.long p0), .second, .val (.int p1), .val (.int p2), .val (.int p3), .val (.int p4), .val (.int p5), .val (.int (7 : Int32)), .val (.int (1 : Int32)), .val (.int (1 : Int32)), .val (.int (1 : Int32)), .val (.int (0 : Int32)), .val (.int (3 : Int32)), .val (.ref b277), .val (.int (0 : Int32)), .unset, .unset, .unset, .unset, .unset, .unset, .unset, .unset] []))
    refine own_Goes.st ?_ (fun _ k => XS.iinc X281.here hx rfl (hb hby at_110) rfl (l' := #[.val (.long p0), .second, .val (.int p1), .val (.int p2), .val (.int p3), .val (.int p4), .val (.int p5), .val (.int (7 : Int32)), .val (.int (1 : Int32)), .val (.int (1 : Int32)), .val (.int (1 : Int32)), .val (.int (0 : Int32)), .val (.int (3 : Int32)), .val (.ref b277), .val (.int (1 : Int32)), .unset, .unset, .unset, .unset, .unset, .unset, .unset, .unset]) rfl k)
    refine own_Goes.st ?_ (fun _ k => XS.iload X281.here hx rfl (hb hby at_113) rfl k)
    refine own_Goes.st ?_ (fun _ k => XS.ifNo X281.here hx rfl (hb hby at_115) rfl ((if0 _ _).trans (feq (by decide : ¬ ((1 : Int32) = (0 : Int32)))).1) k)
    refine own_Goes.st ?_ (fun _ k => XS.aload X281.here hx rfl (hb hby at_118) rfl rfl k)
    refine own_Goes.st ?_ (fun _ k => XS.iload X281.here hx rfl (hb hby at_120) rfl k)
    refine own_Goes.st ?_ (fun _ k => XS.iconst X281.here hx rfl (hb hby at_122) k)
    show own_Goes p.tables e below P (T281.setTop (mkF m 123 #[.val (.long p0), .second, .val (.int p1), .val (.int p2), .val (.int p3), .val (.int p4), .val (.int p5), .val (.int (7 : Int32)), .val (.int (1 : Int32)), .val (.int (1 : Int32)), .val (.int (1 : Int32)), .val (.int (0 : Int32)), .val (.int (3 : Int32)), .val (.ref b277), .val (.int (1 : Int32)), .unset, .unset, .unset, .unset, .unset, .unset, .unset, .unset] [(.int (1 : Int32)), (.int (1 : Int32)), (.ref b277)]))
    have Vc285 := V282
    obtain ⟨cl285, Ar285, qc285, S285, Nn285, Hs285, Gs285⟩ := Vc285
    have hin286 : ¬ ((1 : Int32) < 0 ∨ cl285.slots.size ≤ ((1 : Int32)).toNatClampNeg) := inb_of S285 ⟨by decide, by decide⟩
    obtain ⟨T286, h286, X286, e286, W286, st286⟩ := stI X281 hx hZ e281 Ar285 (j := (1 : Int32)) hin286 (g := (mkF m 123 #[.val (.long p0), .second, .val (.int p1), .val (.int p2), .val (.int p3), .val (.int p4), .val (.int p5), .val (.int (7 : Int32)), .val (.int (1 : Int32)), .val (.int (1 : Int32)), .val (.int (1 : Int32)), .val (.int (0 : Int32)), .val (.int (3 : Int32)), .val (.ref b277), .val (.int (1 : Int32)), .unset, .unset, .unset, .unset, .unset, .unset, .unset, .unset] [(.int (1 : Int32)), (.int (1 : Int32)), (.ref b277)])) rfl rfl (hb hby at_123)
    refine own_Goes.st ?_ st286
    have V287 : Arv Z h286 b277 k277 .int (3 : Int32) [(.int (0 : Int32)), (.int (1 : Int32)), (.int (0 : Int32))] (.int 0) := Arv.set Ar285 qc285 S285 Nn285 Hs285 Gs285 rfl W286 1 rfl (Nat.le_of_ble_eq_true rfl)
    have Z288 : n0 ≤ h286.size := by rw [W286.size]; exact Z283
    have N289 := Fr.snoc X286 N284 ge_b277
    show own_Goes p.tables e below P (T286.setTop (mkF m 124 #[.val (.long p0), .second, .val (.int p1), .val (.int p2), .val (.int p3), .val (.int p4), .val (.int p5), .val (.int (7 : Int32)), .val (.int (1 : Int32)), .val (.int (1 : Int32)), .val (.int (1 : Int32)), .val (.int (0 : Int32)), .val (.int (3 : Int32)), .val (.ref b277), .val (.int (1 : Int32)), .unset, .unset, .unset, .unset, .unset, .unset, .unset, .unset] []))
    refine own_Goes.st ?_ (fun _ k => XS.iinc X286.here hx rfl (hb hby at_124) rfl (l' := #[.val (.long p0), .second, .val (.int p1), .val (.int p2), .val (.int p3), .val (.int p4), .val (.int p5), .val (.int (7 : Int32)), .val (.int (1 : Int32)), .val (.int (1 : Int32)), .val (.int (1 : Int32)), .val (.int (0 : Int32)), .val (.int (3 : Int32)), .val (.ref b277), .val (.int (2 : Int32)), .unset, .unset, .unset, .unset, .unset, .unset, .unset, .unset]) rfl k)
    refine own_Goes.st ?_ (fun _ k => XS.iload X286.here hx rfl (hb hby at_127) rfl k)
    refine own_Goes.st ?_ (fun _ k => XS.ifNo X286.here hx rfl (hb hby at_129) rfl ((if0 _ _).trans (feq (by decide : ¬ ((1 : Int32) = (0 : Int32)))).1) k)
    refine own_Goes.st ?_ (fun _ k => XS.aload X286.here hx rfl (hb hby at_132) rfl rfl k)
    refine own_Goes.st ?_ (fun _ k => XS.iload X286.here hx rfl (hb hby at_134) rfl k)
    refine own_Goes.st ?_ (fun _ k => XS.iconst X286.here hx rfl (hb hby at_136) k)
    show own_Goes p.tables e below P (T286.setTop (mkF m 137 #[.val (.long p0), .second, .val (.int p1), .val (.int p2), .val (.int p3), .val (.int p4), .val (.int p5), .val (.int (7 : Int32)), .val (.int (1 : Int32)), .val (.int (1 : Int32)), .val (.int (1 : Int32)), .val (.int (0 : Int32)), .val (.int (3 : Int32)), .val (.ref b277), .val (.int (2 : Int32)), .unset, .unset, .unset, .unset, .unset, .unset, .unset, .unset] [(.int (2 : Int32)), (.int (2 : Int32)), (.ref b277)]))
    have Vc290 := V287
    obtain ⟨cl290, Ar290, qc290, S290, Nn290, Hs290, Gs290⟩ := Vc290
    have hin291 : ¬ ((2 : Int32) < 0 ∨ cl290.slots.size ≤ ((2 : Int32)).toNatClampNeg) := inb_of S290 ⟨by decide, by decide⟩
    obtain ⟨T291, h291, X291, e291, W291, st291⟩ := stI X286 hx hZ e286 Ar290 (j := (2 : Int32)) hin291 (g := (mkF m 137 #[.val (.long p0), .second, .val (.int p1), .val (.int p2), .val (.int p3), .val (.int p4), .val (.int p5), .val (.int (7 : Int32)), .val (.int (1 : Int32)), .val (.int (1 : Int32)), .val (.int (1 : Int32)), .val (.int (0 : Int32)), .val (.int (3 : Int32)), .val (.ref b277), .val (.int (2 : Int32)), .unset, .unset, .unset, .unset, .unset, .unset, .unset, .unset] [(.int (2 : Int32)), (.int (2 : Int32)), (.ref b277)])) rfl rfl (hb hby at_137)
    refine own_Goes.st ?_ st291
    have V292 : Arv Z h291 b277 k277 .int (3 : Int32) [(.int (0 : Int32)), (.int (1 : Int32)), (.int (2 : Int32))] (.int 0) := Arv.set Ar290 qc290 S290 Nn290 Hs290 Gs290 rfl W291 2 rfl (Nat.le_of_ble_eq_true rfl)
    have Z293 : n0 ≤ h291.size := by rw [W291.size]; exact Z288
    have N294 := Fr.snoc X291 N289 ge_b277
    show own_Goes p.tables e below P (T291.setTop (mkF m 138 #[.val (.long p0), .second, .val (.int p1), .val (.int p2), .val (.int p3), .val (.int p4), .val (.int p5), .val (.int (7 : Int32)), .val (.int (1 : Int32)), .val (.int (1 : Int32)), .val (.int (1 : Int32)), .val (.int (0 : Int32)), .val (.int (3 : Int32)), .val (.ref b277), .val (.int (2 : Int32)), .unset, .unset, .unset, .unset, .unset, .unset, .unset, .unset] []))
    refine own_Goes.st ?_ (fun _ k => XS.iinc X291.here hx rfl (hb hby at_138) rfl (l' := #[.val (.long p0), .second, .val (.int p1), .val (.int p2), .val (.int p3), .val (.int p4), .val (.int p5), .val (.int (7 : Int32)), .val (.int (1 : Int32)), .val (.int (1 : Int32)), .val (.int (1 : Int32)), .val (.int (0 : Int32)), .val (.int (3 : Int32)), .val (.ref b277), .val (.int (3 : Int32)), .unset, .unset, .unset, .unset, .unset, .unset, .unset, .unset]) rfl k)
    refine own_Goes.st ?_ (fun _ k => XS.iload X291.here hx rfl (hb hby at_141) rfl k)
    refine own_Goes.st ?_ (fun _ k => XS.ifYes X291.here hx rfl (pc0 := 143) (pc' := 155) rfl (hb hby at_143) rfl ((if0 _ _).trans (teq (by decide : (0 : Int32) = (0 : Int32))).1) (by decide) (by decide) k)
    refine own_Goes.st ?_ (fun _ k => XS.iload X291.here hx rfl (hb hby at_155) rfl k)
    refine own_Goes.st ?_ (fun _ k => XS.ifYes X291.here hx rfl (pc0 := 157) (pc' := 164) rfl (hb hby at_157) rfl ((if0 _ _).trans (feq (by decide : ¬ ((7 : Int32) = (0 : Int32)))).2) (by decide) (by decide) k)
    refine own_Goes.st ?_ (fun _ k => XS.lloadN X291.here hx rfl (hb hby at_164) rfl k)
    show own_Goes p.tables e below P (T291.setTop (mkF m 165 #[.val (.long p0), .second, .val (.int p1), .val (.int p2), .val (.int p3), .val (.int p4), .val (.int p5), .val (.int (7 : Int32)), .val (.int (1 : Int32)), .val (.int (1 : Int32)), .val (.int (1 : Int32)), .val (.int (0 : Int32)), .val (.int (3 : Int32)), .val (.ref b277), .val (.int (3 : Int32)), .unset, .unset, .unset, .unset, .unset, .unset, .unset, .unset] [(.long p0)]))
    refine own_Goes.st ?_ (fun _ k => XS.bipush X291.here hx rfl (hb hby at_165) k)
    refine own_Goes.st ?_ (fun _ k => XS.lshr X291.here hx rfl (hb hby at_167) rfl k)
    refine own_Goes.st ?_ (fun _ k => XS.lstore X291.here hx rfl (hb hby at_168) rfl (l' := #[.val (.long p0), .second, .val (.int p1), .val (.int p2), .val (.int p3), .val (.int p4), .val (.int p5), .val (.int (7 : Int32)), .val (.int (1 : Int32)), .val (.int (1 : Int32)), .val (.int (1 : Int32)), .val (.int (0 : Int32)), .val (.int (3 : Int32)), .val (.ref b277), .val (.int (3 : Int32)), .val (.long (p0 >>> ((14 : Int32) &&& 0x3f).toInt64)), .second, .unset, .unset, .unset, .unset, .unset, .unset]) rfl k)
    exact T3n _ _ X291 _ e291 N294 Z293 b277 k277 _ _ _ _ _ _ _ _ _ V292 (own_sh14 p0) (by decide) (by decide) (by decide) rfl
  · skip
    show own_Goes p.tables e below P (s₁.setTop (mkF m 6 #[.val (.long p0), .second, .val (.int p1), .val (.int p2), .val (.int p3), .val (.int p4), .val (.int p5), .val (.int (8 : Int32)), .unset, .unset, .unset, .unset, .unset, .unset, .unset, .unset, .unset, .unset, .unset, .unset, .unset, .unset, .unset] []))
    refine own_Goes.st ?_ (fun _ k => XS.iload X0.here hx rfl (hb hby at_6) rfl k)
    refine own_Goes.st ?_ (fun _ k => XS.iconst X0.here hx rfl (hb hby at_8) k)
    refine own_Goes.st ?_ (fun _ k => XS.iand X0.here hx rfl (hb hby at_9) rfl k)
    refine own_Goes.st ?_ (fun _ k => XS.ifYes X0.here hx rfl (pc0 := 10) (pc' := 17) rfl (hb hby at_10) rfl ((if0 _ _).trans (teq (by decide : (0 : Int32) = (0 : Int32))).1) (by decide) (by decide) k)
    refine own_Goes.st ?_ (fun _ k => XS.iconst X0.here hx rfl (hb hby at_17) k)
    refine own_Goes.st ?_ (fun _ k => XS.istore X0.here hx rfl (hb hby at_18) rfl (l' := #[.val (.long p0), .second, .val (.int p1), .val (.int p2), .val (.int p3), .val (.int p4), .val (.int p5), .val (.int (8 : Int32)), .val (.int (0 : Int32)), .unset, .unset, .unset, .unset, .unset, .unset, .unset, .unset, .unset, .unset, .unset, .unset, .unset, .unset]) rfl k)
    show own_Goes p.tables e below P (s₁.setTop (mkF m 20 #[.val (.long p0), .second, .val (.int p1), .val (.int p2), .val (.int p3), .val (.int p4), .val (.int p5), .val (.int (8 : Int32)), .val (.int (0 : Int32)), .unset, .unset, .unset, .unset, .unset, .unset, .unset, .unset, .unset, .unset, .unset, .unset, .unset, .unset] []))
    refine own_Goes.st ?_ (fun _ k => XS.iload X0.here hx rfl (hb hby at_20) rfl k)
    refine own_Goes.st ?_ (fun _ k => XS.iconst X0.here hx rfl (hb hby at_22) k)
    refine own_Goes.st ?_ (fun _ k => XS.iand X0.here hx rfl (hb hby at_23) rfl k)
    refine own_Goes.st ?_ (fun _ k => XS.ifYes X0.here hx rfl (pc0 := 24) (pc' := 31) rfl (hb hby at_24) rfl ((if0 _ _).trans (teq (by decide : (0 : Int32) = (0 : Int32))).1) (by decide) (by decide) k)
    refine own_Goes.st ?_ (fun _ k => XS.iconst X0.here hx rfl (hb hby at_31) k)
    refine own_Goes.st ?_ (fun _ k => XS.istore X0.here hx rfl (hb hby at_32) rfl (l' := #[.val (.long p0), .second, .val (.int p1), .val (.int p2), .val (.int p3), .val (.int p4), .val (.int p5), .val (.int (8 : Int32)), .val (.int (0 : Int32)), .val (.int (0 : Int32)), .unset, .unset, .unset, .unset, .unset, .unset, .unset, .unset, .unset, .unset, .unset, .unset, .unset]) rfl k)
    show own_Goes p.tables e below P (s₁.setTop (mkF m 34 #[.val (.long p0), .second, .val (.int p1), .val (.int p2), .val (.int p3), .val (.int p4), .val (.int p5), .val (.int (8 : Int32)), .val (.int (0 : Int32)), .val (.int (0 : Int32)), .unset, .unset, .unset, .unset, .unset, .unset, .unset, .unset, .unset, .unset, .unset, .unset, .unset] []))
    refine own_Goes.st ?_ (fun _ k => XS.iload X0.here hx rfl (hb hby at_34) rfl k)
    refine own_Goes.st ?_ (fun _ k => XS.iconst X0.here hx rfl (hb hby at_36) k)
    refine own_Goes.st ?_ (fun _ k => XS.iand X0.here hx rfl (hb hby at_37) rfl k)
    refine own_Goes.st ?_ (fun _ k => XS.ifYes X0.here hx rfl (pc0 := 38) (pc' := 45) rfl (hb hby at_38) rfl ((if0 _ _).trans (teq (by decide : (0 : Int32) = (0 : Int32))).1) (by decide) (by decide) k)
    refine own_Goes.st ?_ (fun _ k => XS.iconst X0.here hx rfl (hb hby at_45) k)
    refine own_Goes.st ?_ (fun _ k => XS.istore X0.here hx rfl (hb hby at_46) rfl (l' := #[.val (.long p0), .second, .val (.int p1), .val (.int p2), .val (.int p3), .val (.int p4), .val (.int p5), .val (.int (8 : Int32)), .val (.int (0 : Int32)), .val (.int (0 : Int32)), .val (.int (0 : Int32)), .unset, .unset, .unset, .unset, .unset, .unset, .unset, .unset, .unset, .unset, .unset, .unset]) rfl k)
    show own_Goes p.tables e below P (s₁.setTop (mkF m 48 #[.val (.long p0), .second, .val (.int p1), .val (.int p2), .val (.int p3), .val (.int p4), .val (.int p5), .val (.int (8 : Int32)), .val (.int (0 : Int32)), .val (.int (0 : Int32)), .val (.int (0 : Int32)), .unset, .unset, .unset, .unset, .unset, .unset, .unset, .unset, .unset, .unset, .unset, .unset] []))
    refine own_Goes.st ?_ (fun _ k => XS.iload X0.here hx rfl (hb hby at_48) rfl k)
    refine own_Goes.st ?_ (fun _ k => XS.bipush X0.here hx rfl (hb hby at_50) k)
    refine own_Goes.st ?_ (fun _ k => XS.iand X0.here hx rfl (hb hby at_52) rfl k)
    refine own_Goes.st ?_ (fun _ k => XS.ifNo X0.here hx rfl (hb hby at_53) rfl ((if0 _ _).trans (feq (by decide : ¬ ((8 : Int32) = (0 : Int32)))).1) k)
    refine own_Goes.st ?_ (fun _ k => XS.iconst X0.here hx rfl (hb hby at_56) k)
    refine own_Goes.st ?_ (fun _ k => XS.goto X0.here hx rfl (pc0 := 57) (pc' := 61) rfl (hb hby at_57) (by decide) (by decide) k)
    show own_Goes p.tables e below P (s₁.setTop (mkF m 61 #[.val (.long p0), .second, .val (.int p1), .val (.int p2), .val (.int p3), .val (.int p4), .val (.int p5), .val (.int (8 : Int32)), .val (.int (0 : Int32)), .val (.int (0 : Int32)), .val (.int (0 : Int32)), .unset, .unset, .unset, .unset, .unset, .unset, .unset, .unset, .unset, .unset, .unset, .unset] [(.int (1 : Int32))]))
    refine own_Goes.st ?_ (fun _ k => XS.istore X0.here hx rfl (hb hby at_61) rfl (l' := #[.val (.long p0), .second, .val (.int p1), .val (.int p2), .val (.int p3), .val (.int p4), .val (.int p5), .val (.int (8 : Int32)), .val (.int (0 : Int32)), .val (.int (0 : Int32)), .val (.int (0 : Int32)), .val (.int (1 : Int32)), .unset, .unset, .unset, .unset, .unset, .unset, .unset, .unset, .unset, .unset, .unset]) rfl k)
    refine own_Goes.st ?_ (fun _ k => XS.iload X0.here hx rfl (hb hby at_63) rfl k)
    refine own_Goes.st ?_ (fun _ k => XS.iconst X0.here hx rfl (hb hby at_65) k)
    refine own_Goes.st ?_ (fun _ k => XS.iand X0.here hx rfl (hb hby at_66) rfl k)
    refine own_Goes.st ?_ (fun _ k => XS.iload X0.here hx rfl (hb hby at_67) rfl k)
    refine own_Goes.st ?_ (fun _ k => XS.iconst X0.here hx rfl (hb hby at_69) k)
    show own_Goes p.tables e below P (s₁.setTop (mkF m 70 #[.val (.long p0), .second, .val (.int p1), .val (.int p2), .val (.int p3), .val (.int p4), .val (.int p5), .val (.int (8 : Int32)), .val (.int (0 : Int32)), .val (.int (0 : Int32)), .val (.int (0 : Int32)), .val (.int (1 : Int32)), .unset, .unset, .unset, .unset, .unset, .unset, .unset, .unset, .unset, .unset, .unset] [(.int (1 : Int32)), (.int (8 : Int32)), (.int (0 : Int32))]))
    refine own_Goes.st ?_ (fun _ k => XS.ishr X0.here hx rfl (hb hby at_70) rfl k)
    refine own_Goes.st ?_ (fun _ k => XS.iconst X0.here hx rfl (hb hby at_71) k)
    refine own_Goes.st ?_ (fun _ k => XS.iand X0.here hx rfl (hb hby at_72) rfl k)
    refine own_Goes.st ?_ (fun _ k => XS.iadd X0.here hx rfl (hb hby at_73) rfl k)
    refine own_Goes.st ?_ (fun _ k => XS.iload X0.here hx rfl (hb hby at_74) rfl k)
    refine own_Goes.st ?_ (fun _ k => XS.iconst X0.here hx rfl (hb hby at_76) k)
    show own_Goes p.tables e below P (s₁.setTop (mkF m 77 #[.val (.long p0), .second, .val (.int p1), .val (.int p2), .val (.int p3), .val (.int p4), .val (.int p5), .val (.int (8 : Int32)), .val (.int (0 : Int32)), .val (.int (0 : Int32)), .val (.int (0 : Int32)), .val (.int (1 : Int32)), .unset, .unset, .unset, .unset, .unset, .unset, .unset, .unset, .unset, .unset, .unset] [(.int (2 : Int32)), (.int (8 : Int32)), (.int (0 : Int32))]))
    refine own_Goes.st ?_ (fun _ k => XS.ishr X0.here hx rfl (hb hby at_77) rfl k)
    refine own_Goes.st ?_ (fun _ k => XS.iconst X0.here hx rfl (hb hby at_78) k)
    refine own_Goes.st ?_ (fun _ k => XS.iand X0.here hx rfl (hb hby at_79) rfl k)
    refine own_Goes.st ?_ (fun _ k => XS.iadd X0.here hx rfl (hb hby at_80) rfl k)
    refine own_Goes.st ?_ (fun _ k => XS.iload X0.here hx rfl (hb hby at_81) rfl k)
    refine own_Goes.st ?_ (fun _ k => XS.iconst X0.here hx rfl (hb hby at_83) k)
    show own_Goes p.tables e below P (s₁.setTop (mkF m 84 #[.val (.long p0), .second, .val (.int p1), .val (.int p2), .val (.int p3), .val (.int p4), .val (.int p5), .val (.int (8 : Int32)), .val (.int (0 : Int32)), .val (.int (0 : Int32)), .val (.int (0 : Int32)), .val (.int (1 : Int32)), .unset, .unset, .unset, .unset, .unset, .unset, .unset, .unset, .unset, .unset, .unset] [(.int (3 : Int32)), (.int (8 : Int32)), (.int (0 : Int32))]))
    refine own_Goes.st ?_ (fun _ k => XS.ishr X0.here hx rfl (hb hby at_84) rfl k)
    refine own_Goes.st ?_ (fun _ k => XS.iconst X0.here hx rfl (hb hby at_85) k)
    refine own_Goes.st ?_ (fun _ k => XS.iand X0.here hx rfl (hb hby at_86) rfl k)
    refine own_Goes.st ?_ (fun _ k => XS.iadd X0.here hx rfl (hb hby at_87) rfl k)
    refine own_Goes.st ?_ (fun _ k => XS.istore X0.here hx rfl (hb hby at_88) rfl (l' := #[.val (.long p0), .second, .val (.int p1), .val (.int p2), .val (.int p3), .val (.int p4), .val (.int p5), .val (.int (8 : Int32)), .val (.int (0 : Int32)), .val (.int (0 : Int32)), .val (.int (0 : Int32)), .val (.int (1 : Int32)), .val (.int (1 : Int32)), .unset, .unset, .unset, .unset, .unset, .unset, .unset, .unset, .unset, .unset]) rfl k)
    refine own_Goes.st ?_ (fun _ k => XS.iload X0.here hx rfl (hb hby at_90) rfl k)
    show own_Goes p.tables e below P (s₁.setTop (mkF m 92 #[.val (.long p0), .second, .val (.int p1), .val (.int p2), .val (.int p3), .val (.int p4), .val (.int p5), .val (.int (8 : Int32)), .val (.int (0 : Int32)), .val (.int (0 : Int32)), .val (.int (0 : Int32)), .val (.int (1 : Int32)), .val (.int (1 : Int32)), .unset, .unset, .unset, .unset, .unset, .unset, .unset, .unset, .unset, .unset] [(.int (1 : Int32))]))
    obtain ⟨T295, h295, k295, X295, e295, E295, A295, J295, st295⟩ := newPE X0 hx hZ (hw _ (List.mem_of_getElem? (i := 0) rfl)) e0 (g := (mkF m 92 #[.val (.long p0), .second, .val (.int p1), .val (.int p2), .val (.int p3), .val (.int p4), .val (.int p5), .val (.int (8 : Int32)), .val (.int (0 : Int32)), .val (.int (0 : Int32)), .val (.int (0 : Int32)), .val (.int (1 : Int32)), .val (.int (1 : Int32)), .unset, .unset, .unset, .unset, .unset, .unset, .unset, .unset, .unset, .unset] [(.int (1 : Int32))])) rfl (hb hby at_92) rfl (by decide) (cap := 4) (by decide) (by decide) (by decide) (by decide) (ad := "[I") rfl
    obtain ⟨b295, g295⟩ : ∃ z, z = h0.size := ⟨_, rfl⟩
    rw [← g295] at A295 J295 st295
    have ge_b295 : n0 ≤ b295 := Nat.le_trans Z0 (Nat.le_of_eq g295.symm)
    refine own_Goes.st ?_ st295
    have Z296 : n0 ≤ h295.size := Nat.le_trans Z0 E295.1
    have V297 : Arv Z h295 b295 k295 .int (1 : Int32) [(.int (0 : Int32))] (.int 0) := (Arv.new A295 (by decide)).pad (pad_rep [] _ 1)
    show own_Goes p.tables e below P (T295.setTop (mkF m 94 #[.val (.long p0), .second, .val (.int p1), .val (.int p2), .val (.int p3), .val (.int p4), .val (.int p5), .val (.int (8 : Int32)), .val (.int (0 : Int32)), .val (.int (0 : Int32)), .val (.int (0 : Int32)), .val (.int (1 : Int32)), .val (.int (1 : Int32)), .unset, .unset, .unset, .unset, .unset, .unset, .unset, .unset, .unset, .unset] [(.ref b295)]))
    refine own_Goes.st ?_ (fun _ k => XS.astore X295.here hx rfl (hb hby at_94) rfl rfl (l' := #[.val (.long p0), .second, .val (.int p1), .val (.int p2), .val (.int p3), .val (.int p4), .val (.int p5), .val (.int (8 : Int32)), .val (.int (0 : Int32)), .val (.int (0 : Int32)), .val (.int (0 : Int32)), .val (.int (1 : Int32)), .val (.int (1 : Int32)), .val (.ref b295), .unset, .unset, .unset, .unset, .unset, .unset, .unset, .unset, .unset]) rfl k)
    refine own_Goes.st ?_ (fun _ k => XS.iconst X295.here hx rfl (hb hby at_96) k)
    refine own_Goes.st ?_ (fun _ k => XS.istore X295.here hx rfl (hb hby at_97) rfl (l' := #[.val (.long p0), .second, .val (.int p1), .val (.int p2), .val (.int p3), .val (.int p4), .val (.int p5), .val (.int (8 : Int32)), .val (.int (0 : Int32)), .val (.int (0 : Int32)), .val (.int (0 : Int32)), .val (.int (1 : Int32)), .val (.int (1 : Int32)), .val (.ref b295), .val (.int (0 : Int32)), .unset, .unset, .unset, .unset, .unset, .unset, .unset, .unset]) rfl k)
    refine own_Goes.st ?_ (fun _ k => XS.iload X295.here hx rfl (hb hby at_99) rfl k)
    refine own_Goes.st ?_ (fun _ k => XS.ifYes X295.here hx rfl (pc0 := 101) (pc' := 113) rfl (hb hby at_101) rfl ((if0 _ _).trans (teq (by decide : (0 : Int32) = (0 : Int32))).1) (by decide) (by decide) k)
    refine own_Goes.st ?_ (fun _ k => XS.iload X295.here hx rfl (hb hby at_113) rfl k)
    show own_Goes p.tables e below P (T295.setTop (mkF m 115 #[.val (.long p0), .second, .val (.int p1), .val (.int p2), .val (.int p3), .val (.int p4), .val (.int p5), .val (.int (8 : Int32)), .val (.int (0 : Int32)), .val (.int (0 : Int32)), .val (.int (0 : Int32)), .val (.int (1 : Int32)), .val (.int (1 : Int32)), .val (.ref b295), .val (.int (0 : Int32)), .unset, .unset, .unset, .unset, .unset, .unset, .unset, .unset] [(.int (0 : Int32))]))
    refine own_Goes.st ?_ (fun _ k => XS.ifYes X295.here hx rfl (pc0 := 115) (pc' := 127) rfl (hb hby at_115) rfl ((if0 _ _).trans (teq (by decide : (0 : Int32) = (0 : Int32))).1) (by decide) (by decide) k)
    refine own_Goes.st ?_ (fun _ k => XS.iload X295.here hx rfl (hb hby at_127) rfl k)
    refine own_Goes.st ?_ (fun _ k => XS.ifYes X295.here hx rfl (pc0 := 129) (pc' := 141) rfl (hb hby at_129) rfl ((if0 _ _).trans (teq (by decide : (0 : Int32) = (0 : Int32))).1) (by decide) (by decide) k)
    refine own_Goes.st ?_ (fun _ k => XS.iload X295.here hx rfl (hb hby at_141) rfl k)
    refine own_Goes.st ?_ (fun _ k => XS.ifNo X295.here hx rfl (hb hby at_143) rfl ((if0 _ _).trans (feq (by decide : ¬ ((1 : Int32) = (0 : Int32)))).1) k)
    refine own_Goes.st ?_ (fun _ k => XS.aload X295.here hx rfl (hb hby at_146) rfl rfl k)
    show own_Goes p.tables e below P (T295.setTop (mkF m 148 #[.val (.long p0), .second, .val (.int p1), .val (.int p2), .val (.int p3), .val (.int p4), .val (.int p5), .val (.int (8 : Int32)), .val (.int (0 : Int32)), .val (.int (0 : Int32)), .val (.int (0 : Int32)), .val (.int (1 : Int32)), .val (.int (1 : Int32)), .val (.ref b295), .val (.int (0 : Int32)), .unset, .unset, .unset, .unset, .unset, .unset, .unset, .unset] [(.ref b295)]))
    refine own_Goes.st ?_ (fun _ k => XS.iload X295.here hx rfl (hb hby at_148) rfl k)
    refine own_Goes.st ?_ (fun _ k => XS.iconst X295.here hx rfl (hb hby at_150) k)
    have Vc298 := V297
    obtain ⟨cl298, Ar298, qc298, S298, Nn298, Hs298, Gs298⟩ := Vc298
    have hin299 : ¬ ((0 : Int32) < 0 ∨ cl298.slots.size ≤ ((0 : Int32)).toNatClampNeg) := inb_of S298 ⟨by decide, by decide⟩
    obtain ⟨T299, h299, X299, e299, W299, st299⟩ := stI X295 hx hZ e295 Ar298 (j := (0 : Int32)) hin299 (g := (mkF m 151 #[.val (.long p0), .second, .val (.int p1), .val (.int p2), .val (.int p3), .val (.int p4), .val (.int p5), .val (.int (8 : Int32)), .val (.int (0 : Int32)), .val (.int (0 : Int32)), .val (.int (0 : Int32)), .val (.int (1 : Int32)), .val (.int (1 : Int32)), .val (.ref b295), .val (.int (0 : Int32)), .unset, .unset, .unset, .unset, .unset, .unset, .unset, .unset] [(.int (3 : Int32)), (.int (0 : Int32)), (.ref b295)])) rfl rfl (hb hby at_151)
    refine own_Goes.st ?_ st299
    have V300 : Arv Z h299 b295 k295 .int (1 : Int32) [(.int (3 : Int32))] (.int 0) := Arv.set Ar298 qc298 S298 Nn298 Hs298 Gs298 rfl W299 0 rfl (Nat.le_of_ble_eq_true rfl)
    have Z301 : n0 ≤ h299.size := by rw [W299.size]; exact Z296
    have N302 := Fr.snoc X299 N0 ge_b295
    show own_Goes p.tables e below P (T299.setTop (mkF m 152 #[.val (.long p0), .second, .val (.int p1), .val (.int p2), .val (.int p3), .val (.int p4), .val (.int p5), .val (.int (8 : Int32)), .val (.int (0 : Int32)), .val (.int (0 : Int32)), .val (.int (0 : Int32)), .val (.int (1 : Int32)), .val (.int (1 : Int32)), .val (.ref b295), .val (.int (0 : Int32)), .unset, .unset, .unset, .unset, .unset, .unset, .unset, .unset] []))
    refine own_Goes.st ?_ (fun _ k => XS.iinc X299.here hx rfl (hb hby at_152) rfl (l' := #[.val (.long p0), .second, .val (.int p1), .val (.int p2), .val (.int p3), .val (.int p4), .val (.int p5), .val (.int (8 : Int32)), .val (.int (0 : Int32)), .val (.int (0 : Int32)), .val (.int (0 : Int32)), .val (.int (1 : Int32)), .val (.int (1 : Int32)), .val (.ref b295), .val (.int (1 : Int32)), .unset, .unset, .unset, .unset, .unset, .unset, .unset, .unset]) rfl k)
    refine own_Goes.st ?_ (fun _ k => XS.iload X299.here hx rfl (hb hby at_155) rfl k)
    refine own_Goes.st ?_ (fun _ k => XS.ifYes X299.here hx rfl (pc0 := 157) (pc' := 164) rfl (hb hby at_157) rfl ((if0 _ _).trans (feq (by decide : ¬ ((8 : Int32) = (0 : Int32)))).2) (by decide) (by decide) k)
    refine own_Goes.st ?_ (fun _ k => XS.lloadN X299.here hx rfl (hb hby at_164) rfl k)
    refine own_Goes.st ?_ (fun _ k => XS.bipush X299.here hx rfl (hb hby at_165) k)
    refine own_Goes.st ?_ (fun _ k => XS.lshr X299.here hx rfl (hb hby at_167) rfl k)
    show own_Goes p.tables e below P (T299.setTop (mkF m 168 #[.val (.long p0), .second, .val (.int p1), .val (.int p2), .val (.int p3), .val (.int p4), .val (.int p5), .val (.int (8 : Int32)), .val (.int (0 : Int32)), .val (.int (0 : Int32)), .val (.int (0 : Int32)), .val (.int (1 : Int32)), .val (.int (1 : Int32)), .val (.ref b295), .val (.int (1 : Int32)), .unset, .unset, .unset, .unset, .unset, .unset, .unset, .unset] [(.long (p0 >>> ((14 : Int32) &&& 0x3f).toInt64))]))
    refine own_Goes.st ?_ (fun _ k => XS.lstore X299.here hx rfl (hb hby at_168) rfl (l' := #[.val (.long p0), .second, .val (.int p1), .val (.int p2), .val (.int p3), .val (.int p4), .val (.int p5), .val (.int (8 : Int32)), .val (.int (0 : Int32)), .val (.int (0 : Int32)), .val (.int (0 : Int32)), .val (.int (1 : Int32)), .val (.int (1 : Int32)), .val (.ref b295), .val (.int (1 : Int32)), .val (.long (p0 >>> ((14 : Int32) &&& 0x3f).toInt64)), .second, .unset, .unset, .unset, .unset, .unset, .unset]) rfl k)
    exact T1n _ _ X299 _ e299 N302 Z301 b295 k295 _ _ _ _ _ _ _ V300 (own_sh14 p0) (by decide) rfl
  · skip
    show own_Goes p.tables e below P (s₁.setTop (mkF m 6 #[.val (.long p0), .second, .val (.int p1), .val (.int p2), .val (.int p3), .val (.int p4), .val (.int p5), .val (.int (9 : Int32)), .unset, .unset, .unset, .unset, .unset, .unset, .unset, .unset, .unset, .unset, .unset, .unset, .unset, .unset, .unset] []))
    refine own_Goes.st ?_ (fun _ k => XS.iload X0.here hx rfl (hb hby at_6) rfl k)
    refine own_Goes.st ?_ (fun _ k => XS.iconst X0.here hx rfl (hb hby at_8) k)
    refine own_Goes.st ?_ (fun _ k => XS.iand X0.here hx rfl (hb hby at_9) rfl k)
    refine own_Goes.st ?_ (fun _ k => XS.ifNo X0.here hx rfl (hb hby at_10) rfl ((if0 _ _).trans (feq (by decide : ¬ ((1 : Int32) = (0 : Int32)))).1) k)
    refine own_Goes.st ?_ (fun _ k => XS.iconst X0.here hx rfl (hb hby at_13) k)
    refine own_Goes.st ?_ (fun _ k => XS.goto X0.here hx rfl (pc0 := 14) (pc' := 18) rfl (hb hby at_14) (by decide) (by decide) k)
    show own_Goes p.tables e below P (s₁.setTop (mkF m 18 #[.val (.long p0), .second, .val (.int p1), .val (.int p2), .val (.int p3), .val (.int p4), .val (.int p5), .val (.int (9 : Int32)), .unset, .unset, .unset, .unset, .unset, .unset, .unset, .unset, .unset, .unset, .unset, .unset, .unset, .unset, .unset] [(.int (1 : Int32))]))
    refine own_Goes.st ?_ (fun _ k => XS.istore X0.here hx rfl (hb hby at_18) rfl (l' := #[.val (.long p0), .second, .val (.int p1), .val (.int p2), .val (.int p3), .val (.int p4), .val (.int p5), .val (.int (9 : Int32)), .val (.int (1 : Int32)), .unset, .unset, .unset, .unset, .unset, .unset, .unset, .unset, .unset, .unset, .unset, .unset, .unset, .unset]) rfl k)
    refine own_Goes.st ?_ (fun _ k => XS.iload X0.here hx rfl (hb hby at_20) rfl k)
    refine own_Goes.st ?_ (fun _ k => XS.iconst X0.here hx rfl (hb hby at_22) k)
    refine own_Goes.st ?_ (fun _ k => XS.iand X0.here hx rfl (hb hby at_23) rfl k)
    refine own_Goes.st ?_ (fun _ k => XS.ifYes X0.here hx rfl (pc0 := 24) (pc' := 31) rfl (hb hby at_24) rfl ((if0 _ _).trans (teq (by decide : (0 : Int32) = (0 : Int32))).1) (by decide) (by decide) k)
    refine own_Goes.st ?_ (fun _ k => XS.iconst X0.here hx rfl (hb hby at_31) k)
    show own_Goes p.tables e below P (s₁.setTop (mkF m 32 #[.val (.long p0), .second, .val (.int p1), .val (.int p2), .val (.int p3), .val (.int p4), .val (.int p5), .val (.int (9 : Int32)), .val (.int (1 : Int32)), .unset, .unset, .unset, .unset, .unset, .unset, .unset, .unset, .unset, .unset, .unset, .unset, .unset, .unset] [(.int (0 : Int32))]))
    refine own_Goes.st ?_ (fun _ k => XS.istore X0.here hx rfl (hb hby at_32) rfl (l' := #[.val (.long p0), .second, .val (.int p1), .val (.int p2), .val (.int p3), .val (.int p4), .val (.int p5), .val (.int (9 : Int32)), .val (.int (1 : Int32)), .val (.int (0 : Int32)), .unset, .unset, .unset, .unset, .unset, .unset, .unset, .unset, .unset, .unset, .unset, .unset, .unset]) rfl k)
    refine own_Goes.st ?_ (fun _ k => XS.iload X0.here hx rfl (hb hby at_34) rfl k)
    refine own_Goes.st ?_ (fun _ k => XS.iconst X0.here hx rfl (hb hby at_36) k)
    refine own_Goes.st ?_ (fun _ k => XS.iand X0.here hx rfl (hb hby at_37) rfl k)
    refine own_Goes.st ?_ (fun _ k => XS.ifYes X0.here hx rfl (pc0 := 38) (pc' := 45) rfl (hb hby at_38) rfl ((if0 _ _).trans (teq (by decide : (0 : Int32) = (0 : Int32))).1) (by decide) (by decide) k)
    refine own_Goes.st ?_ (fun _ k => XS.iconst X0.here hx rfl (hb hby at_45) k)
    show own_Goes p.tables e below P (s₁.setTop (mkF m 46 #[.val (.long p0), .second, .val (.int p1), .val (.int p2), .val (.int p3), .val (.int p4), .val (.int p5), .val (.int (9 : Int32)), .val (.int (1 : Int32)), .val (.int (0 : Int32)), .unset, .unset, .unset, .unset, .unset, .unset, .unset, .unset, .unset, .unset, .unset, .unset, .unset] [(.int (0 : Int32))]))
    refine own_Goes.st ?_ (fun _ k => XS.istore X0.here hx rfl (hb hby at_46) rfl (l' := #[.val (.long p0), .second, .val (.int p1), .val (.int p2), .val (.int p3), .val (.int p4), .val (.int p5), .val (.int (9 : Int32)), .val (.int (1 : Int32)), .val (.int (0 : Int32)), .val (.int (0 : Int32)), .unset, .unset, .unset, .unset, .unset, .unset, .unset, .unset, .unset, .unset, .unset, .unset]) rfl k)
    refine own_Goes.st ?_ (fun _ k => XS.iload X0.here hx rfl (hb hby at_48) rfl k)
    refine own_Goes.st ?_ (fun _ k => XS.bipush X0.here hx rfl (hb hby at_50) k)
    refine own_Goes.st ?_ (fun _ k => XS.iand X0.here hx rfl (hb hby at_52) rfl k)
    refine own_Goes.st ?_ (fun _ k => XS.ifNo X0.here hx rfl (hb hby at_53) rfl ((if0 _ _).trans (feq (by decide : ¬ ((8 : Int32) = (0 : Int32)))).1) k)
    refine own_Goes.st ?_ (fun _ k => XS.iconst X0.here hx rfl (hb hby at_56) k)
    show own_Goes p.tables e below P (s₁.setTop (mkF m 57 #[.val (.long p0), .second, .val (.int p1), .val (.int p2), .val (.int p3), .val (.int p4), .val (.int p5), .val (.int (9 : Int32)), .val (.int (1 : Int32)), .val (.int (0 : Int32)), .val (.int (0 : Int32)), .unset, .unset, .unset, .unset, .unset, .unset, .unset, .unset, .unset, .unset, .unset, .unset] [(.int (1 : Int32))]))
    refine own_Goes.st ?_ (fun _ k => XS.goto X0.here hx rfl (pc0 := 57) (pc' := 61) rfl (hb hby at_57) (by decide) (by decide) k)
    refine own_Goes.st ?_ (fun _ k => XS.istore X0.here hx rfl (hb hby at_61) rfl (l' := #[.val (.long p0), .second, .val (.int p1), .val (.int p2), .val (.int p3), .val (.int p4), .val (.int p5), .val (.int (9 : Int32)), .val (.int (1 : Int32)), .val (.int (0 : Int32)), .val (.int (0 : Int32)), .val (.int (1 : Int32)), .unset, .unset, .unset, .unset, .unset, .unset, .unset, .unset, .unset, .unset, .unset]) rfl k)
    refine own_Goes.st ?_ (fun _ k => XS.iload X0.here hx rfl (hb hby at_63) rfl k)
    refine own_Goes.st ?_ (fun _ k => XS.iconst X0.here hx rfl (hb hby at_65) k)
    refine own_Goes.st ?_ (fun _ k => XS.iand X0.here hx rfl (hb hby at_66) rfl k)
    refine own_Goes.st ?_ (fun _ k => XS.iload X0.here hx rfl (hb hby at_67) rfl k)
    show own_Goes p.tables e below P (s₁.setTop (mkF m 69 #[.val (.long p0), .second, .val (.int p1), .val (.int p2), .val (.int p3), .val (.int p4), .val (.int p5), .val (.int (9 : Int32)), .val (.int (1 : Int32)), .val (.int (0 : Int32)), .val (.int (0 : Int32)), .val (.int (1 : Int32)), .unset, .unset, .unset, .unset, .unset, .unset, .unset, .unset, .unset, .unset, .unset] [(.int (9 : Int32)), (.int (1 : Int32))]))
    refine own_Goes.st ?_ (fun _ k => XS.iconst X0.here hx rfl (hb hby at_69) k)
    refine own_Goes.st ?_ (fun _ k => XS.ishr X0.here hx rfl (hb hby at_70) rfl k)
    refine own_Goes.st ?_ (fun _ k => XS.iconst X0.here hx rfl (hb hby at_71) k)
    refine own_Goes.st ?_ (fun _ k => XS.iand X0.here hx rfl (hb hby at_72) rfl k)
    refine own_Goes.st ?_ (fun _ k => XS.iadd X0.here hx rfl (hb hby at_73) rfl k)
    refine own_Goes.st ?_ (fun _ k => XS.iload X0.here hx rfl (hb hby at_74) rfl k)
    show own_Goes p.tables e below P (s₁.setTop (mkF m 76 #[.val (.long p0), .second, .val (.int p1), .val (.int p2), .val (.int p3), .val (.int p4), .val (.int p5), .val (.int (9 : Int32)), .val (.int (1 : Int32)), .val (.int (0 : Int32)), .val (.int (0 : Int32)), .val (.int (1 : Int32)), .unset, .unset, .unset, .unset, .unset, .unset, .unset, .unset, .unset, .unset, .unset] [(.int (9 : Int32)), (.int (1 : Int32))]))
    refine own_Goes.st ?_ (fun _ k => XS.iconst X0.here hx rfl (hb hby at_76) k)
    refine own_Goes.st ?_ (fun _ k => XS.ishr X0.here hx rfl (hb hby at_77) rfl k)
    refine own_Goes.st ?_ (fun _ k => XS.iconst X0.here hx rfl (hb hby at_78) k)
    refine own_Goes.st ?_ (fun _ k => XS.iand X0.here hx rfl (hb hby at_79) rfl k)
    refine own_Goes.st ?_ (fun _ k => XS.iadd X0.here hx rfl (hb hby at_80) rfl k)
    refine own_Goes.st ?_ (fun _ k => XS.iload X0.here hx rfl (hb hby at_81) rfl k)
    show own_Goes p.tables e below P (s₁.setTop (mkF m 83 #[.val (.long p0), .second, .val (.int p1), .val (.int p2), .val (.int p3), .val (.int p4), .val (.int p5), .val (.int (9 : Int32)), .val (.int (1 : Int32)), .val (.int (0 : Int32)), .val (.int (0 : Int32)), .val (.int (1 : Int32)), .unset, .unset, .unset, .unset, .unset, .unset, .unset, .unset, .unset, .unset, .unset] [(.int (9 : Int32)), (.int (1 : Int32))]))
    refine own_Goes.st ?_ (fun _ k => XS.iconst X0.here hx rfl (hb hby at_83) k)
    refine own_Goes.st ?_ (fun _ k => XS.ishr X0.here hx rfl (hb hby at_84) rfl k)
    refine own_Goes.st ?_ (fun _ k => XS.iconst X0.here hx rfl (hb hby at_85) k)
    refine own_Goes.st ?_ (fun _ k => XS.iand X0.here hx rfl (hb hby at_86) rfl k)
    refine own_Goes.st ?_ (fun _ k => XS.iadd X0.here hx rfl (hb hby at_87) rfl k)
    refine own_Goes.st ?_ (fun _ k => XS.istore X0.here hx rfl (hb hby at_88) rfl (l' := #[.val (.long p0), .second, .val (.int p1), .val (.int p2), .val (.int p3), .val (.int p4), .val (.int p5), .val (.int (9 : Int32)), .val (.int (1 : Int32)), .val (.int (0 : Int32)), .val (.int (0 : Int32)), .val (.int (1 : Int32)), .val (.int (2 : Int32)), .unset, .unset, .unset, .unset, .unset, .unset, .unset, .unset, .unset, .unset]) rfl k)
    show own_Goes p.tables e below P (s₁.setTop (mkF m 90 #[.val (.long p0), .second, .val (.int p1), .val (.int p2), .val (.int p3), .val (.int p4), .val (.int p5), .val (.int (9 : Int32)), .val (.int (1 : Int32)), .val (.int (0 : Int32)), .val (.int (0 : Int32)), .val (.int (1 : Int32)), .val (.int (2 : Int32)), .unset, .unset, .unset, .unset, .unset, .unset, .unset, .unset, .unset, .unset] []))
    refine own_Goes.st ?_ (fun _ k => XS.iload X0.here hx rfl (hb hby at_90) rfl k)
    obtain ⟨T303, h303, k303, X303, e303, E303, A303, J303, st303⟩ := newPE X0 hx hZ (hw _ (List.mem_of_getElem? (i := 0) rfl)) e0 (g := (mkF m 92 #[.val (.long p0), .second, .val (.int p1), .val (.int p2), .val (.int p3), .val (.int p4), .val (.int p5), .val (.int (9 : Int32)), .val (.int (1 : Int32)), .val (.int (0 : Int32)), .val (.int (0 : Int32)), .val (.int (1 : Int32)), .val (.int (2 : Int32)), .unset, .unset, .unset, .unset, .unset, .unset, .unset, .unset, .unset, .unset] [(.int (2 : Int32))])) rfl (hb hby at_92) rfl (by decide) (cap := 4) (by decide) (by decide) (by decide) (by decide) (ad := "[I") rfl
    obtain ⟨b303, g303⟩ : ∃ z, z = h0.size := ⟨_, rfl⟩
    rw [← g303] at A303 J303 st303
    have ge_b303 : n0 ≤ b303 := Nat.le_trans Z0 (Nat.le_of_eq g303.symm)
    refine own_Goes.st ?_ st303
    have Z304 : n0 ≤ h303.size := Nat.le_trans Z0 E303.1
    have V305 : Arv Z h303 b303 k303 .int (2 : Int32) [(.int (0 : Int32)), (.int (0 : Int32))] (.int 0) := (Arv.new A303 (by decide)).pad (pad_rep [] _ 2)
    show own_Goes p.tables e below P (T303.setTop (mkF m 94 #[.val (.long p0), .second, .val (.int p1), .val (.int p2), .val (.int p3), .val (.int p4), .val (.int p5), .val (.int (9 : Int32)), .val (.int (1 : Int32)), .val (.int (0 : Int32)), .val (.int (0 : Int32)), .val (.int (1 : Int32)), .val (.int (2 : Int32)), .unset, .unset, .unset, .unset, .unset, .unset, .unset, .unset, .unset, .unset] [(.ref b303)]))
    refine own_Goes.st ?_ (fun _ k => XS.astore X303.here hx rfl (hb hby at_94) rfl rfl (l' := #[.val (.long p0), .second, .val (.int p1), .val (.int p2), .val (.int p3), .val (.int p4), .val (.int p5), .val (.int (9 : Int32)), .val (.int (1 : Int32)), .val (.int (0 : Int32)), .val (.int (0 : Int32)), .val (.int (1 : Int32)), .val (.int (2 : Int32)), .val (.ref b303), .unset, .unset, .unset, .unset, .unset, .unset, .unset, .unset, .unset]) rfl k)
    refine own_Goes.st ?_ (fun _ k => XS.iconst X303.here hx rfl (hb hby at_96) k)
    refine own_Goes.st ?_ (fun _ k => XS.istore X303.here hx rfl (hb hby at_97) rfl (l' := #[.val (.long p0), .second, .val (.int p1), .val (.int p2), .val (.int p3), .val (.int p4), .val (.int p5), .val (.int (9 : Int32)), .val (.int (1 : Int32)), .val (.int (0 : Int32)), .val (.int (0 : Int32)), .val (.int (1 : Int32)), .val (.int (2 : Int32)), .val (.ref b303), .val (.int (0 : Int32)), .unset, .unset, .unset, .unset, .unset, .unset, .unset, .unset]) rfl k)
    refine own_Goes.st ?_ (fun _ k => XS.iload X303.here hx rfl (hb hby at_99) rfl k)
    refine own_Goes.st ?_ (fun _ k => XS.ifNo X303.here hx rfl (hb hby at_101) rfl ((if0 _ _).trans (feq (by decide : ¬ ((1 : Int32) = (0 : Int32)))).1) k)
    refine own_Goes.st ?_ (fun _ k => XS.aload X303.here hx rfl (hb hby at_104) rfl rfl k)
    show own_Goes p.tables e below P (T303.setTop (mkF m 106 #[.val (.long p0), .second, .val (.int p1), .val (.int p2), .val (.int p3), .val (.int p4), .val (.int p5), .val (.int (9 : Int32)), .val (.int (1 : Int32)), .val (.int (0 : Int32)), .val (.int (0 : Int32)), .val (.int (1 : Int32)), .val (.int (2 : Int32)), .val (.ref b303), .val (.int (0 : Int32)), .unset, .unset, .unset, .unset, .unset, .unset, .unset, .unset] [(.ref b303)]))
    refine own_Goes.st ?_ (fun _ k => XS.iload X303.here hx rfl (hb hby at_106) rfl k)
    refine own_Goes.st ?_ (fun _ k => XS.iconst X303.here hx rfl (hb hby at_108) k)
    have Vc306 := V305
    obtain ⟨cl306, Ar306, qc306, S306, Nn306, Hs306, Gs306⟩ := Vc306
    have hin307 : ¬ ((0 : Int32) < 0 ∨ cl306.slots.size ≤ ((0 : Int32)).toNatClampNeg) := inb_of S306 ⟨by decide, by decide⟩
    obtain ⟨T307, h307, X307, e307, W307, st307⟩ := stI X303 hx hZ e303 Ar306 (j := (0 : Int32)) hin307 (g := (mkF m 109 #[.val (.long p0), .second, .val (.int p1), .val (.int p2), .val (.int p3), .val (.int p4), .val (.int p5), .val (.int (9 : Int32)), .val (.int (1 : Int32)), .val (.int (0 : Int32)), .val (.int (0 : Int32)), .val (.int (1 : Int32)), .val (.int (2 : Int32)), .val (.ref b303), .val (.int (0 : Int32)), .unset, .unset, .unset, .unset, .unset, .unset, .unset, .unset] [(.int (0 : Int32)), (.int (0 : Int32)), (.ref b303)])) rfl rfl (hb hby at_109)
    refine own_Goes.st ?_ st307
    have V308 : Arv Z h307 b303 k303 .int (2 : Int32) [(.int (0 : Int32)), (.int (0 : Int32))] (.int 0) := Arv.set Ar306 qc306 S306 Nn306 Hs306 Gs306 rfl W307 0 rfl (Nat.le_of_ble_eq_true rfl)
    have Z309 : n0 ≤ h307.size := by rw [W307.size]; exact Z304
    have N310 := Fr.snoc X307 N0 ge_b303
    show own_Goes p.tables e below P (T307.setTop (mkF m 110 #[.val (.long p0), .second, .val (.int p1), .val (.int p2), .val (.int p3), .val (.int p4), .val (.int p5), .val (.int (9 : Int32)), .val (.int (1 : Int32)), .val (.int (0 : Int32)), .val (.int (0 : Int32)), .val (.int (1 : Int32)), .val (.int (2 : Int32)), .val (.ref b303), .val (.int (0 : Int32)), .unset, .unset, .unset, .unset, .unset, .unset, .unset, .unset] []))
    refine own_Goes.st ?_ (fun _ k => XS.iinc X307.here hx rfl (hb hby at_110) rfl (l' := #[.val (.long p0), .second, .val (.int p1), .val (.int p2), .val (.int p3), .val (.int p4), .val (.int p5), .val (.int (9 : Int32)), .val (.int (1 : Int32)), .val (.int (0 : Int32)), .val (.int (0 : Int32)), .val (.int (1 : Int32)), .val (.int (2 : Int32)), .val (.ref b303), .val (.int (1 : Int32)), .unset, .unset, .unset, .unset, .unset, .unset, .unset, .unset]) rfl k)
    refine own_Goes.st ?_ (fun _ k => XS.iload X307.here hx rfl (hb hby at_113) rfl k)
    refine own_Goes.st ?_ (fun _ k => XS.ifYes X307.here hx rfl (pc0 := 115) (pc' := 127) rfl (hb hby at_115) rfl ((if0 _ _).trans (teq (by decide : (0 : Int32) = (0 : Int32))).1) (by decide) (by decide) k)
    refine own_Goes.st ?_ (fun _ k => XS.iload X307.here hx rfl (hb hby at_127) rfl k)
    refine own_Goes.st ?_ (fun _ k => XS.ifYes X307.here hx rfl (pc0 := 129) (pc' := 141) rfl (hb hby at_129) rfl ((if0 _ _).trans (teq (by decide : (0 : Int32) = (0 : Int32))).1) (by decide) (by decide) k)
    refine own_Goes.st ?_ (fun _ k => XS.iload X307.here hx rfl (hb hby at_141) rfl k)
    show own_Goes p.tables e below P (T307.setTop (mkF m 143 #[.val (.long p0), .second, .val (.int p1), .val (.int p2), .val (.int p3), .val (.int p4), .val (.int p5), .val (.int (9 : Int32)), .val (.int (1 : Int32)), .val (.int (0 : Int32)), .val (.int (0 : Int32)), .val (.int (1 : Int32)), .val (.int (2 : Int32)), .val (.ref b303), .val (.int (1 : Int32)), .unset, .unset, .unset, .unset, .unset, .unset, .unset, .unset] [(.int (1 : Int32))]))
    refine own_Goes.st ?_ (fun _ k => XS.ifNo X307.here hx rfl (hb hby at_143) rfl ((if0 _ _).trans (feq (by decide : ¬ ((1 : Int32) = (0 : Int32)))).1) k)
    refine own_Goes.st ?_ (fun _ k => XS.aload X307.here hx rfl (hb hby at_146) rfl rfl k)
    refine own_Goes.st ?_ (fun _ k => XS.iload X307.here hx rfl (hb hby at_148) rfl k)
    refine own_Goes.st ?_ (fun _ k => XS.iconst X307.here hx rfl (hb hby at_150) k)
    have Vc311 := V308
    obtain ⟨cl311, Ar311, qc311, S311, Nn311, Hs311, Gs311⟩ := Vc311
    have hin312 : ¬ ((1 : Int32) < 0 ∨ cl311.slots.size ≤ ((1 : Int32)).toNatClampNeg) := inb_of S311 ⟨by decide, by decide⟩
    obtain ⟨T312, h312, X312, e312, W312, st312⟩ := stI X307 hx hZ e307 Ar311 (j := (1 : Int32)) hin312 (g := (mkF m 151 #[.val (.long p0), .second, .val (.int p1), .val (.int p2), .val (.int p3), .val (.int p4), .val (.int p5), .val (.int (9 : Int32)), .val (.int (1 : Int32)), .val (.int (0 : Int32)), .val (.int (0 : Int32)), .val (.int (1 : Int32)), .val (.int (2 : Int32)), .val (.ref b303), .val (.int (1 : Int32)), .unset, .unset, .unset, .unset, .unset, .unset, .unset, .unset] [(.int (3 : Int32)), (.int (1 : Int32)), (.ref b303)])) rfl rfl (hb hby at_151)
    refine own_Goes.st ?_ st312
    have V313 : Arv Z h312 b303 k303 .int (2 : Int32) [(.int (0 : Int32)), (.int (3 : Int32))] (.int 0) := Arv.set Ar311 qc311 S311 Nn311 Hs311 Gs311 rfl W312 1 rfl (Nat.le_of_ble_eq_true rfl)
    have Z314 : n0 ≤ h312.size := by rw [W312.size]; exact Z309
    have N315 := Fr.snoc X312 N310 ge_b303
    show own_Goes p.tables e below P (T312.setTop (mkF m 152 #[.val (.long p0), .second, .val (.int p1), .val (.int p2), .val (.int p3), .val (.int p4), .val (.int p5), .val (.int (9 : Int32)), .val (.int (1 : Int32)), .val (.int (0 : Int32)), .val (.int (0 : Int32)), .val (.int (1 : Int32)), .val (.int (2 : Int32)), .val (.ref b303), .val (.int (1 : Int32)), .unset, .unset, .unset, .unset, .unset, .unset, .unset, .unset] []))
    refine own_Goes.st ?_ (fun _ k => XS.iinc X312.here hx rfl (hb hby at_152) rfl (l' := #[.val (.long p0), .second, .val (.int p1), .val (.int p2), .val (.int p3), .val (.int p4), .val (.int p5), .val (.int (9 : Int32)), .val (.int (1 : Int32)), .val (.int (0 : Int32)), .val (.int (0 : Int32)), .val (.int (1 : Int32)), .val (.int (2 : Int32)), .val (.ref b303), .val (.int (2 : Int32)), .unset, .unset, .unset, .unset, .unset, .unset, .unset, .unset]) rfl k)
    refine own_Goes.st ?_ (fun _ k => XS.iload X312.here hx rfl (hb hby at_155) rfl k)
    refine own_Goes.st ?_ (fun _ k => XS.ifYes X312.here hx rfl (pc0 := 157) (pc' := 164) rfl (hb hby at_157) rfl ((if0 _ _).trans (feq (by decide : ¬ ((9 : Int32) = (0 : Int32)))).2) (by decide) (by decide) k)
    refine own_Goes.st ?_ (fun _ k => XS.lloadN X312.here hx rfl (hb hby at_164) rfl k)
    refine own_Goes.st ?_ (fun _ k => XS.bipush X312.here hx rfl (hb hby at_165) k)
    refine own_Goes.st ?_ (fun _ k => XS.lshr X312.here hx rfl (hb hby at_167) rfl k)
    show own_Goes p.tables e below P (T312.setTop (mkF m 168 #[.val (.long p0), .second, .val (.int p1), .val (.int p2), .val (.int p3), .val (.int p4), .val (.int p5), .val (.int (9 : Int32)), .val (.int (1 : Int32)), .val (.int (0 : Int32)), .val (.int (0 : Int32)), .val (.int (1 : Int32)), .val (.int (2 : Int32)), .val (.ref b303), .val (.int (2 : Int32)), .unset, .unset, .unset, .unset, .unset, .unset, .unset, .unset] [(.long (p0 >>> ((14 : Int32) &&& 0x3f).toInt64))]))
    refine own_Goes.st ?_ (fun _ k => XS.lstore X312.here hx rfl (hb hby at_168) rfl (l' := #[.val (.long p0), .second, .val (.int p1), .val (.int p2), .val (.int p3), .val (.int p4), .val (.int p5), .val (.int (9 : Int32)), .val (.int (1 : Int32)), .val (.int (0 : Int32)), .val (.int (0 : Int32)), .val (.int (1 : Int32)), .val (.int (2 : Int32)), .val (.ref b303), .val (.int (2 : Int32)), .val (.long (p0 >>> ((14 : Int32) &&& 0x3f).toInt64)), .second, .unset, .unset, .unset, .unset, .unset, .unset]) rfl k)
    exact T2n _ _ X312 _ e312 N315 Z314 b303 k303 _ _ _ _ _ _ _ _ V313 (own_sh14 p0) (by decide) (by decide) rfl
  · skip
    show own_Goes p.tables e below P (s₁.setTop (mkF m 6 #[.val (.long p0), .second, .val (.int p1), .val (.int p2), .val (.int p3), .val (.int p4), .val (.int p5), .val (.int (10 : Int32)), .unset, .unset, .unset, .unset, .unset, .unset, .unset, .unset, .unset, .unset, .unset, .unset, .unset, .unset, .unset] []))
    refine own_Goes.st ?_ (fun _ k => XS.iload X0.here hx rfl (hb hby at_6) rfl k)
    refine own_Goes.st ?_ (fun _ k => XS.iconst X0.here hx rfl (hb hby at_8) k)
    refine own_Goes.st ?_ (fun _ k => XS.iand X0.here hx rfl (hb hby at_9) rfl k)
    refine own_Goes.st ?_ (fun _ k => XS.ifYes X0.here hx rfl (pc0 := 10) (pc' := 17) rfl (hb hby at_10) rfl ((if0 _ _).trans (teq (by decide : (0 : Int32) = (0 : Int32))).1) (by decide) (by decide) k)
    refine own_Goes.st ?_ (fun _ k => XS.iconst X0.here hx rfl (hb hby at_17) k)
    refine own_Goes.st ?_ (fun _ k => XS.istore X0.here hx rfl (hb hby at_18) rfl (l' := #[.val (.long p0), .second, .val (.int p1), .val (.int p2), .val (.int p3), .val (.int p4), .val (.int p5), .val (.int (10 : Int32)), .val (.int (0 : Int32)), .unset, .unset, .unset, .unset, .unset, .unset, .unset, .unset, .unset, .unset, .unset, .unset, .unset, .unset]) rfl k)
    show own_Goes p.tables e below P (s₁.setTop (mkF m 20 #[.val (.long p0), .second, .val (.int p1), .val (.int p2), .val (.int p3), .val (.int p4), .val (.int p5), .val (.int (10 : Int32)), .val (.int (0 : Int32)), .unset, .unset, .unset, .unset, .unset, .unset, .unset, .unset, .unset, .unset, .unset, .unset, .unset, .unset] []))
    refine own_Goes.st ?_ (fun _ k => XS.iload X0.here hx rfl (hb hby at_20) rfl k)
    refine own_Goes.st ?_ (fun _ k => XS.iconst X0.here hx rfl (hb hby at_22) k)
    refine own_Goes.st ?_ (fun _ k => XS.iand X0.here hx rfl (hb hby at_23) rfl k)
    refine own_Goes.st ?_ (fun _ k => XS.ifNo X0.here hx rfl (hb hby at_24) rfl ((if0 _ _).trans (feq (by decide : ¬ ((2 : Int32) = (0 : Int32)))).1) k)
    refine own_Goes.st ?_ (fun _ k => XS.iconst X0.here hx rfl (hb hby at_27) k)
    refine own_Goes.st ?_ (fun _ k => XS.goto X0.here hx rfl (pc0 := 28) (pc' := 32) rfl (hb hby at_28) (by decide) (by decide) k)
    show own_Goes p.tables e below P (s₁.setTop (mkF m 32 #[.val (.long p0), .second, .val (.int p1), .val (.int p2), .val (.int p3), .val (.int p4), .val (.int p5), .val (.int (10 : Int32)), .val (.int (0 : Int32)), .unset, .unset, .unset, .unset, .unset, .unset, .unset, .unset, .unset, .unset, .unset, .unset, .unset, .unset] [(.int (1 : Int32))]))
    refine own_Goes.st ?_ (fun _ k => XS.istore X0.here hx rfl (hb hby at_32) rfl (l' := #[.val (.long p0), .second, .val (.int p1), .val (.int p2), .val (.int p3), .val (.int p4), .val (.int p5), .val (.int (10 : Int32)), .val (.int (0 : Int32)), .val (.int (1 : Int32)), .unset, .unset, .unset, .unset, .unset, .unset, .unset, .unset, .unset, .unset, .unset, .unset, .unset]) rfl k)
    refine own_Goes.st ?_ (fun _ k => XS.iload X0.here hx rfl (hb hby at_34) rfl k)
    refine own_Goes.st ?_ (fun _ k => XS.iconst X0.here hx rfl (hb hby at_36) k)
    refine own_Goes.st ?_ (fun _ k => XS.iand X0.here hx rfl (hb hby at_37) rfl k)
    refine own_Goes.st ?_ (fun _ k => XS.ifYes X0.here hx rfl (pc0 := 38) (pc' := 45) rfl (hb hby at_38) rfl ((if0 _ _).trans (teq (by decide : (0 : Int32) = (0 : Int32))).1) (by decide) (by decide) k)
    refine own_Goes.st ?_ (fun _ k => XS.iconst X0.here hx rfl (hb hby at_45) k)
    show own_Goes p.tables e below P (s₁.setTop (mkF m 46 #[.val (.long p0), .second, .val (.int p1), .val (.int p2), .val (.int p3), .val (.int p4), .val (.int p5), .val (.int (10 : Int32)), .val (.int (0 : Int32)), .val (.int (1 : Int32)), .unset, .unset, .unset, .unset, .unset, .unset, .unset, .unset, .unset, .unset, .unset, .unset, .unset] [(.int (0 : Int32))]))
    refine own_Goes.st ?_ (fun _ k => XS.istore X0.here hx rfl (hb hby at_46) rfl (l' := #[.val (.long p0), .second, .val (.int p1), .val (.int p2), .val (.int p3), .val (.int p4), .val (.int p5), .val (.int (10 : Int32)), .val (.int (0 : Int32)), .val (.int (1 : Int32)), .val (.int (0 : Int32)), .unset, .unset, .unset, .unset, .unset, .unset, .unset, .unset, .unset, .unset, .unset, .unset]) rfl k)
    refine own_Goes.st ?_ (fun _ k => XS.iload X0.here hx rfl (hb hby at_48) rfl k)
    refine own_Goes.st ?_ (fun _ k => XS.bipush X0.here hx rfl (hb hby at_50) k)
    refine own_Goes.st ?_ (fun _ k => XS.iand X0.here hx rfl (hb hby at_52) rfl k)
    refine own_Goes.st ?_ (fun _ k => XS.ifNo X0.here hx rfl (hb hby at_53) rfl ((if0 _ _).trans (feq (by decide : ¬ ((8 : Int32) = (0 : Int32)))).1) k)
    refine own_Goes.st ?_ (fun _ k => XS.iconst X0.here hx rfl (hb hby at_56) k)
    show own_Goes p.tables e below P (s₁.setTop (mkF m 57 #[.val (.long p0), .second, .val (.int p1), .val (.int p2), .val (.int p3), .val (.int p4), .val (.int p5), .val (.int (10 : Int32)), .val (.int (0 : Int32)), .val (.int (1 : Int32)), .val (.int (0 : Int32)), .unset, .unset, .unset, .unset, .unset, .unset, .unset, .unset, .unset, .unset, .unset, .unset] [(.int (1 : Int32))]))
    refine own_Goes.st ?_ (fun _ k => XS.goto X0.here hx rfl (pc0 := 57) (pc' := 61) rfl (hb hby at_57) (by decide) (by decide) k)
    refine own_Goes.st ?_ (fun _ k => XS.istore X0.here hx rfl (hb hby at_61) rfl (l' := #[.val (.long p0), .second, .val (.int p1), .val (.int p2), .val (.int p3), .val (.int p4), .val (.int p5), .val (.int (10 : Int32)), .val (.int (0 : Int32)), .val (.int (1 : Int32)), .val (.int (0 : Int32)), .val (.int (1 : Int32)), .unset, .unset, .unset, .unset, .unset, .unset, .unset, .unset, .unset, .unset, .unset]) rfl k)
    refine own_Goes.st ?_ (fun _ k => XS.iload X0.here hx rfl (hb hby at_63) rfl k)
    refine own_Goes.st ?_ (fun _ k => XS.iconst X0.here hx rfl (hb hby at_65) k)
    refine own_Goes.st ?_ (fun _ k => XS.iand X0.here hx rfl (hb hby at_66) rfl k)
    refine own_Goes.st ?_ (fun _ k => XS.iload X0.here hx rfl (hb hby at_67) rfl k)
    show own_Goes p.tables e below P (s₁.setTop (mkF m 69 #[.val (.long p0), .second, .val (.int p1), .val (.int p2), .val (.int p3), .val (.int p4), .val (.int p5), .val (.int (10 : Int32)), .val (.int (0 : Int32)), .val (.int (1 : Int32)), .val (.int (0 : Int32)), .val (.int (1 : Int32)), .unset, .unset, .unset, .unset, .unset, .unset, .unset, .unset, .unset, .unset, .unset] [(.int (10 : Int32)), (.int (0 : Int32))]))
    refine own_Goes.st ?_ (fun _ k => XS.iconst X0.here hx rfl (hb hby at_69) k)
    refine own_Goes.st ?_ (fun _ k => XS.ishr X0.here hx rfl (hb hby at_70) rfl k)
    refine own_Goes.st ?_ (fun _ k => XS.iconst X0.here hx rfl (hb hby at_71) k)
    refine own_Goes.st ?_ (fun _ k => XS.iand X0.here hx rfl (hb hby at_72) rfl k)
    refine own_Goes.st ?_ (fun _ k => XS.iadd X0.here hx rfl (hb hby at_73) rfl k)
    refine own_Goes.st ?_ (fun _ k => XS.iload X0.here hx rfl (hb hby at_74) rfl k)
    show own_Goes p.tables e below P (s₁.setTop (mkF m 76 #[.val (.long p0), .second, .val (.int p1), .val (.int p2), .val (.int p3), .val (.int p4), .val (.int p5), .val (.int (10 : Int32)), .val (.int (0 : Int32)), .val (.int (1 : Int32)), .val (.int (0 : Int32)), .val (.int (1 : Int32)), .unset, .unset, .unset, .unset, .unset, .unset, .unset, .unset, .unset, .unset, .unset] [(.int (10 : Int32)), (.int (1 : Int32))]))
    refine own_Goes.st ?_ (fun _ k => XS.iconst X0.here hx rfl (hb hby at_76) k)
    refine own_Goes.st ?_ (fun _ k => XS.ishr X0.here hx rfl (hb hby at_77) rfl k)
    refine own_Goes.st ?_ (fun _ k => XS.iconst X0.here hx rfl (hb hby at_78) k)
    refine own_Goes.st ?_ (fun _ k => XS.iand X0.here hx rfl (hb hby at_79) rfl k)
    refine own_Goes.st ?_ (fun _ k => XS.iadd X0.here hx rfl (hb hby at_80) rfl k)
    refine own_Goes.st ?_ (fun _ k => XS.iload X0.here hx rfl (hb hby at_81) rfl k)
    show own_Goes p.tables e below P (s₁.setTop (mkF m 83 #[.val (.long p0), .second, .val (.int p1), .val (.int p2), .val (.int p3), .val (.int p4), .val (.int p5), .val (.int (10 : Int32)), .val (.int (0 : Int32)), .val (.int (1 : Int32)), .val (.int (0 : Int32)), .val (.int (1 : Int32)), .unset, .unset, .unset, .unset, .unset, .unset, .unset, .unset, .unset, .unset, .unset] [(.int (10 : Int32)), (.int (1 : Int32))]))
    refine own_Goes.st ?_ (fun _ k => XS.iconst X0.here hx rfl (hb hby at_83) k)
    refine own_Goes.st ?_ (fun _ k => XS.ishr X0.here hx rfl (hb hby at_84) rfl k)
    refine own_Goes.st ?_ (fun _ k => XS.iconst X0.here hx rfl (hb hby at_85) k)
    refine own_Goes.st ?_ (fun _ k => XS.iand X0.here hx rfl (hb hby at_86) rfl k)
    refine own_Goes.st ?_ (fun _ k => XS.iadd X0.here hx rfl (hb hby at_87) rfl k)
    refine own_Goes.st ?_ (fun _ k => XS.istore X0.here hx rfl (hb hby at_88) rfl (l' := #[.val (.long p0), .second, .val (.int p1), .val (.int p2), .val (.int p3), .val (.int p4), .val (.int p5), .val (.int (10 : Int32)), .val (.int (0 : Int32)), .val (.int (1 : Int32)), .val (.int (0 : Int32)), .val (.int (1 : Int32)), .val (.int (2 : Int32)), .unset, .unset, .unset, .unset, .unset, .unset, .unset, .unset, .unset, .unset]) rfl k)
    show own_Goes p.tables e below P (s₁.setTop (mkF m 90 #[.val (.long p0), .second, .val (.int p1), .val (.int p2), .val (.int p3), .val (.int p4), .val (.int p5), .val (.int (10 : Int32)), .val (.int (0 : Int32)), .val (.int (1 : Int32)), .val (.int (0 : Int32)), .val (.int (1 : Int32)), .val (.int (2 : Int32)), .unset, .unset, .unset, .unset, .unset, .unset, .unset, .unset, .unset, .unset] []))
    refine own_Goes.st ?_ (fun _ k => XS.iload X0.here hx rfl (hb hby at_90) rfl k)
    obtain ⟨T316, h316, k316, X316, e316, E316, A316, J316, st316⟩ := newPE X0 hx hZ (hw _ (List.mem_of_getElem? (i := 0) rfl)) e0 (g := (mkF m 92 #[.val (.long p0), .second, .val (.int p1), .val (.int p2), .val (.int p3), .val (.int p4), .val (.int p5), .val (.int (10 : Int32)), .val (.int (0 : Int32)), .val (.int (1 : Int32)), .val (.int (0 : Int32)), .val (.int (1 : Int32)), .val (.int (2 : Int32)), .unset, .unset, .unset, .unset, .unset, .unset, .unset, .unset, .unset, .unset] [(.int (2 : Int32))])) rfl (hb hby at_92) rfl (by decide) (cap := 4) (by decide) (by decide) (by decide) (by decide) (ad := "[I") rfl
    obtain ⟨b316, g316⟩ : ∃ z, z = h0.size := ⟨_, rfl⟩
    rw [← g316] at A316 J316 st316
    have ge_b316 : n0 ≤ b316 := Nat.le_trans Z0 (Nat.le_of_eq g316.symm)
    refine own_Goes.st ?_ st316
    have Z317 : n0 ≤ h316.size := Nat.le_trans Z0 E316.1
    have V318 : Arv Z h316 b316 k316 .int (2 : Int32) [(.int (0 : Int32)), (.int (0 : Int32))] (.int 0) := (Arv.new A316 (by decide)).pad (pad_rep [] _ 2)
    show own_Goes p.tables e below P (T316.setTop (mkF m 94 #[.val (.long p0), .second, .val (.int p1), .val (.int p2), .val (.int p3), .val (.int p4), .val (.int p5), .val (.int (10 : Int32)), .val (.int (0 : Int32)), .val (.int (1 : Int32)), .val (.int (0 : Int32)), .val (.int (1 : Int32)), .val (.int (2 : Int32)), .unset, .unset, .unset, .unset, .unset, .unset, .unset, .unset, .unset, .unset] [(.ref b316)]))
    refine own_Goes.st ?_ (fun _ k => XS.astore X316.here hx rfl (hb hby at_94) rfl rfl (l' := #[.val (.long p0), .second, .val (.int p1), .val (.int p2), .val (.int p3), .val (.int p4), .val (.int p5), .val (.int (10 : Int32)), .val (.int (0 : Int32)), .val (.int (1 : Int32)), .val (.int (0 : Int32)), .val (.int (1 : Int32)), .val (.int (2 : Int32)), .val (.ref b316), .unset, .unset, .unset, .unset, .unset, .unset, .unset, .unset, .unset]) rfl k)
    refine own_Goes.st ?_ (fun _ k => XS.iconst X316.here hx rfl (hb hby at_96) k)
    refine own_Goes.st ?_ (fun _ k => XS.istore X316.here hx rfl (hb hby at_97) rfl (l' := #[.val (.long p0), .second, .val (.int p1), .val (.int p2), .val (.int p3), .val (.int p4), .val (.int p5), .val (.int (10 : Int32)), .val (.int (0 : Int32)), .val (.int (1 : Int32)), .val (.int (0 : Int32)), .val (.int (1 : Int32)), .val (.int (2 : Int32)), .val (.ref b316), .val (.int (0 : Int32)), .unset, .unset, .unset, .unset, .unset, .unset, .unset, .unset]) rfl k)
    refine own_Goes.st ?_ (fun _ k => XS.iload X316.here hx rfl (hb hby at_99) rfl k)
    refine own_Goes.st ?_ (fun _ k => XS.ifYes X316.here hx rfl (pc0 := 101) (pc' := 113) rfl (hb hby at_101) rfl ((if0 _ _).trans (teq (by decide : (0 : Int32) = (0 : Int32))).1) (by decide) (by decide) k)
    refine own_Goes.st ?_ (fun _ k => XS.iload X316.here hx rfl (hb hby at_113) rfl k)
    show own_Goes p.tables e below P (T316.setTop (mkF m 115 #[.val (.long p0), .second, .val (.int p1), .val (.int p2), .val (.int p3), .val (.int p4), .val (.int p5), .val (.int (10 : Int32)), .val (.int (0 : Int32)), .val (.int (1 : Int32)), .val (.int (0 : Int32)), .val (.int (1 : Int32)), .val (.int (2 : Int32)), .val (.ref b316), .val (.int (0 : Int32)), .unset, .unset, .unset, .unset, .unset, .unset, .unset, .unset] [(.int (1 : Int32))]))
    refine own_Goes.st ?_ (fun _ k => XS.ifNo X316.here hx rfl (hb hby at_115) rfl ((if0 _ _).trans (feq (by decide : ¬ ((1 : Int32) = (0 : Int32)))).1) k)
    refine own_Goes.st ?_ (fun _ k => XS.aload X316.here hx rfl (hb hby at_118) rfl rfl k)
    refine own_Goes.st ?_ (fun _ k => XS.iload X316.here hx rfl (hb hby at_120) rfl k)
    refine own_Goes.st ?_ (fun _ k => XS.iconst X316.here hx rfl (hb hby at_122) k)
    have Vc319 := V318
    obtain ⟨cl319, Ar319, qc319, S319, Nn319, Hs319, Gs319⟩ := Vc319
    have hin320 : ¬ ((0 : Int32) < 0 ∨ cl319.slots.size ≤ ((0 : Int32)).toNatClampNeg) := inb_of S319 ⟨by decide, by decide⟩
    obtain ⟨T320, h320, X320, e320, W320, st320⟩ := stI X316 hx hZ e316 Ar319 (j := (0 : Int32)) hin320 (g := (mkF m 123 #[.val (.long p0), .second, .val (.int p1), .val (.int p2), .val (.int p3), .val (.int p4), .val (.int p5), .val (.int (10 : Int32)), .val (.int (0 : Int32)), .val (.int (1 : Int32)), .val (.int (0 : Int32)), .val (.int (1 : Int32)), .val (.int (2 : Int32)), .val (.ref b316), .val (.int (0 : Int32)), .unset, .unset, .unset, .unset, .unset, .unset, .unset, .unset] [(.int (1 : Int32)), (.int (0 : Int32)), (.ref b316)])) rfl rfl (hb hby at_123)
    refine own_Goes.st ?_ st320
    have V321 : Arv Z h320 b316 k316 .int (2 : Int32) [(.int (1 : Int32)), (.int (0 : Int32))] (.int 0) := Arv.set Ar319 qc319 S319 Nn319 Hs319 Gs319 rfl W320 0 rfl (Nat.le_of_ble_eq_true rfl)
    have Z322 : n0 ≤ h320.size := by rw [W320.size]; exact Z317
    have N323 := Fr.snoc X320 N0 ge_b316
    show own_Goes p.tables e below P (T320.setTop (mkF m 124 #[.val (.long p0), .second, .val (.int p1), .val (.int p2), .val (.int p3), .val (.int p4), .val (.int p5), .val (.int (10 : Int32)), .val (.int (0 : Int32)), .val (.int (1 : Int32)), .val (.int (0 : Int32)), .val (.int (1 : Int32)), .val (.int (2 : Int32)), .val (.ref b316), .val (.int (0 : Int32)), .unset, .unset, .unset, .unset, .unset, .unset, .unset, .unset] []))
    refine own_Goes.st ?_ (fun _ k => XS.iinc X320.here hx rfl (hb hby at_124) rfl (l' := #[.val (.long p0), .second, .val (.int p1), .val (.int p2), .val (.int p3), .val (.int p4), .val (.int p5), .val (.int (10 : Int32)), .val (.int (0 : Int32)), .val (.int (1 : Int32)), .val (.int (0 : Int32)), .val (.int (1 : Int32)), .val (.int (2 : Int32)), .val (.ref b316), .val (.int (1 : Int32)), .unset, .unset, .unset, .unset, .unset, .unset, .unset, .unset]) rfl k)
    refine own_Goes.st ?_ (fun _ k => XS.iload X320.here hx rfl (hb hby at_127) rfl k)
    refine own_Goes.st ?_ (fun _ k => XS.ifYes X320.here hx rfl (pc0 := 129) (pc' := 141) rfl (hb hby at_129) rfl ((if0 _ _).trans (teq (by decide : (0 : Int32) = (0 : Int32))).1) (by decide) (by decide) k)
    refine own_Goes.st ?_ (fun _ k => XS.iload X320.here hx rfl (hb hby at_141) rfl k)
    refine own_Goes.st ?_ (fun _ k => XS.ifNo X320.here hx rfl (hb hby at_143) rfl ((if0 _ _).trans (feq (by decide : ¬ ((1 : Int32) = (0 : Int32)))).1) k)
    refine own_Goes.st ?_ (fun _ k => XS.aload X320.here hx rfl (hb hby at_146) rfl rfl k)
    show own_Goes p.tables e below P (T320.setTop (mkF m 148 #[.val (.long p0), .second, .val (.int p1), .val (.int p2), .val (.int p3), .val (.int p4), .val (.int p5), .val (.int (10 : Int32)), .val (.int (0 : Int32)), .val (.int (1 : Int32)), .val (.int (0 : Int32)), .val (.int (1 : Int32)), .val (.int (2 : Int32)), .val (.ref b316), .val (.int (1 : Int32)), .unset, .unset, .unset, .unset, .unset, .unset, .unset, .unset] [(.ref b316)]))
    refine own_Goes.st ?_ (fun _ k => XS.iload X320.here hx rfl (hb hby at_148) rfl k)
    refine own_Goes.st ?_ (fun _ k => XS.iconst X320.here hx rfl (hb hby at_150) k)
    have Vc324 := V321
    obtain ⟨cl324, Ar324, qc324, S324, Nn324, Hs324, Gs324⟩ := Vc324
    have hin325 : ¬ ((1 : Int32) < 0 ∨ cl324.slots.size ≤ ((1 : Int32)).toNatClampNeg) := inb_of S324 ⟨by decide, by decide⟩
    obtain ⟨T325, h325, X325, e325, W325, st325⟩ := stI X320 hx hZ e320 Ar324 (j := (1 : Int32)) hin325 (g := (mkF m 151 #[.val (.long p0), .second, .val (.int p1), .val (.int p2), .val (.int p3), .val (.int p4), .val (.int p5), .val (.int (10 : Int32)), .val (.int (0 : Int32)), .val (.int (1 : Int32)), .val (.int (0 : Int32)), .val (.int (1 : Int32)), .val (.int (2 : Int32)), .val (.ref b316), .val (.int (1 : Int32)), .unset, .unset, .unset, .unset, .unset, .unset, .unset, .unset] [(.int (3 : Int32)), (.int (1 : Int32)), (.ref b316)])) rfl rfl (hb hby at_151)
    refine own_Goes.st ?_ st325
    have V326 : Arv Z h325 b316 k316 .int (2 : Int32) [(.int (1 : Int32)), (.int (3 : Int32))] (.int 0) := Arv.set Ar324 qc324 S324 Nn324 Hs324 Gs324 rfl W325 1 rfl (Nat.le_of_ble_eq_true rfl)
    have Z327 : n0 ≤ h325.size := by rw [W325.size]; exact Z322
    have N328 := Fr.snoc X325 N323 ge_b316
    show own_Goes p.tables e below P (T325.setTop (mkF m 152 #[.val (.long p0), .second, .val (.int p1), .val (.int p2), .val (.int p3), .val (.int p4), .val (.int p5), .val (.int (10 : Int32)), .val (.int (0 : Int32)), .val (.int (1 : Int32)), .val (.int (0 : Int32)), .val (.int (1 : Int32)), .val (.int (2 : Int32)), .val (.ref b316), .val (.int (1 : Int32)), .unset, .unset, .unset, .unset, .unset, .unset, .unset, .unset] []))
    refine own_Goes.st ?_ (fun _ k => XS.iinc X325.here hx rfl (hb hby at_152) rfl (l' := #[.val (.long p0), .second, .val (.int p1), .val (.int p2), .val (.int p3), .val (.int p4), .val (.int p5), .val (.int (10 : Int32)), .val (.int (0 : Int32)), .val (.int (1 : Int32)), .val (.int (0 : Int32)), .val (.int (1 : Int32)), .val (.int (2 : Int32)), .val (.ref b316), .val (.int (2 : Int32)), .unset, .unset, .unset, .unset, .unset, .unset, .unset, .unset]) rfl k)
    refine own_Goes.st ?_ (fun _ k => XS.iload X325.here hx rfl (hb hby at_155) rfl k)
    refine own_Goes.st ?_ (fun _ k => XS.ifYes X325.here hx rfl (pc0 := 157) (pc' := 164) rfl (hb hby at_157) rfl ((if0 _ _).trans (feq (by decide : ¬ ((10 : Int32) = (0 : Int32)))).2) (by decide) (by decide) k)
    refine own_Goes.st ?_ (fun _ k => XS.lloadN X325.here hx rfl (hb hby at_164) rfl k)
    refine own_Goes.st ?_ (fun _ k => XS.bipush X325.here hx rfl (hb hby at_165) k)
    refine own_Goes.st ?_ (fun _ k => XS.lshr X325.here hx rfl (hb hby at_167) rfl k)
    show own_Goes p.tables e below P (T325.setTop (mkF m 168 #[.val (.long p0), .second, .val (.int p1), .val (.int p2), .val (.int p3), .val (.int p4), .val (.int p5), .val (.int (10 : Int32)), .val (.int (0 : Int32)), .val (.int (1 : Int32)), .val (.int (0 : Int32)), .val (.int (1 : Int32)), .val (.int (2 : Int32)), .val (.ref b316), .val (.int (2 : Int32)), .unset, .unset, .unset, .unset, .unset, .unset, .unset, .unset] [(.long (p0 >>> ((14 : Int32) &&& 0x3f).toInt64))]))
    refine own_Goes.st ?_ (fun _ k => XS.lstore X325.here hx rfl (hb hby at_168) rfl (l' := #[.val (.long p0), .second, .val (.int p1), .val (.int p2), .val (.int p3), .val (.int p4), .val (.int p5), .val (.int (10 : Int32)), .val (.int (0 : Int32)), .val (.int (1 : Int32)), .val (.int (0 : Int32)), .val (.int (1 : Int32)), .val (.int (2 : Int32)), .val (.ref b316), .val (.int (2 : Int32)), .val (.long (p0 >>> ((14 : Int32) &&& 0x3f).toInt64)), .second, .unset, .unset, .unset, .unset, .unset, .unset]) rfl k)
    exact T2n _ _ X325 _ e325 N328 Z327 b316 k316 _ _ _ _ _ _ _ _ V326 (own_sh14 p0) (by decide) (by decide) rfl
  · skip
    show own_Goes p.tables e below P (s₁.setTop (mkF m 6 #[.val (.long p0), .second, .val (.int p1), .val (.int p2), .val (.int p3), .val (.int p4), .val (.int p5), .val (.int (11 : Int32)), .unset, .unset, .unset, .unset, .unset, .unset, .unset, .unset, .unset, .unset, .unset, .unset, .unset, .unset, .unset] []))
    refine own_Goes.st ?_ (fun _ k => XS.iload X0.here hx rfl (hb hby at_6) rfl k)
    refine own_Goes.st ?_ (fun _ k => XS.iconst X0.here hx rfl (hb hby at_8) k)
    refine own_Goes.st ?_ (fun _ k => XS.iand X0.here hx rfl (hb hby at_9) rfl k)
    refine own_Goes.st ?_ (fun _ k => XS.ifNo X0.here hx rfl (hb hby at_10) rfl ((if0 _ _).trans (feq (by decide : ¬ ((1 : Int32) = (0 : Int32)))).1) k)
    refine own_Goes.st ?_ (fun _ k => XS.iconst X0.here hx rfl (hb hby at_13) k)
    refine own_Goes.st ?_ (fun _ k => XS.goto X0.here hx rfl (pc0 := 14) (pc' := 18) rfl (hb hby at_14) (by decide) (by decide) k)
    show own_Goes p.tables e below P (s₁.setTop (mkF m 18 #[.val (.long p0), .second, .val (.int p1), .val (.int p2), .val (.int p3), .val (.int p4), .val (.int p5), .val (.int (11 : Int32)), .unset, .unset, .unset, .unset, .unset, .unset, .unset, .unset, .unset, .unset, .unset, .unset, .unset, .unset, .unset] [(.int (1 : Int32))]))
    refine own_Goes.st ?_ (fun _ k => XS.istore X0.here hx rfl (hb hby at_18) rfl (l' := #[.val (.long p0), .second, .val (.int p1), .val (.int p2), .val (.int p3), .val (.int p4), .val (.int p5), .val (.int (11 : Int32)), .val (.int (1 : Int32)), .unset, .unset, .unset, .unset, .unset, .unset, .unset, .unset, .unset, .unset, .unset, .unset, .unset, .unset]) rfl k)
    refine own_Goes.st ?_ (fun _ k => XS.iload X0.here hx rfl (hb hby at_20) rfl k)
    refine own_Goes.st ?_ (fun _ k => XS.iconst X0.here hx rfl (hb hby at_22) k)
    refine own_Goes.st ?_ (fun _ k => XS.iand X0.here hx rfl (hb hby at_23) rfl k)
    refine own_Goes.st ?_ (fun _ k => XS.ifNo X0.here hx rfl (hb hby at_24) rfl ((if0 _ _).trans (feq (by decide : ¬ ((2 : Int32) = (0 : Int32)))).1) k)
    refine own_Goes.st ?_ (fun _ k => XS.iconst X0.here hx rfl (hb hby at_27) k)
    show own_Goes p.tables e below P (s₁.setTop (mkF m 28 #[.val (.long p0), .second, .val (.int p1), .val (.int p2), .val (.int p3), .val (.int p4), .val (.int p5), .val (.int (11 : Int32)), .val (.int (1 : Int32)), .unset, .unset, .unset, .unset, .unset, .unset, .unset, .unset, .unset, .unset, .unset, .unset, .unset, .unset] [(.int (1 : Int32))]))
    refine own_Goes.st ?_ (fun _ k => XS.goto X0.here hx rfl (pc0 := 28) (pc' := 32) rfl (hb hby at_28) (by decide) (by decide) k)
    refine own_Goes.st ?_ (fun _ k => XS.istore X0.here hx rfl (hb hby at_32) rfl (l' := #[.val (.long p0), .second, .val (.int p1), .val (.int p2), .val (.int p3), .val (.int p4), .val (.int p5), .val (.int (11 : Int32)), .val (.int (1 : Int32)), .val (.int (1 : Int32)), .unset, .unset, .unset, .unset, .unset, .unset, .unset, .unset, .unset, .unset, .unset, .unset, .unset]) rfl k)
    refine own_Goes.st ?_ (fun _ k => XS.iload X0.here hx rfl (hb hby at_34) rfl k)
    refine own_Goes.st ?_ (fun _ k => XS.iconst X0.here hx rfl (hb hby at_36) k)
    refine own_Goes.st ?_ (fun _ k => XS.iand X0.here hx rfl (hb hby at_37) rfl k)
    refine own_Goes.st ?_ (fun _ k => XS.ifYes X0.here hx rfl (pc0 := 38) (pc' := 45) rfl (hb hby at_38) rfl ((if0 _ _).trans (teq (by decide : (0 : Int32) = (0 : Int32))).1) (by decide) (by decide) k)
    show own_Goes p.tables e below P (s₁.setTop (mkF m 45 #[.val (.long p0), .second, .val (.int p1), .val (.int p2), .val (.int p3), .val (.int p4), .val (.int p5), .val (.int (11 : Int32)), .val (.int (1 : Int32)), .val (.int (1 : Int32)), .unset, .unset, .unset, .unset, .unset, .unset, .unset, .unset, .unset, .unset, .unset, .unset, .unset] []))
    refine own_Goes.st ?_ (fun _ k => XS.iconst X0.here hx rfl (hb hby at_45) k)
    refine own_Goes.st ?_ (fun _ k => XS.istore X0.here hx rfl (hb hby at_46) rfl (l' := #[.val (.long p0), .second, .val (.int p1), .val (.int p2), .val (.int p3), .val (.int p4), .val (.int p5), .val (.int (11 : Int32)), .val (.int (1 : Int32)), .val (.int (1 : Int32)), .val (.int (0 : Int32)), .unset, .unset, .unset, .unset, .unset, .unset, .unset, .unset, .unset, .unset, .unset, .unset]) rfl k)
    refine own_Goes.st ?_ (fun _ k => XS.iload X0.here hx rfl (hb hby at_48) rfl k)
    refine own_Goes.st ?_ (fun _ k => XS.bipush X0.here hx rfl (hb hby at_50) k)
    refine own_Goes.st ?_ (fun _ k => XS.iand X0.here hx rfl (hb hby at_52) rfl k)
    refine own_Goes.st ?_ (fun _ k => XS.ifNo X0.here hx rfl (hb hby at_53) rfl ((if0 _ _).trans (feq (by decide : ¬ ((8 : Int32) = (0 : Int32)))).1) k)
    show own_Goes p.tables e below P (s₁.setTop (mkF m 56 #[.val (.long p0), .second, .val (.int p1), .val (.int p2), .val (.int p3), .val (.int p4), .val (.int p5), .val (.int (11 : Int32)), .val (.int (1 : Int32)), .val (.int (1 : Int32)), .val (.int (0 : Int32)), .unset, .unset, .unset, .unset, .unset, .unset, .unset, .unset, .unset, .unset, .unset, .unset] []))
    refine own_Goes.st ?_ (fun _ k => XS.iconst X0.here hx rfl (hb hby at_56) k)
    refine own_Goes.st ?_ (fun _ k => XS.goto X0.here hx rfl (pc0 := 57) (pc' := 61) rfl (hb hby at_57) (by decide) (by decide) k)
    refine own_Goes.st ?_ (fun _ k => XS.istore X0.here hx rfl (hb hby at_61) rfl (l' := #[.val (.long p0), .second, .val (.int p1), .val (.int p2), .val (.int p3), .val (.int p4), .val (.int p5), .val (.int (11 : Int32)), .val (.int (1 : Int32)), .val (.int (1 : Int32)), .val (.int (0 : Int32)), .val (.int (1 : Int32)), .unset, .unset, .unset, .unset, .unset, .unset, .unset, .unset, .unset, .unset, .unset]) rfl k)
    refine own_Goes.st ?_ (fun _ k => XS.iload X0.here hx rfl (hb hby at_63) rfl k)
    refine own_Goes.st ?_ (fun _ k => XS.iconst X0.here hx rfl (hb hby at_65) k)
    refine own_Goes.st ?_ (fun _ k => XS.iand X0.here hx rfl (hb hby at_66) rfl k)
    show own_Goes p.tables e below P (s₁.setTop (mkF m 67 #[.val (.long p0), .second, .val (.int p1), .val (.int p2), .val (.int p3), .val (.int p4), .val (.int p5), .val (.int (11 : Int32)), .val (.int (1 : Int32)), .val (.int (1 : Int32)), .val (.int (0 : Int32)), .val (.int (1 : Int32)), .unset, .unset, .unset, .unset, .unset, .unset, .unset, .unset, .unset, .unset, .unset] [(.int (1 : Int32))]))
    refine own_Goes.st ?_ (fun _ k => XS.iload X0.here hx rfl (hb hby at_67) rfl k)
    refine own_Goes.st ?_ (fun _ k => XS.iconst X0.here hx rfl (hb hby at_69) k)
    refine own_Goes.st ?_ (fun _ k => XS.ishr X0.here hx rfl (hb hby at_70) rfl k)
    refine own_Goes.st ?_ (fun _ k => XS.iconst X0.here hx rfl (hb hby at_71) k)
    refine own_Goes.st ?_ (fun _ k => XS.iand X0.here hx rfl (hb hby at_72) rfl k)
    refine own_Goes.st ?_ (fun _ k => XS.iadd X0.here hx rfl (hb hby at_73) rfl k)
    show own_Goes p.tables e below P (s₁.setTop (mkF m 74 #[.val (.long p0), .second, .val (.int p1), .val (.int p2), .val (.int p3), .val (.int p4), .val (.int p5), .val (.int (11 : Int32)), .val (.int (1 : Int32)), .val (.int (1 : Int32)), .val (.int (0 : Int32)), .val (.int (1 : Int32)), .unset, .unset, .unset, .unset, .unset, .unset, .unset, .unset, .unset, .unset, .unset] [(.int (2 : Int32))]))
    refine own_Goes.st ?_ (fun _ k => XS.iload X0.here hx rfl (hb hby at_74) rfl k)
    refine own_Goes.st ?_ (fun _ k => XS.iconst X0.here hx rfl (hb hby at_76) k)
    refine own_Goes.st ?_ (fun _ k => XS.ishr X0.here hx rfl (hb hby at_77) rfl k)
    refine own_Goes.st ?_ (fun _ k => XS.iconst X0.here hx rfl (hb hby at_78) k)
    refine own_Goes.st ?_ (fun _ k => XS.iand X0.here hx rfl (hb hby at_79) rfl k)
    refine own_Goes.st ?_ (fun _ k => XS.iadd X0.here hx rfl (hb hby at_80) rfl k)
    show own_Goes p.tables e below P (s₁.setTop (mkF m 81 #[.val (.long p0), .second, .val (.int p1), .val (.int p2), .val (.int p3), .val (.int p4), .val (.int p5), .val (.int (11 : Int32)), .val (.int (1 : Int32)), .val (.int (1 : Int32)), .val (.int (0 : Int32)), .val (.int (1 : Int32)), .unset, .unset, .unset, .unset, .unset, .unset, .unset, .unset, .unset, .unset, .unset] [(.int (2 : Int32))]))
    refine own_Goes.st ?_ (fun _ k => XS.iload X0.here hx rfl (hb hby at_81) rfl k)
    refine own_Goes.st ?_ (fun _ k => XS.iconst X0.here hx rfl (hb hby at_83) k)
    refine own_Goes.st ?_ (fun _ k => XS.ishr X0.here hx rfl (hb hby at_84) rfl k)
    refine own_Goes.st ?_ (fun _ k => XS.iconst X0.here hx rfl (hb hby at_85) k)
    refine own_Goes.st ?_ (fun _ k => XS.iand X0.here hx rfl (hb hby at_86) rfl k)
    refine own_Goes.st ?_ (fun _ k => XS.iadd X0.here hx rfl (hb hby at_87) rfl k)
    show own_Goes p.tables e below P (s₁.setTop (mkF m 88 #[.val (.long p0), .second, .val (.int p1), .val (.int p2), .val (.int p3), .val (.int p4), .val (.int p5), .val (.int (11 : Int32)), .val (.int (1 : Int32)), .val (.int (1 : Int32)), .val (.int (0 : Int32)), .val (.int (1 : Int32)), .unset, .unset, .unset, .unset, .unset, .unset, .unset, .unset, .unset, .unset, .unset] [(.int (3 : Int32))]))
    refine own_Goes.st ?_ (fun _ k => XS.istore X0.here hx rfl (hb hby at_88) rfl (l' := #[.val (.long p0), .second, .val (.int p1), .val (.int p2), .val (.int p3), .val (.int p4), .val (.int p5), .val (.int (11 : Int32)), .val (.int (1 : Int32)), .val (.int (1 : Int32)), .val (.int (0 : Int32)), .val (.int (1 : Int32)), .val (.int (3 : Int32)), .unset, .unset, .unset, .unset, .unset, .unset, .unset, .unset, .unset, .unset]) rfl k)
    refine own_Goes.st ?_ (fun _ k => XS.iload X0.here hx rfl (hb hby at_90) rfl k)
    obtain ⟨T329, h329, k329, X329, e329, E329, A329, J329, st329⟩ := newPE X0 hx hZ (hw _ (List.mem_of_getElem? (i := 0) rfl)) e0 (g := (mkF m 92 #[.val (.long p0), .second, .val (.int p1), .val (.int p2), .val (.int p3), .val (.int p4), .val (.int p5), .val (.int (11 : Int32)), .val (.int (1 : Int32)), .val (.int (1 : Int32)), .val (.int (0 : Int32)), .val (.int (1 : Int32)), .val (.int (3 : Int32)), .unset, .unset, .unset, .unset, .unset, .unset, .unset, .unset, .unset, .unset] [(.int (3 : Int32))])) rfl (hb hby at_92) rfl (by decide) (cap := 4) (by decide) (by decide) (by decide) (by decide) (ad := "[I") rfl
    obtain ⟨b329, g329⟩ : ∃ z, z = h0.size := ⟨_, rfl⟩
    rw [← g329] at A329 J329 st329
    have ge_b329 : n0 ≤ b329 := Nat.le_trans Z0 (Nat.le_of_eq g329.symm)
    refine own_Goes.st ?_ st329
    have Z330 : n0 ≤ h329.size := Nat.le_trans Z0 E329.1
    have V331 : Arv Z h329 b329 k329 .int (3 : Int32) [(.int (0 : Int32)), (.int (0 : Int32)), (.int (0 : Int32))] (.int 0) := (Arv.new A329 (by decide)).pad (pad_rep [] _ 3)
    show own_Goes p.tables e below P (T329.setTop (mkF m 94 #[.val (.long p0), .second, .val (.int p1), .val (.int p2), .val (.int p3), .val (.int p4), .val (.int p5), .val (.int (11 : Int32)), .val (.int (1 : Int32)), .val (.int (1 : Int32)), .val (.int (0 : Int32)), .val (.int (1 : Int32)), .val (.int (3 : Int32)), .unset, .unset, .unset, .unset, .unset, .unset, .unset, .unset, .unset, .unset] [(.ref b329)]))
    refine own_Goes.st ?_ (fun _ k => XS.astore X329.here hx rfl (hb hby at_94) rfl rfl (l' := #[.val (.long p0), .second, .val (.int p1), .val (.int p2), .val (.int p3), .val (.int p4), .val (.int p5), .val (.int (11 : Int32)), .val (.int (1 : Int32)), .val (.int (1 : Int32)), .val (.int (0 : Int32)), .val (.int (1 : Int32)), .val (.int (3 : Int32)), .val (.ref b329), .unset, .unset, .unset, .unset, .unset, .unset, .unset, .unset, .unset]) rfl k)
    refine own_Goes.st ?_ (fun _ k => XS.iconst X329.here hx rfl (hb hby at_96) k)
    refine own_Goes.st ?_ (fun _ k => XS.istore X329.here hx rfl (hb hby at_97) rfl (l' := #[.val (.long p0), .second, .val (.int p1), .val (.int p2), .val (.int p3), .val (.int p4), .val (.int p5), .val (.int (11 : Int32)), .val (.int (1 : Int32)), .val (.int (1 : Int32)), .val (.int (0 : Int32)), .val (.int (1 : Int32)), .val (.int (3 : Int32)), .val (.ref b329), .val (.int (0 : Int32)), .unset, .unset, .unset, .unset, .unset, .unset, .unset, .unset]) rfl k)
    refine own_Goes.st ?_ (fun _ k => XS.iload X329.here hx rfl (hb hby at_99) rfl k)
    refine own_Goes.st ?_ (fun _ k => XS.ifNo X329.here hx rfl (hb hby at_101) rfl ((if0 _ _).trans (feq (by decide : ¬ ((1 : Int32) = (0 : Int32)))).1) k)
    refine own_Goes.st ?_ (fun _ k => XS.aload X329.here hx rfl (hb hby at_104) rfl rfl k)
    show own_Goes p.tables e below P (T329.setTop (mkF m 106 #[.val (.long p0), .second, .val (.int p1), .val (.int p2), .val (.int p3), .val (.int p4), .val (.int p5), .val (.int (11 : Int32)), .val (.int (1 : Int32)), .val (.int (1 : Int32)), .val (.int (0 : Int32)), .val (.int (1 : Int32)), .val (.int (3 : Int32)), .val (.ref b329), .val (.int (0 : Int32)), .unset, .unset, .unset, .unset, .unset, .unset, .unset, .unset] [(.ref b329)]))
    refine own_Goes.st ?_ (fun _ k => XS.iload X329.here hx rfl (hb hby at_106) rfl k)
    refine own_Goes.st ?_ (fun _ k => XS.iconst X329.here hx rfl (hb hby at_108) k)
    have Vc332 := V331
    obtain ⟨cl332, Ar332, qc332, S332, Nn332, Hs332, Gs332⟩ := Vc332
    have hin333 : ¬ ((0 : Int32) < 0 ∨ cl332.slots.size ≤ ((0 : Int32)).toNatClampNeg) := inb_of S332 ⟨by decide, by decide⟩
    obtain ⟨T333, h333, X333, e333, W333, st333⟩ := stI X329 hx hZ e329 Ar332 (j := (0 : Int32)) hin333 (g := (mkF m 109 #[.val (.long p0), .second, .val (.int p1), .val (.int p2), .val (.int p3), .val (.int p4), .val (.int p5), .val (.int (11 : Int32)), .val (.int (1 : Int32)), .val (.int (1 : Int32)), .val (.int (0 : Int32)), .val (.int (1 : Int32)), .val (.int (3 : Int32)), .val (.ref b329), .val (.int (0 : Int32)), .unset, .unset, .unset, .unset, .unset, .unset, .unset, .unset] [(.int (0 : Int32)), (.int (0 : Int32)), (.ref b329)])) rfl rfl (hb hby at_109)
    refine own_Goes.st ?_ st333
    have V334 : Arv Z h333 b329 k329 .int (3 : Int32) [(.int (0 : Int32)), (.int (0 : Int32)), (.int (0 : Int32))] (.int 0) := Arv.set Ar332 qc332 S332 Nn332 Hs332 Gs332 rfl W333 0 rfl (Nat.le_of_ble_eq_true rfl)
    have Z335 : n0 ≤ h333.size := by rw [W333.size]; exact Z330
    have N336 := Fr.snoc X333 N0 ge_b329
    show own_Goes p.tables e below P (T333.setTop (mkF m 110 #[.val (.long p0), .second, .val (.int p1), .val (.int p2), .val (.int p3), .val (.int p4), .val (.int p5), .val (.int (11 : Int32)), .val (.int (1 : Int32)), .val (.int (1 : Int32)), .val (.int (0 : Int32)), .val (.int (1 : Int32)), .val (.int (3 : Int32)), .val (.ref b329), .val (.int (0 : Int32)), .unset, .unset, .unset, .unset, .unset, .unset, .unset, .unset] []))
    refine own_Goes.st ?_ (fun _ k => XS.iinc X333.here hx rfl (hb hby at_110) rfl (l' := #[.val (.long p0), .second, .val (.int p1), .val (.int p2), .val (.int p3), .val (.int p4), .val (.int p5), .val (.int (11 : Int32)), .val (.int (1 : Int32)), .val (.int (1 : Int32)), .val (.int (0 : Int32)), .val (.int (1 : Int32)), .val (.int (3 : Int32)), .val (.ref b329), .val (.int (1 : Int32)), .unset, .unset, .unset, .unset, .unset, .unset, .unset, .unset]) rfl k)
    refine own_Goes.st ?_ (fun _ k => XS.iload X333.here hx rfl (hb hby at_113) rfl k)
    refine own_Goes.st ?_ (fun _ k => XS.ifNo X333.here hx rfl (hb hby at_115) rfl ((if0 _ _).trans (feq (by decide : ¬ ((1 : Int32) = (0 : Int32)))).1) k)
    refine own_Goes.st ?_ (fun _ k => XS.aload X333.here hx rfl (hb hby at_118) rfl rfl k)
    refine own_Goes.st ?_ (fun _ k => XS.iload X333.here hx rfl (hb hby at_120) rfl k)
    refine own_Goes.st ?_ (fun _ k => XS.iconst X333.here hx rfl (hb hby at_122) k)
    show own_Goes p.tables e below P (T333.setTop (mkF m 123 #[.val (.long p0), .second, .val (.int p1), .val (.int p2), .val (.int p3), .val (.int p4), .val (.int p5), .val (.int (11 : Int32)), .val (.int (1 : Int32)), .val (.int (1 : Int32)), .val (.int (0 : Int32)), .val (.int (1 : Int32)), .val (.int (3 : Int32)), .val (.ref b329), .val (.int (1 : Int32)), .unset, .unset, .unset, .unset, .unset, .unset, .unset, .unset] [(.int (1 : Int32)), (.int (1 : Int32)), (.ref b329)]))
    have Vc337 := V334
    obtain ⟨cl337, Ar337, qc337, S337, Nn337, Hs337, Gs337⟩ := Vc337
    have hin338 : ¬ ((1 : Int32) < 0 ∨ cl337.slots.size ≤ ((1 : Int32)).toNatClampNeg) := inb_of S337 ⟨by decide, by decide⟩
    obtain ⟨T338, h338, X338, e338, W338, st338⟩ := stI X333 hx hZ e333 Ar337 (j := (1 : Int32)) hin338 (g := (mkF m 123 #[.val (.long p0), .second, .val (.int p1), .val (.int p2), .val (.int p3), .val (.int p4), .val (.int p5), .val (.int (11 : Int32)), .val (.int (1 : Int32)), .val (.int (1 : Int32)), .val (.int (0 : Int32)), .val (.int (1 : Int32)), .val (.int (3 : Int32)), .val (.ref b329), .val (.int (1 : Int32)), .unset, .unset, .unset, .unset, .unset, .unset, .unset, .unset] [(.int (1 : Int32)), (.int (1 : Int32)), (.ref b329)])) rfl rfl (hb hby at_123)
    refine own_Goes.st ?_ st338
    have V339 : Arv Z h338 b329 k329 .int (3 : Int32) [(.int (0 : Int32)), (.int (1 : Int32)), (.int (0 : Int32))] (.int 0) := Arv.set Ar337 qc337 S337 Nn337 Hs337 Gs337 rfl W338 1 rfl (Nat.le_of_ble_eq_true rfl)
    have Z340 : n0 ≤ h338.size := by rw [W338.size]; exact Z335
    have N341 := Fr.snoc X338 N336 ge_b329
    show own_Goes p.tables e below P (T338.setTop (mkF m 124 #[.val (.long p0), .second, .val (.int p1), .val (.int p2), .val (.int p3), .val (.int p4), .val (.int p5), .val (.int (11 : Int32)), .val (.int (1 : Int32)), .val (.int (1 : Int32)), .val (.int (0 : Int32)), .val (.int (1 : Int32)), .val (.int (3 : Int32)), .val (.ref b329), .val (.int (1 : Int32)), .unset, .unset, .unset, .unset, .unset, .unset, .unset, .unset] []))
    refine own_Goes.st ?_ (fun _ k => XS.iinc X338.here hx rfl (hb hby at_124) rfl (l' := #[.val (.long p0), .second, .val (.int p1), .val (.int p2), .val (.int p3), .val (.int p4), .val (.int p5), .val (.int (11 : Int32)), .val (.int (1 : Int32)), .val (.int (1 : Int32)), .val (.int (0 : Int32)), .val (.int (1 : Int32)), .val (.int (3 : Int32)), .val (.ref b329), .val (.int (2 : Int32)), .unset, .unset, .unset, .unset, .unset, .unset, .unset, .unset]) rfl k)
    refine own_Goes.st ?_ (fun _ k => XS.iload X338.here hx rfl (hb hby at_127) rfl k)
    refine own_Goes.st ?_ (fun _ k => XS.ifYes X338.here hx rfl (pc0 := 129) (pc' := 141) rfl (hb hby at_129) rfl ((if0 _ _).trans (teq (by decide : (0 : Int32) = (0 : Int32))).1) (by decide) (by decide) k)
    refine own_Goes.st ?_ (fun _ k => XS.iload X338.here hx rfl (hb hby at_141) rfl k)
    refine own_Goes.st ?_ (fun _ k => XS.ifNo X338.here hx rfl (hb hby at_143) rfl ((if0 _ _).trans (feq (by decide : ¬ ((1 : Int32) = (0 : Int32)))).1) k)
    refine own_Goes.st ?_ (fun _ k => XS.aload X338.here hx rfl (hb hby at_146) rfl rfl k)
    show own_Goes p.tables e below P (T338.setTop (mkF m 148 #[.val (.long p0), .second, .val (.int p1), .val (.int p2), .val (.int p3), .val (.int p4), .val (.int p5), .val (.int (11 : Int32)), .val (.int (1 : Int32)), .val (.int (1 : Int32)), .val (.int (0 : Int32)), .val (.int (1 : Int32)), .val (.int (3 : Int32)), .val (.ref b329), .val (.int (2 : Int32)), .unset, .unset, .unset, .unset, .unset, .unset, .unset, .unset] [(.ref b329)]))
    refine own_Goes.st ?_ (fun _ k => XS.iload X338.here hx rfl (hb hby at_148) rfl k)
    refine own_Goes.st ?_ (fun _ k => XS.iconst X338.here hx rfl (hb hby at_150) k)
    have Vc342 := V339
    obtain ⟨cl342, Ar342, qc342, S342, Nn342, Hs342, Gs342⟩ := Vc342
    have hin343 : ¬ ((2 : Int32) < 0 ∨ cl342.slots.size ≤ ((2 : Int32)).toNatClampNeg) := inb_of S342 ⟨by decide, by decide⟩
    obtain ⟨T343, h343, X343, e343, W343, st343⟩ := stI X338 hx hZ e338 Ar342 (j := (2 : Int32)) hin343 (g := (mkF m 151 #[.val (.long p0), .second, .val (.int p1), .val (.int p2), .val (.int p3), .val (.int p4), .val (.int p5), .val (.int (11 : Int32)), .val (.int (1 : Int32)), .val (.int (1 : Int32)), .val (.int (0 : Int32)), .val (.int (1 : Int32)), .val (.int (3 : Int32)), .val (.ref b329), .val (.int (2 : Int32)), .unset, .unset, .unset, .unset, .unset, .unset, .unset, .unset] [(.int (3 : Int32)), (.int (2 : Int32)), (.ref b329)])) rfl rfl (hb hby at_151)
    refine own_Goes.st ?_ st343
    have V344 : Arv Z h343 b329 k329 .int (3 : Int32) [(.int (0 : Int32)), (.int (1 : Int32)), (.int (3 : Int32))] (.int 0) := Arv.set Ar342 qc342 S342 Nn342 Hs342 Gs342 rfl W343 2 rfl (Nat.le_of_ble_eq_true rfl)
    have Z345 : n0 ≤ h343.size := by rw [W343.size]; exact Z340
    have N346 := Fr.snoc X343 N341 ge_b329
    show own_Goes p.tables e below P (T343.setTop (mkF m 152 #[.val (.long p0), .second, .val (.int p1), .val (.int p2), .val (.int p3), .val (.int p4), .val (.int p5), .val (.int (11 : Int32)), .val (.int (1 : Int32)), .val (.int (1 : Int32)), .val (.int (0 : Int32)), .val (.int (1 : Int32)), .val (.int (3 : Int32)), .val (.ref b329), .val (.int (2 : Int32)), .unset, .unset, .unset, .unset, .unset, .unset, .unset, .unset] []))
    refine own_Goes.st ?_ (fun _ k => XS.iinc X343.here hx rfl (hb hby at_152) rfl (l' := #[.val (.long p0), .second, .val (.int p1), .val (.int p2), .val (.int p3), .val (.int p4), .val (.int p5), .val (.int (11 : Int32)), .val (.int (1 : Int32)), .val (.int (1 : Int32)), .val (.int (0 : Int32)), .val (.int (1 : Int32)), .val (.int (3 : Int32)), .val (.ref b329), .val (.int (3 : Int32)), .unset, .unset, .unset, .unset, .unset, .unset, .unset, .unset]) rfl k)
    refine own_Goes.st ?_ (fun _ k => XS.iload X343.here hx rfl (hb hby at_155) rfl k)
    refine own_Goes.st ?_ (fun _ k => XS.ifYes X343.here hx rfl (pc0 := 157) (pc' := 164) rfl (hb hby at_157) rfl ((if0 _ _).trans (feq (by decide : ¬ ((11 : Int32) = (0 : Int32)))).2) (by decide) (by decide) k)
    refine own_Goes.st ?_ (fun _ k => XS.lloadN X343.here hx rfl (hb hby at_164) rfl k)
    refine own_Goes.st ?_ (fun _ k => XS.bipush X343.here hx rfl (hb hby at_165) k)
    refine own_Goes.st ?_ (fun _ k => XS.lshr X343.here hx rfl (hb hby at_167) rfl k)
    show own_Goes p.tables e below P (T343.setTop (mkF m 168 #[.val (.long p0), .second, .val (.int p1), .val (.int p2), .val (.int p3), .val (.int p4), .val (.int p5), .val (.int (11 : Int32)), .val (.int (1 : Int32)), .val (.int (1 : Int32)), .val (.int (0 : Int32)), .val (.int (1 : Int32)), .val (.int (3 : Int32)), .val (.ref b329), .val (.int (3 : Int32)), .unset, .unset, .unset, .unset, .unset, .unset, .unset, .unset] [(.long (p0 >>> ((14 : Int32) &&& 0x3f).toInt64))]))
    refine own_Goes.st ?_ (fun _ k => XS.lstore X343.here hx rfl (hb hby at_168) rfl (l' := #[.val (.long p0), .second, .val (.int p1), .val (.int p2), .val (.int p3), .val (.int p4), .val (.int p5), .val (.int (11 : Int32)), .val (.int (1 : Int32)), .val (.int (1 : Int32)), .val (.int (0 : Int32)), .val (.int (1 : Int32)), .val (.int (3 : Int32)), .val (.ref b329), .val (.int (3 : Int32)), .val (.long (p0 >>> ((14 : Int32) &&& 0x3f).toInt64)), .second, .unset, .unset, .unset, .unset, .unset, .unset]) rfl k)
    exact T3n _ _ X343 _ e343 N346 Z345 b329 k329 _ _ _ _ _ _ _ _ _ V344 (own_sh14 p0) (by decide) (by decide) (by decide) rfl
  · skip
    show own_Goes p.tables e below P (s₁.setTop (mkF m 6 #[.val (.long p0), .second, .val (.int p1), .val (.int p2), .val (.int p3), .val (.int p4), .val (.int p5), .val (.int (12 : Int32)), .unset, .unset, .unset, .unset, .unset, .unset, .unset, .unset, .unset, .unset, .unset, .unset, .unset, .unset, .unset] []))
    refine own_Goes.st ?_ (fun _ k => XS.iload X0.here hx rfl (hb hby at_6) rfl k)
    refine own_Goes.st ?_ (fun _ k => XS.iconst X0.here hx rfl (hb hby at_8) k)
    refine own_Goes.st ?_ (fun _ k => XS.iand X0.here hx rfl (hb hby at_9) rfl k)
    refine own_Goes.st ?_ (fun _ k => XS.ifYes X0.here hx rfl (pc0 := 10) (pc' := 17) rfl (hb hby at_10) rfl ((if0 _ _).trans (teq (by decide : (0 : Int32) = (0 : Int32))).1) (by decide) (by decide) k)
    refine own_Goes.st ?_ (fun _ k => XS.iconst X0.here hx rfl (hb hby at_17) k)
    refine own_Goes.st ?_ (fun _ k => XS.istore X0.here hx rfl (hb hby at_18) rfl (l' := #[.val (.long p0), .second, .val (.int p1), .val (.int p2), .val (.int p3), .val (.int p4), .val (.int p5), .val (.int (12 : Int32)), .val (.int (0 : Int32)), .unset, .unset, .unset, .unset, .unset, .unset, .unset, .unset, .unset, .unset, .unset, .unset, .unset, .unset]) rfl k)
    show own_Goes p.tables e below P (s₁.setTop (mkF m 20 #[.val (.long p0), .second, .val (.int p1), .val (.int p2), .val (.int p3), .val (.int p4), .val (.int p5), .val (.int (12 : Int32)), .val (.int (0 : Int32)), .unset, .unset, .unset, .unset, .unset, .unset, .unset, .unset, .unset, .unset, .unset, .unset, .unset, .unset] []))
    refine own_Goes.st ?_ (fun _ k => XS.iload X0.here hx rfl (hb hby at_20) rfl k)
    refine own_Goes.st ?_ (fun _ k => XS.iconst X0.here hx rfl (hb hby at_22) k)
    refine own_Goes.st ?_ (fun _ k => XS.iand X0.here hx rfl (hb hby at_23) rfl k)
    refine own_Goes.st ?_ (fun _ k => XS.ifYes X0.here hx rfl (pc0 := 24) (pc' := 31) rfl (hb hby at_24) rfl ((if0 _ _).trans (teq (by decide : (0 : Int32) = (0 : Int32))).1) (by decide) (by decide) k)
    refine own_Goes.st ?_ (fun _ k => XS.iconst X0.here hx rfl (hb hby at_31) k)
    refine own_Goes.st ?_ (fun _ k => XS.istore X0.here hx rfl (hb hby at_32) rfl (l' := #[.val (.long p0), .second, .val (.int p1), .val (.int p2), .val (.int p3), .val (.int p4), .val (.int p5), .val (.int (12 : Int32)), .val (.int (0 : Int32)), .val (.int (0 : Int32)), .unset, .unset, .unset, .unset, .unset, .unset, .unset, .unset, .unset, .unset, .unset, .unset, .unset]) rfl k)
    show own_Goes p.tables e below P (s₁.setTop (mkF m 34 #[.val (.long p0), .second, .val (.int p1), .val (.int p2), .val (.int p3), .val (.int p4), .val (.int p5), .val (.int (12 : Int32)), .val (.int (0 : Int32)), .val (.int (0 : Int32)), .unset, .unset, .unset, .unset, .unset, .unset, .unset, .unset, .unset, .unset, .unset, .unset, .unset] []))
    refine own_Goes.st ?_ (fun _ k => XS.iload X0.here hx rfl (hb hby at_34) rfl k)
    refine own_Goes.st ?_ (fun _ k => XS.iconst X0.here hx rfl (hb hby at_36) k)
    refine own_Goes.st ?_ (fun _ k => XS.iand X0.here hx rfl (hb hby at_37) rfl k)
    refine own_Goes.st ?_ (fun _ k => XS.ifNo X0.here hx rfl (hb hby at_38) rfl ((if0 _ _).trans (feq (by decide : ¬ ((4 : Int32) = (0 : Int32)))).1) k)
    refine own_Goes.st ?_ (fun _ k => XS.iconst X0.here hx rfl (hb hby at_41) k)
    refine own_Goes.st ?_ (fun _ k => XS.goto X0.here hx rfl (pc0 := 42) (pc' := 46) rfl (hb hby at_42) (by decide) (by decide) k)
    show own_Goes p.tables e below P (s₁.setTop (mkF m 46 #[.val (.long p0), .second, .val (.int p1), .val (.int p2), .val (.int p3), .val (.int p4), .val (.int p5), .val (.int (12 : Int32)), .val (.int (0 : Int32)), .val (.int (0 : Int32)), .unset, .unset, .unset, .unset, .unset, .unset, .unset, .unset, .unset, .unset, .unset, .unset, .unset] [(.int (1 : Int32))]))
    refine own_Goes.st ?_ (fun _ k => XS.istore X0.here hx rfl (hb hby at_46) rfl (l' := #[.val (.long p0), .second, .val (.int p1), .val (.int p2), .val (.int p3), .val (.int p4), .val (.int p5), .val (.int (12 : Int32)), .val (.int (0 : Int32)), .val (.int (0 : Int32)), .val (.int (1 : Int32)), .unset, .unset, .unset, .unset, .unset, .unset, .unset, .unset, .unset, .unset, .unset, .unset]) rfl k)
    refine own_Goes.st ?_ (fun _ k => XS.iload X0.here hx rfl (hb hby at_48) rfl k)
    refine own_Goes.st ?_ (fun _ k => XS.bipush X0.here hx rfl (hb hby at_50) k)
    refine own_Goes.st ?_ (fun _ k => XS.iand X0.here hx rfl (hb hby at_52) rfl k)
    refine own_Goes.st ?_ (fun _ k => XS.ifNo X0.here hx rfl (hb hby at_53) rfl ((if0 _ _).trans (feq (by decide : ¬ ((8 : Int32) = (0 : Int32)))).1) k)
    refine own_Goes.st ?_ (fun _ k => XS.iconst X0.here hx rfl (hb hby at_56) k)
    show own_Goes p.tables e below P (s₁.setTop (mkF m 57 #[.val (.long p0), .second, .val (.int p1), .val (.int p2), .val (.int p3), .val (.int p4), .val (.int p5), .val (.int (12 : Int32)), .val (.int (0 : Int32)), .val (.int (0 : Int32)), .val (.int (1 : Int32)), .unset, .unset, .unset, .unset, .unset, .unset, .unset, .unset, .unset, .unset, .unset, .unset] [(.int (1 : Int32))]))
    refine own_Goes.st ?_ (fun _ k => XS.goto X0.here hx rfl (pc0 := 57) (pc' := 61) rfl (hb hby at_57) (by decide) (by decide) k)
    refine own_Goes.st ?_ (fun _ k => XS.istore X0.here hx rfl (hb hby at_61) rfl (l' := #[.val (.long p0), .second, .val (.int p1), .val (.int p2), .val (.int p3), .val (.int p4), .val (.int p5), .val (.int (12 : Int32)), .val (.int (0 : Int32)), .val (.int (0 : Int32)), .val (.int (1 : Int32)), .val (.int (1 : Int32)), .unset, .unset, .unset, .unset, .unset, .unset, .unset, .unset, .unset, .unset, .unset]) rfl k)
    refine own_Goes.st ?_ (fun _ k => XS.iload X0.here hx rfl (hb hby at_63) rfl k)
    refine own_Goes.st ?_ (fun _ k => XS.iconst X0.here hx rfl (hb hby at_65) k)
    refine own_Goes.st ?_ (fun _ k => XS.iand X0.here hx rfl (hb hby at_66) rfl k)
    refine own_Goes.st ?_ (fun _ k => XS.iload X0.here hx rfl (hb hby at_67) rfl k)
    show own_Goes p.tables e below P (s₁.setTop (mkF m 69 #[.val (.long p0), .second, .val (.int p1), .val (.int p2), .val (.int p3), .val (.int p4), .val (.int p5), .val (.int (12 : Int32)), .val (.int (0 : Int32)), .val (.int (0 : Int32)), .val (.int (1 : Int32)), .val (.int (1 : Int32)), .unset, .unset, .unset, .unset, .unset, .unset, .unset, .unset, .unset, .unset, .unset] [(.int (12 : Int32)), (.int (0 : Int32))]))
    refine own_Goes.st ?_ (fun _ k => XS.iconst X0.here hx rfl (hb hby at_69) k)
    refine own_Goes.st ?_ (fun _ k => XS.ishr X0.here hx rfl (hb hby at_70) rfl k)
    refine own_Goes.st ?_ (fun _ k => XS.iconst X0.here hx rfl (hb hby at_71) k)
    refine own_Goes.st ?_ (fun _ k => XS.iand X0.here hx rfl (hb hby at_72) rfl k)
    refine own_Goes.st ?_ (fun _ k => XS.iadd X0.here hx rfl (hb hby at_73) rfl k)
    refine own_Goes.st ?_ (fun _ k => XS.iload X0.here hx rfl (hb hby at_74) rfl k)
    show own_Goes p.tables e below P (s₁.setTop (mkF m 76 #[.val (.long p0), .second, .val (.int p1), .val (.int p2), .val (.int p3), .val (.int p4), .val (.int p5), .val (.int (12 : Int32)), .val (.int (0 : Int32)), .val (.int (0 : Int32)), .val (.int (1 : Int32)), .val (.int (1 : Int32)), .unset, .unset, .unset, .unset, .unset, .unset, .unset, .unset, .unset, .unset, .unset] [(.int (12 : Int32)), (.int (0 : Int32))]))
    refine own_Goes.st ?_ (fun _ k => XS.iconst X0.here hx rfl (hb hby at_76) k)
    refine own_Goes.st ?_ (fun _ k => XS.ishr X0.here hx rfl (hb hby at_77) rfl k)
    refine own_Goes.st ?_ (fun _ k => XS.iconst X0.here hx rfl (hb hby at_78) k)
    refine own_Goes.st ?_ (fun _ k => XS.iand X0.here hx rfl (hb hby at_79) rfl k)
    refine own_Goes.st ?_ (fun _ k => XS.iadd X0.here hx rfl (hb hby at_80) rfl k)
    refine own_Goes.st ?_ (fun _ k => XS.iload X0.here hx rfl (hb hby at_81) rfl k)
    show own_Goes p.tables e below P (s₁.setTop (mkF m 83 #[.val (.long p0), .second, .val (.int p1), .val (.int p2), .val (.int p3), .val (.int p4), .val (.int p5), .val (.int (12 : Int32)), .val (.int (0 : Int32)), .val (.int (0 : Int32)), .val (.int (1 : Int32)), .val (.int (1 : Int32)), .unset, .unset, .unset, .unset, .unset, .unset, .unset, .unset, .unset, .unset, .unset] [(.int (12 : Int32)), (.int (1 : Int32))]))
    refine own_Goes.st ?_ (fun _ k => XS.iconst X0.here hx rfl (hb hby at_83) k)
    refine own_Goes.st ?_ (fun _ k => XS.ishr X0.here hx rfl (hb hby at_84) rfl k)
    refine own_Goes.st ?_ (fun _ k => XS.iconst X0.here hx rfl (hb hby at_85) k)
    refine own_Goes.st ?_ (fun _ k => XS.iand X0.here hx rfl (hb hby at_86) rfl k)
    refine own_Goes.st ?_ (fun _ k => XS.iadd X0.here hx rfl (hb hby at_87) rfl k)
    refine own_Goes.st ?_ (fun _ k => XS.istore X0.here hx rfl (hb hby at_88) rfl (l' := #[.val (.long p0), .second, .val (.int p1), .val (.int p2), .val (.int p3), .val (.int p4), .val (.int p5), .val (.int (12 : Int32)), .val (.int (0 : Int32)), .val (.int (0 : Int32)), .val (.int (1 : Int32)), .val (.int (1 : Int32)), .val (.int (2 : Int32)), .unset, .unset, .unset, .unset, .unset, .unset, .unset, .unset, .unset, .unset]) rfl k)
    show own_Goes p.tables e below P (s₁.setTop (mkF m 90 #[.val (.long p0), .second, .val (.int p1), .val (.int p2), .val (.int p3), .val (.int p4), .val (.int p5), .val (.int (12 : Int32)), .val (.int (0 : Int32)), .val (.int (0 : Int32)), .val (.int (1 : Int32)), .val (.int (1 : Int32)), .val (.int (2 : Int32)), .unset, .unset, .unset, .unset, .unset, .unset, .unset, .unset, .unset, .unset] []))
    refine own_Goes.st ?_ (fun _ k => XS.iload X0.here hx rfl (hb hby at_90) rfl k)
    obtain ⟨T347, h347, k347, X347, e347, E347, A347, J347, st347⟩ := newPE X0 hx hZ (hw _ (List.mem_of_getElem? (i := 0) rfl)) e0 (g := (mkF m 92 #[.val (.long p0), .second, .val (.int p1), .val (.int p2), .val (.int p3), .val (.int p4), .val (.int p5), .val (.int (12 : Int32)), .val (.int (0 : Int32)), .val (.int (0 : Int32)), .val (.int (1 : Int32)), .val (.int (1 : Int32)), .val (.int (2 : Int32)), .unset, .unset, .unset, .unset, .unset, .unset, .unset, .unset, .unset, .unset] [(.int (2 : Int32))])) rfl (hb hby at_92) rfl (by decide) (cap := 4) (by decide) (by decide) (by decide) (by decide) (ad := "[I") rfl
    obtain ⟨b347, g347⟩ : ∃ z, z = h0.size := ⟨_, rfl⟩
    rw [← g347] at A347 J347 st347
    have ge_b347 : n0 ≤ b347 := Nat.le_trans Z0 (Nat.le_of_eq g347.symm)
    refine own_Goes.st ?_ st347
    have Z348 : n0 ≤ h347.size := Nat.le_trans Z0 E347.1
    have V349 : Arv Z h347 b347 k347 .int (2 : Int32) [(.int (0 : Int32)), (.int (0 : Int32))] (.int 0) := (Arv.new A347 (by decide)).pad (pad_rep [] _ 2)
    show own_Goes p.tables e below P (T347.setTop (mkF m 94 #[.val (.long p0), .second, .val (.int p1), .val (.int p2), .val (.int p3), .val (.int p4), .val (.int p5), .val (.int (12 : Int32)), .val (.int (0 : Int32)), .val (.int (0 : Int32)), .val (.int (1 : Int32)), .val (.int (1 : Int32)), .val (.int (2 : Int32)), .unset, .unset, .unset, .unset, .unset, .unset, .unset, .unset, .unset, .unset] [(.ref b347)]))
    refine own_Goes.st ?_ (fun _ k => XS.astore X347.here hx rfl (hb hby at_94) rfl rfl (l' := #[.val (.long p0), .second, .val (.int p1), .val (.int p2), .val (.int p3), .val (.int p4), .val (.int p5), .val (.int (12 : Int32)), .val (.int (0 : Int32)), .val (.int (0 : Int32)), .val (.int (1 : Int32)), .val (.int (1 : Int32)), .val (.int (2 : Int32)), .val (.ref b347), .unset, .unset, .unset, .unset, .unset, .unset, .unset, .unset, .unset]) rfl k)
    refine own_Goes.st ?_ (fun _ k => XS.iconst X347.here hx rfl (hb hby at_96) k)
    refine own_Goes.st ?_ (fun _ k => XS.istore X347.here hx rfl (hb hby at_97) rfl (l' := #[.val (.long p0), .second, .val (.int p1), .val (.int p2), .val (.int p3), .val (.int p4), .val (.int p5), .val (.int (12 : Int32)), .val (.int (0 : Int32)), .val (.int (0 : Int32)), .val (.int (1 : Int32)), .val (.int (1 : Int32)), .val (.int (2 : Int32)), .val (.ref b347), .val (.int (0 : Int32)), .unset, .unset, .unset, .unset, .unset, .unset, .unset, .unset]) rfl k)
    refine own_Goes.st ?_ (fun _ k => XS.iload X347.here hx rfl (hb hby at_99) rfl k)
    refine own_Goes.st ?_ (fun _ k => XS.ifYes X347.here hx rfl (pc0 := 101) (pc' := 113) rfl (hb hby at_101) rfl ((if0 _ _).trans (teq (by decide : (0 : Int32) = (0 : Int32))).1) (by decide) (by decide) k)
    refine own_Goes.st ?_ (fun _ k => XS.iload X347.here hx rfl (hb hby at_113) rfl k)
    show own_Goes p.tables e below P (T347.setTop (mkF m 115 #[.val (.long p0), .second, .val (.int p1), .val (.int p2), .val (.int p3), .val (.int p4), .val (.int p5), .val (.int (12 : Int32)), .val (.int (0 : Int32)), .val (.int (0 : Int32)), .val (.int (1 : Int32)), .val (.int (1 : Int32)), .val (.int (2 : Int32)), .val (.ref b347), .val (.int (0 : Int32)), .unset, .unset, .unset, .unset, .unset, .unset, .unset, .unset] [(.int (0 : Int32))]))
    refine own_Goes.st ?_ (fun _ k => XS.ifYes X347.here hx rfl (pc0 := 115) (pc' := 127) rfl (hb hby at_115) rfl ((if0 _ _).trans (teq (by decide : (0 : Int32) = (0 : Int32))).1) (by decide) (by decide) k)
    refine own_Goes.st ?_ (fun _ k => XS.iload X347.here hx rfl (hb hby at_127) rfl k)
    refine own_Goes.st ?_ (fun _ k => XS.ifNo X347.here hx rfl (hb hby at_129) rfl ((if0 _ _).trans (feq (by decide : ¬ ((1 : Int32) = (0 : Int32)))).1) k)
    refine own_Goes.st ?_ (fun _ k => XS.aload X347.here hx rfl (hb hby at_132) rfl rfl k)
    refine own_Goes.st ?_ (fun _ k => XS.iload X347.here hx rfl (hb hby at_134) rfl k)
    refine own_Goes.st ?_ (fun _ k => XS.iconst X347.here hx rfl (hb hby at_136) k)
    show own_Goes p.tables e below P (T347.setTop (mkF m 137 #[.val (.long p0), .second, .val (.int p1), .val (.int p2), .val (.int p3), .val (.int p4), .val (.int p5), .val (.int (12 : Int32)), .val (.int (0 : Int32)), .val (.int (0 : Int32)), .val (.int (1 : Int32)), .val (.int (1 : Int32)), .val (.int (2 : Int32)), .val (.ref b347), .val (.int (0 : Int32)), .unset, .unset, .unset, .unset, .unset, .unset, .unset, .unset] [(.int (2 : Int32)), (.int (0 : Int32)), (.ref b347)]))
    have Vc350 := V349
    obtain ⟨cl350, Ar350, qc350, S350, Nn350, Hs350, Gs350⟩ := Vc350
    have hin351 : ¬ ((0 : Int32) < 0 ∨ cl350.slots.size ≤ ((0 : Int32)).toNatClampNeg) := inb_of S350 ⟨by decide, by decide⟩
    obtain ⟨T351, h351, X351, e351, W351, st351⟩ := stI X347 hx hZ e347 Ar350 (j := (0 : Int32)) hin351 (g := (mkF m 137 #[.val (.long p0), .second, .val (.int p1), .val (.int p2), .val (.int p3), .val (.int p4), .val (.int p5), .val (.int (12 : Int32)), .val (.int (0 : Int32)), .val (.int (0 : Int32)), .val (.int (1 : Int32)), .val (.int (1 : Int32)), .val (.int (2 : Int32)), .val (.ref b347), .val (.int (0 : Int32)), .unset, .unset, .unset, .unset, .unset, .unset, .unset, .unset] [(.int (2 : Int32)), (.int (0 : Int32)), (.ref b347)])) rfl rfl (hb hby at_137)
    refine own_Goes.st ?_ st351
    have V352 : Arv Z h351 b347 k347 .int (2 : Int32) [(.int (2 : Int32)), (.int (0 : Int32))] (.int 0) := Arv.set Ar350 qc350 S350 Nn350 Hs350 Gs350 rfl W351 0 rfl (Nat.le_of_ble_eq_true rfl)
    have Z353 : n0 ≤ h351.size := by rw [W351.size]; exact Z348
    have N354 := Fr.snoc X351 N0 ge_b347
    show own_Goes p.tables e below P (T351.setTop (mkF m 138 #[.val (.long p0), .second, .val (.int p1), .val (.int p2), .val (.int p3), .val (.int p4), .val (.int p5), .val (.int (12 : Int32)), .val (.int (0 : Int32)), .val (.int (0 : Int32)), .val (.int (1 : Int32)), .val (.int (1 : Int32)), .val (.int (2 : Int32)), .val (.ref b347), .val (.int (0 : Int32)), .unset, .unset, .unset, .unset, .unset, .unset, .unset, .unset] []))
    refine own_Goes.st ?_ (fun _ k => XS.iinc X351.here hx rfl (hb hby at_138) rfl (l' := #[.val (.long p0), .second, .val (.int p1), .val (.int p2), .val (.int p3), .val (.int p4), .val (.int p5), .val (.int (12 : Int32)), .val (.int (0 : Int32)), .val (.int (0 : Int32)), .val (.int (1 : Int32)), .val (.int (1 : Int32)), .val (.int (2 : Int32)), .val (.ref b347), .val (.int (1 : Int32)), .unset, .unset, .unset, .unset, .unset, .unset, .unset, .unset]) rfl k)
    refine own_Goes.st ?_ (fun _ k => XS.iload X351.here hx rfl (hb hby at_141) rfl k)
    refine own_Goes.st ?_ (fun _ k => XS.ifNo X351.here hx rfl (hb hby at_143) rfl ((if0 _ _).trans (feq (by decide : ¬ ((1 : Int32) = (0 : Int32)))).1) k)
    refine own_Goes.st ?_ (fun _ k => XS.aload X351.here hx rfl (hb hby at_146) rfl rfl k)
    refine own_Goes.st ?_ (fun _ k => XS.iload X351.here hx rfl (hb hby at_148) rfl k)
    refine own_Goes.st ?_ (fun _ k => XS.iconst X351.here hx rfl (hb hby at_150) k)
    show own_Goes p.tables e below P (T351.setTop (mkF m 151 #[.val (.long p0), .second, .val (.int p1), .val (.int p2), .val (.int p3), .val (.int p4), .val (.int p5), .val (.int (12 : Int32)), .val (.int (0 : Int32)), .val (.int (0 : Int32)), .val (.int (1 : Int32)), .val (.int (1 : Int32)), .val (.int (2 : Int32)), .val (.ref b347), .val (.int (1 : Int32)), .unset, .unset, .unset, .unset, .unset, .unset, .unset, .unset] [(.int (3 : Int32)), (.int (1 : Int32)), (.ref b347)]))
    have Vc355 := V352
    obtain ⟨cl355, Ar355, qc355, S355, Nn355, Hs355, Gs355⟩ := Vc355
    have hin356 : ¬ ((1 : Int32) < 0 ∨ cl355.slots.size ≤ ((1 : Int32)).toNatClampNeg) := inb_of S355 ⟨by decide, by decide⟩
    obtain ⟨T356, h356, X356, e356, W356, st356⟩ := stI X351 hx hZ e351 Ar355 (j := (1 : Int32)) hin356 (g := (mkF m 151 #[.val (.long p0), .second, .val (.int p1), .val (.int p2), .val (.int p3), .val (.int p4), .val (.int p5), .val (.int (12 : Int32)), .val (.int (0 : Int32)), .val (.int (0 : Int32)), .val (.int (1 : Int32)), .val (.int (1 : Int32)), .val (.int (2 : Int32)), .val (.ref b347), .val (.int (1 : Int32)), .unset, .unset, .unset, .unset, .unset, .unset, .unset, .unset] [(.int (3 : Int32)), (.int (1 : Int32)), (.ref b347)])) rfl rfl (hb hby at_151)
    refine own_Goes.st ?_ st356
    have V357 : Arv Z h356 b347 k347 .int (2 : Int32) [(.int (2 : Int32)), (.int (3 : Int32))] (.int 0) := Arv.set Ar355 qc355 S355 Nn355 Hs355 Gs355 rfl W356 1 rfl (Nat.le_of_ble_eq_true rfl)
    have Z358 : n0 ≤ h356.size := by rw [W356.size]; exact Z353
    have N359 := Fr.snoc X356 N354 ge_b347
    show own_Goes p.tables e below P (T356.setTop (mkF m 152 #[.val (.long p0), .second, .val (.int p1), .val (.int p2), .val (.int p3), .val (.int p4), .val (.int p5), .val (.int (12 : Int32)), .val (.int (0 : Int32)), .val (.int (0 : Int32)), .val (.int (1 : Int32)), .val (.int (1 : Int32)), .val (.int (2 : Int32)), .val (.ref b347), .val (.int (1 : Int32)), .unset, .unset, .unset, .unset, .unset, .unset, .unset, .unset] []))
    refine own_Goes.st ?_ (fun _ k => XS.iinc X356.here hx rfl (hb hby at_152) rfl (l' := #[.val (.long p0), .second, .val (.int p1), .val (.int p2), .val (.int p3), .val (.int p4), .val (.int p5), .val (.int (12 : Int32)), .val (.int (0 : Int32)), .val (.int (0 : Int32)), .val (.int (1 : Int32)), .val (.int (1 : Int32)), .val (.int (2 : Int32)), .val (.ref b347), .val (.int (2 : Int32)), .unset, .unset, .unset, .unset, .unset, .unset, .unset, .unset]) rfl k)
    refine own_Goes.st ?_ (fun _ k => XS.iload X356.here hx rfl (hb hby at_155) rfl k)
    refine own_Goes.st ?_ (fun _ k => XS.ifYes X356.here hx rfl (pc0 := 157) (pc' := 164) rfl (hb hby at_157) rfl ((if0 _ _).trans (feq (by decide : ¬ ((12 : Int32) = (0 : Int32)))).2) (by decide) (by decide) k)
    refine own_Goes.st ?_ (fun _ k => XS.lloadN X356.here hx rfl (hb hby at_164) rfl k)
    refine own_Goes.st ?_ (fun _ k => XS.bipush X356.here hx rfl (hb hby at_165) k)
    refine own_Goes.st ?_ (fun _ k => XS.lshr X356.here hx rfl (hb hby at_167) rfl k)
    show own_Goes p.tables e below P (T356.setTop (mkF m 168 #[.val (.long p0), .second, .val (.int p1), .val (.int p2), .val (.int p3), .val (.int p4), .val (.int p5), .val (.int (12 : Int32)), .val (.int (0 : Int32)), .val (.int (0 : Int32)), .val (.int (1 : Int32)), .val (.int (1 : Int32)), .val (.int (2 : Int32)), .val (.ref b347), .val (.int (2 : Int32)), .unset, .unset, .unset, .unset, .unset, .unset, .unset, .unset] [(.long (p0 >>> ((14 : Int32) &&& 0x3f).toInt64))]))
    refine own_Goes.st ?_ (fun _ k => XS.lstore X356.here hx rfl (hb hby at_168) rfl (l' := #[.val (.long p0), .second, .val (.int p1), .val (.int p2), .val (.int p3), .val (.int p4), .val (.int p5), .val (.int (12 : Int32)), .val (.int (0 : Int32)), .val (.int (0 : Int32)), .val (.int (1 : Int32)), .val (.int (1 : Int32)), .val (.int (2 : Int32)), .val (.ref b347), .val (.int (2 : Int32)), .val (.long (p0 >>> ((14 : Int32) &&& 0x3f).toInt64)), .second, .unset, .unset, .unset, .unset, .unset, .unset]) rfl k)
    exact T2n _ _ X356 _ e356 N359 Z358 b347 k347 _ _ _ _ _ _ _ _ V357 (own_sh14 p0) (by decide) (by decide) rfl
  · skip
    show own_Goes p.tables e below P (s₁.setTop (mkF m 6 #[.val (.long p0), .second, .val (.int p1), .val (.int p2), .val (.int p3), .val (.int p4), .val (.int p5), .val (.int (13 : Int32)), .unset, .unset, .unset, .unset, .unset, .unset, .unset, .unset, .unset, .unset, .unset, .unset, .unset, .unset, .unset] []))
    refine own_Goes.st ?_ (fun _ k => XS.iload X0.here hx rfl (hb hby at_6) rfl k)
    refine own_Goes.st ?_ (fun _ k => XS.iconst X0.here hx rfl (hb hby at_8) k)
    refine own_Goes.st ?_ (fun _ k => XS.iand X0.here hx rfl (hb hby at_9) rfl k)
    refine own_Goes.st ?_ (fun _ k => XS.ifNo X0.here hx rfl (hb hby at_10) rfl ((if0 _ _).trans (feq (by decide : ¬ ((1 : Int32) = (0 : Int32)))).1) k)
    refine own_Goes.st ?_ (fun _ k => XS.iconst X0.here hx rfl (hb hby at_13) k)
    refine own_Goes.st ?_ (fun _ k => XS.goto X0.here hx rfl (pc0 := 14) (pc' := 18) rfl (hb hby at_14) (by decide) (by decide) k)
    show own_Goes p.tables e below P (s₁.setTop (mkF m 18 #[.val (.long p0), .second, .val (.int p1), .val (.int p2), .val (.int p3), .val (.int p4), .val (.int p5), .val (.int (13 : Int32)), .unset, .unset, .unset, .unset, .unset, .unset, .unset, .unset, .unset, .unset, .unset, .unset, .unset, .unset, .unset] [(.int (1 : Int32))]))
    refine own_Goes.st ?_ (fun _ k => XS.istore X0.here hx rfl (hb hby at_18) rfl (l' := #[.val (.long p0), .second, .val (.int p1), .val (.int p2), .val (.int p3), .val (.int p4), .val (.int p5), .val (.int (13 : Int32)), .val (.int (1 : Int32)), .unset, .unset, .unset, .unset, .unset, .unset, .unset, .unset, .unset, .unset, .unset, .unset, .unset, .unset]) rfl k)
    refine own_Goes.st ?_ (fun _ k => XS.iload X0.here hx rfl (hb hby at_20) rfl k)
    refine own_Goes.st ?_ (fun _ k => XS.iconst X0.here hx rfl (hb hby at_22) k)
    refine own_Goes.st ?_ (fun _ k => XS.iand X0.here hx rfl (hb hby at_23) rfl k)
    refine own_Goes.st ?_ (fun _ k => XS.ifYes X0.here hx rfl (pc0 := 24) (pc' := 31) rfl (hb hby at_24) rfl ((if0 _ _).trans (teq (by decide : (0 : Int32) = (0 : Int32))).1) (by decide) (by decide) k)
    refine own_Goes.st ?_ (fun _ k => XS.iconst X0.here hx rfl (hb hby at_31) k)
    show own_Goes p.tables e below P (s₁.setTop (mkF m 32 #[.val (.long p0), .second, .val (.int p1), .val (.int p2), .val (.int p3), .val (.int p4), .val (.int p5), .val (.int (13 : Int32)), .val (.int (1 : Int32)), .unset, .unset, .unset, .unset, .unset, .unset, .unset, .unset, .unset, .unset, .unset, .unset, .unset, .unset] [(.int (0 : Int32))]))
    refine own_Goes.st ?_ (fun _ k => XS.istore X0.here hx rfl (hb hby at_32) rfl (l' := #[.val (.long p0), .second, .val (.int p1), .val (.int p2), .val (.int p3), .val (.int p4), .val (.int p5), .val (.int (13 : Int32)), .val (.int (1 : Int32)), .val (.int (0 : Int32)), .unset, .unset, .unset, .unset, .unset, .unset, .unset, .unset, .unset, .unset, .unset, .unset, .unset]) rfl k)
    refine own_Goes.st ?_ (fun _ k => XS.iload X0.here hx rfl (hb hby at_34) rfl k)
    refine own_Goes.st ?_ (fun _ k => XS.iconst X0.here hx rfl (hb hby at_36) k)
    refine own_Goes.st ?_ (fun _ k => XS.iand X0.here hx rfl (hb hby at_37) rfl k)
    refine own_Goes.st ?_ (fun _ k => XS.ifNo X0.here hx rfl (hb hby at_38) rfl ((if0 _ _).trans (feq (by decide : ¬ ((4 : Int32) = (0 : Int32)))).1) k)
    refine own_Goes.st ?_ (fun _ k => XS.iconst X0.here hx rfl (hb hby at_41) k)
    show own_Goes p.tables e below P (s₁.setTop (mkF m 42 #[.val (.long p0), .second, .val (.int p1), .val (.int p2), .val (.int p3), .val (.int p4), .val (.int p5), .val (.int (13 : Int32)), .val (.int (1 : Int32)), .val (.int (0 : Int32)), .unset, .unset, .unset, .unset, .unset, .unset, .unset, .unset, .unset, .unset, .unset, .unset, .unset] [(.int (1 : Int32))]))
    refine own_Goes.st ?_ (fun _ k => XS.goto X0.here hx rfl (pc0 := 42) (pc' := 46) rfl (hb hby at_42) (by decide) (by decide) k)
    refine own_Goes.st ?_ (fun _ k => XS.istore X0.here hx rfl (hb hby at_46) rfl (l' := #[.val (.long p0), .second, .val (.int p1), .val (.int p2), .val (.int p3), .val (.int p4), .val (.int p5), .val (.int (13 : Int32)), .val (.int (1 : Int32)), .val (.int (0 : Int32)), .val (.int (1 : Int32)), .unset, .unset, .unset, .unset, .unset, .unset, .unset, .unset, .unset, .unset, .unset, .unset]) rfl k)
    refine own_Goes.st ?_ (fun _ k => XS.iload X0.here hx rfl (hb hby at_48) rfl k)
    refine own_Goes.st ?_ (fun _ k => XS.bipush X0.here hx rfl (hb hby at_50) k)
    refine own_Goes.st ?_ (fun _ k => XS.iand X0.here hx rfl (hb hby at_52) rfl k)
    refine own_Goes.st ?_ (fun _ k => XS.ifNo X0.here hx rfl (hb hby at_53) rfl ((if0 _ _).trans (feq (by decide : ¬ ((8 : Int32) = (0 : Int32)))).1) k)
    show own_Goes p.tables e below P (s₁.setTop (mkF m 56 #[.val (.long p0), .second, .val (.int p1), .val (.int p2), .val (.int p3), .val (.int p4), .val (.int p5), .val (.int (13 : Int32)), .val (.int (1 : Int32)), .val (.int (0 : Int32)), .val (.int (1 : Int32)), .unset, .unset, .unset, .unset, .unset, .unset, .unset, .unset, .unset, .unset, .unset, .unset] []))
    refine own_Goes.st ?_ (fun _ k => XS.iconst X0.here hx rfl (hb hby at_56) k)
    refine own_Goes.st ?_ (fun _ k => XS.goto X0.here hx rfl (pc0 := 57) (pc' := 61) rfl (hb hby at_57) (by decide) (by decide) k)
    refine own_Goes.st ?_ (fun _ k => XS.istore X0.here hx rfl (hb hby at_61) rfl (l' := #[.val (.long p0), .second, .val (.int p1), .val (.int p2), .val (.int p3), .val (.int p4), .val (.int p5), .val (.int (13 : Int32)), .val (.int (1 : Int32)), .val (.int (0 : Int32)), .val (.int (1 : Int32)), .val (.int (1 : Int32)), .unset, .unset, .unset, .unset, .unset, .unset, .unset, .unset, .unset, .unset, .unset]) rfl k)
    refine own_Goes.st ?_ (fun _ k => XS.iload X0.here hx rfl (hb hby at_63) rfl k)
    refine own_Goes.st ?_ (fun _ k => XS.iconst X0.here hx rfl (hb hby at_65) k)
    refine own_Goes.st ?_ (fun _ k => XS.iand X0.here hx rfl (hb hby at_66) rfl k)
    show own_Goes p.tables e below P (s₁.setTop (mkF m 67 #[.val (.long p0), .second, .val (.int p1), .val (.int p2), .val (.int p3), .val (.int p4), .val (.int p5), .val (.int (13 : Int32)), .val (.int (1 : Int32)), .val (.int (0 : Int32)), .val (.int (1 : Int32)), .val (.int (1 : Int32)), .unset, .unset, .unset, .unset, .unset, .unset, .unset, .unset, .unset, .unset, .unset] [(.int (1 : Int32))]))
    refine own_Goes.st ?_ (fun _ k => XS.iload X0.here hx rfl (hb hby at_67) rfl k)
    refine own_Goes.st ?_ (fun _ k => XS.iconst X0.here hx rfl (hb hby at_69) k)
    refine own_Goes.st ?_ (fun _ k => XS.ishr X0.here hx rfl (hb hby at_70) rfl k)
    refine own_Goes.st ?_ (fun _ k => XS.iconst X0.here hx rfl (hb hby at_71) k)
    refine own_Goes.st ?_ (fun _ k => XS.iand X0.here hx rfl (hb hby at_72) rfl k)
    refine own_Goes.st ?_ (fun _ k => XS.iadd X0.here hx rfl (hb hby at_73) rfl k)
    show own_Goes p.tables e below P (s₁.setTop (mkF m 74 #[.val (.long p0), .second, .val (.int p1), .val (.int p2), .val (.int p3), .val (.int p4), .val (.int p5), .val (.int (13 : Int32)), .val (.int (1 : Int32)), .val (.int (0 : Int32)), .val (.int (1 : Int32)), .val (.int (1 : Int32)), .unset, .unset, .unset, .unset, .unset, .unset, .unset, .unset, .unset, .unset, .unset] [(.int (1 : Int32))]))
    refine own_Goes.st ?_ (fun _ k => XS.iload X0.here hx rfl (hb hby at_74) rfl k)
    refine own_Goes.st ?_ (fun _ k => XS.iconst X0.here hx rfl (hb hby at_76) k)
    refine own_Goes.st ?_ (fun _ k => XS.ishr X0.here hx rfl (hb hby at_77) rfl k)
    refine own_Goes.st ?_ (fun _ k => XS.iconst X0.here hx rfl (hb hby at_78) k)
    refine own_Goes.st ?_ (fun _ k => XS.iand X0.here hx rfl (hb hby at_79) rfl k)
    refine own_Goes.st ?_ (fun _ k => XS.iadd X0.here hx rfl (hb hby at_80) rfl k)
    show own_Goes p.tables e below P (s₁.setTop (mkF m 81 #[.val (.long p0), .second, .val (.int p1), .val (.int p2), .val (.int p3), .val (.int p4), .val (.int p5), .val (.int (13 : Int32)), .val (.int (1 : Int32)), .val (.int (0 : Int32)), .val (.int (1 : Int32)), .val (.int (1 : Int32)), .unset, .unset, .unset, .unset, .unset, .unset, .unset, .unset, .unset, .unset, .unset] [(.int (2 : Int32))]))
    refine own_Goes.st ?_ (fun _ k => XS.iload X0.here hx rfl (hb hby at_81) rfl k)
    refine own_Goes.st ?_ (fun _ k => XS.iconst X0.here hx rfl (hb hby at_83) k)
    refine own_Goes.st ?_ (fun _ k => XS.ishr X0.here hx rfl (hb hby at_84) rfl k)
    refine own_Goes.st ?_ (fun _ k => XS.iconst X0.here hx rfl (hb hby at_85) k)
    refine own_Goes.st ?_ (fun _ k => XS.iand X0.here hx rfl (hb hby at_86) rfl k)
    refine own_Goes.st ?_ (fun _ k => XS.iadd X0.here hx rfl (hb hby at_87) rfl k)
    show own_Goes p.tables e below P (s₁.setTop (mkF m 88 #[.val (.long p0), .second, .val (.int p1), .val (.int p2), .val (.int p3), .val (.int p4), .val (.int p5), .val (.int (13 : Int32)), .val (.int (1 : Int32)), .val (.int (0 : Int32)), .val (.int (1 : Int32)), .val (.int (1 : Int32)), .unset, .unset, .unset, .unset, .unset, .unset, .unset, .unset, .unset, .unset, .unset] [(.int (3 : Int32))]))
    refine own_Goes.st ?_ (fun _ k => XS.istore X0.here hx rfl (hb hby at_88) rfl (l' := #[.val (.long p0), .second, .val (.int p1), .val (.int p2), .val (.int p3), .val (.int p4), .val (.int p5), .val (.int (13 : Int32)), .val (.int (1 : Int32)), .val (.int (0 : Int32)), .val (.int (1 : Int32)), .val (.int (1 : Int32)), .val (.int (3 : Int32)), .unset, .unset, .unset, .unset, .unset, .unset, .unset, .unset, .unset, .unset]) rfl k)
    refine own_Goes.st ?_ (fun _ k => XS.iload X0.here hx rfl (hb hby at_90) rfl k)
    obtain ⟨T360, h360, k360, X360, e360, E360, A360, J360, st360⟩ := newPE X0 hx hZ (hw _ (List.mem_of_getElem? (i := 0) rfl)) e0 (g := (mkF m 92 #[.val (.long p0), .second, .val (.int p1), .val (.int p2), .val (.int p3), .val (.int p4), .val (.int p5), .val (.int (13 : Int32)), .val (.int (1 : Int32)), .val (.int (0 : Int32)), .val (.int (1 : Int32)), .val (.int (1 : Int32)), .val (.int (3 : Int32)), .unset, .unset, .unset, .unset, .unset, .unset, .unset, .unset, .unset, .unset] [(.int (3 : Int32))])) rfl (hb hby at_92) rfl (by decide) (cap := 4) (by decide) (by decide) (by decide) (by decide) (ad := "[I") rfl
    obtain ⟨b360, g360⟩ : ∃ z, z = h0.size := ⟨_, rfl⟩
    rw [← g360] at A360 J360 st360
    have ge_b360 : n0 ≤ b360 := Nat.le_trans Z0 (Nat.le_of_eq g360.symm)
    refine own_Goes.st ?_ st360
    have Z361 : n0 ≤ h360.size := Nat.le_trans Z0 E360.1
    have V362 : Arv Z h360 b360 k360 .int (3 : Int32) [(.int (0 : Int32)), (.int (0 : Int32)), (.int (0 : Int32))] (.int 0) := (Arv.new A360 (by decide)).pad (pad_rep [] _ 3)
    show own_Goes p.tables e below P (T360.setTop (mkF m 94 #[.val (.long p0), .second, .val (.int p1), .val (.int p2), .val (.int p3), .val (.int p4), .val (.int p5), .val (.int (13 : Int32)), .val (.int (1 : Int32)), .val (.int (0 : Int32)), .val (.int (1 : Int32)), .val (.int (1 : Int32)), .val (.int (3 : Int32)), .unset, .unset, .unset, .unset, .unset, .unset, .unset, .unset, .unset, .unset] [(.ref b360)]))
    refine own_Goes.st ?_ (fun _ k => XS.astore X360.here hx rfl (hb hby at_94) rfl rfl (l' := #[.val (.long p0), .second, .val (.int p1), .val (.int p2), .val (.int p3), .val (.int p4), .val (.int p5), .val (.int (13 : Int32)), .val (.int (1 : Int32)), .val (.int (0 : Int32)), .val (.int (1 : Int32)), .val (.int (1 : Int32)), .val (.int (3 : Int32)), .val (.ref b360), .unset, .unset, .unset, .unset, .unset, .unset, .unset, .unset, .unset]) rfl k)
    refine own_Goes.st ?_ (fun _ k => XS.iconst X360.here hx rfl (hb hby at_96) k)
    refine own_Goes.st ?_ (fun _ k => XS.istore X360.here hx rfl (hb hby at_97) rfl (l' := #[.val (.long p0), .second, .val (.int p1), .val (.int p2), .val (.int p3), .val (.int p4), .val (.int p5), .val (.int (13 : Int32)), .val (.int (1 : Int32)), .val (.int (0 : Int32)), .val (.int (1 : Int32)), .val (.int (1 : Int32)), .val (.int (3 : Int32)), .val (.ref b360), .val (.int (0 : Int32)), .unset, .unset, .unset, .unset, .unset, .unset, .unset, .unset]) rfl k)
    refine own_Goes.st ?_ (fun _ k => XS.iload X360.here hx rfl (hb hby at_99) rfl k)
    refine own_Goes.st ?_ (fun _ k => XS.ifNo X360.here hx rfl (hb hby at_101) rfl ((if0 _ _).trans (feq (by decide : ¬ ((1 : Int32) = (0 : Int32)))).1) k)
    refine own_Goes.st ?_ (fun _ k => XS.aload X360.here hx rfl (hb hby at_104) rfl rfl k)
    show own_Goes p.tables e below P (T360.setTop (mkF m 106 #[.val (.long p0), .second, .val (.int p1), .val (.int p2), .val (.int p3), .val (.int p4), .val (.int p5), .val (.int (13 : Int32)), .val (.int (1 : Int32)), .val (.int (0 : Int32)), .val (.int (1 : Int32)), .val (.int (1 : Int32)), .val (.int (3 : Int32)), .val (.ref b360), .val (.int (0 : Int32)), .unset, .unset, .unset, .unset, .unset, .unset, .unset, .unset] [(.ref b360)]))
    refine own_Goes.st ?_ (fun _ k => XS.iload X360.here hx rfl (hb hby at_106) rfl k)
    refine own_Goes.st ?_ (fun _ k => XS.iconst X360.here hx rfl (hb hby at_108) k)
    have Vc363 := V362
    obtain ⟨cl363, Ar363, qc363, S363, Nn363, Hs363, Gs363⟩ := Vc363
    have hin364 : ¬ ((0 : Int32) < 0 ∨ cl363.slots.size ≤ ((0 : Int32)).toNatClampNeg) := inb_of S363 ⟨by decide, by decide⟩
    obtain ⟨T364, h364, X364, e364, W364, st364⟩ := stI X360 hx hZ e360 Ar363 (j := (0 : Int32)) hin364 (g := (mkF m 109 #[.val (.long p0), .second, .val (.int p1), .val (.int p2), .val (.int p3), .val (.int p4), .val (.int p5), .val (.int (13 : Int32)), .val (.int (1 : Int32)), .val (.int (0 : Int32)), .val (.int (1 : Int32)), .val (.int (1 : Int32)), .val (.int (3 : Int32)), .val (.ref b360), .val (.int (0 : Int32)), .unset, .unset, .unset, .unset, .unset, .unset, .unset, .unset] [(.int (0 : Int32)), (.int (0 : Int32)), (.ref b360)])) rfl rfl (hb hby at_109)
    refine own_Goes.st ?_ st364
    have V365 : Arv Z h364 b360 k360 .int (3 : Int32) [(.int (0 : Int32)), (.int (0 : Int32)), (.int (0 : Int32))] (.int 0) := Arv.set Ar363 qc363 S363 Nn363 Hs363 Gs363 rfl W364 0 rfl (Nat.le_of_ble_eq_true rfl)
    have Z366 : n0 ≤ h364.size := by rw [W364.size]; exact Z361
    have N367 := Fr.snoc X364 N0 ge_b360
    show own_Goes p.tables e below P (T364.setTop (mkF m 110 #[.val (.long p0), .second, .val (.int p1), .val (.int p2), .val (.int p3), .val (.int p4), .val (.int p5), .val (.int (13 : Int32)), .val (.int (1 : Int32)), .val (.int (0 : Int32)), .val (.int (1 : Int32)), .val (.int (1 : Int32)), .val (.int (3 : Int32)), .val (.ref b360), .val (.int (0 : Int32)), .unset, .unset, .unset, .unset, .unset, .unset, .unset, .unset] []))
    refine own_Goes.st ?_ (fun _ k => XS.iinc X364.here hx rfl (hb hby at_110) rfl (l' := #[.val (.long p0), .second, .val (.int p1), .val (.int p2), .val (.int p3), .val (.int p4), .val (.int p5), .val (.int (13 : Int32)), .val (.int (1 : Int32)), .val (.int (0 : Int32)), .val (.int (1 : Int32)), .val (.int (1 : Int32)), .val (.int (3 : Int32)), .val (.ref b360), .val (.int (1 : Int32)), .unset, .unset, .unset, .unset, .unset, .unset, .unset, .unset]) rfl k)
    refine own_Goes.st ?_ (fun _ k => XS.iload X364.here hx rfl (hb hby at_113) rfl k)
    refine own_Goes.st ?_ (fun _ k => XS.ifYes X364.here hx rfl (pc0 := 115) (pc' := 127) rfl (hb hby at_115) rfl ((if0 _ _).trans (teq (by decide : (0 : Int32) = (0 : Int32))).1) (by decide) (by decide) k)
    refine own_Goes.st ?_ (fun _ k => XS.iload X364.here hx rfl (hb hby at_127) rfl k)
    refine own_Goes.st ?_ (fun _ k => XS.ifNo X364.here hx rfl (hb hby at_129) rfl ((if0 _ _).trans (feq (by decide : ¬ ((1 : Int32) = (0 : Int32)))).1) k)
    refine own_Goes.st ?_ (fun _ k => XS.aload X364.here hx rfl (hb hby at_132) rfl rfl k)
    show own_Goes p.tables e below P (T364.setTop (mkF m 134 #[.val (.long p0), .second, .val (.int p1), .val (.int p2), .val (.int p3), .val (.int p4), .val (.int p5), .val (.int (13 : Int32)), .val (.int (1 : Int32)), .val (.int (0 : Int32)), .val (.int (1 : Int32)), .val (.int (1 : Int32)), .val (.int (3 : Int32)), .val (.ref b360), .val (.int (1 : Int32)), .unset, .unset, .unset, .unset, .unset, .unset, .unset, .unset] [(.ref b360)]))
    refine own_Goes.st ?_ (fun _ k => XS.iload X364.here hx rfl (hb hby at_134) rfl k)
    refine own_Goes.st ?_ (fun _ k => XS.iconst X364.here hx rfl (hb hby at_136) k)
    have Vc368 := V365
    obtain ⟨cl368, Ar368, qc368, S368, Nn368, Hs368, Gs368⟩ := Vc368
    have hin369 : ¬ ((1 : Int32) < 0 ∨ cl368.slots.size ≤ ((1 : Int32)).toNatClampNeg) := inb_of S368 ⟨by decide, by decide⟩
    obtain ⟨T369, h369, X369, e369, W369, st369⟩ := stI X364 hx hZ e364 Ar368 (j := (1 : Int32)) hin369 (g := (mkF m 137 #[.val (.long p0), .second, .val (.int p1), .val (.int p2), .val (.int p3), .val (.int p4), .val (.int p5), .val (.int (13 : Int32)), .val (.int (1 : Int32)), .val (.int (0 : Int32)), .val (.int (1 : Int32)), .val (.int (1 : Int32)), .val (.int (3 : Int32)), .val (.ref b360), .val (.int (1 : Int32)), .unset, .unset, .unset, .unset, .unset, .unset, .unset, .unset] [(.int (2 : Int32)), (.int (1 : Int32)), (.ref b360)])) rfl rfl (hb hby at_137)
    refine own_Goes.st ?_ st369
    have V370 : Arv Z h369 b360 k360 .int (3 : Int32) [(.int (0 : Int32)), (.int (2 : Int32)), (.int (0 : Int32))] (.int 0) := Arv.set Ar368 qc368 S368 Nn368 Hs368 Gs368 rfl W369 1 rfl (Nat.le_of_ble_eq_true rfl)
    have Z371 : n0 ≤ h369.size := by rw [W369.size]; exact Z366
    have N372 := Fr.snoc X369 N367 ge_b360
    show own_Goes p.tables e below P (T369.setTop (mkF m 138 #[.val (.long p0), .second, .val (.int p1), .val (.int p2), .val (.int p3), .val (.int p4), .val (.int p5), .val (.int (13 : Int32)), .val (.int (1 : Int32)), .val (.int (0 : Int32)), .val (.int (1 : Int32)), .val (.int (1 : Int32)), .val (.int (3 : Int32)), .val (.ref b360), .val (.int (1 : Int32)), .unset, .unset, .unset, .unset, .unset, .unset, .unset, .unset] []))
    refine own_Goes.st ?_ (fun _ k => XS.iinc X369.here hx rfl (hb hby at_138) rfl (l' := #[.val (.long p0), .second, .val (.int p1), .val (.int p2), .val (.int p3), .val (.int p4), .val (.int p5), .val (.int (13 : Int32)), .val (.int (1 : Int32)), .val (.int (0 : Int32)), .val (.int (1 : Int32)), .val (.int (1 : Int32)), .val (.int (3 : Int32)), .val (.ref b360), .val (.int (2 : Int32)), .unset, .unset, .unset, .unset, .unset, .unset, .unset, .unset]) rfl k)
    refine own_Goes.st ?_ (fun _ k => XS.iload X369.here hx rfl (hb hby at_141) rfl k)
    refine own_Goes.st ?_ (fun _ k => XS.ifNo X369.here hx rfl (hb hby at_143) rfl ((if0 _ _).trans (feq (by decide : ¬ ((1 : Int32) = (0 : Int32)))).1) k)
    refine own_Goes.st ?_ (fun _ k => XS.aload X369.here hx rfl (hb hby at_146) rfl rfl k)
    refine own_Goes.st ?_ (fun _ k => XS.iload X369.here hx rfl (hb hby at_148) rfl k)
    refine own_Goes.st ?_ (fun _ k => XS.iconst X369.here hx rfl (hb hby at_150) k)
    show own_Goes p.tables e below P (T369.setTop (mkF m 151 #[.val (.long p0), .second, .val (.int p1), .val (.int p2), .val (.int p3), .val (.int p4), .val (.int p5), .val (.int (13 : Int32)), .val (.int (1 : Int32)), .val (.int (0 : Int32)), .val (.int (1 : Int32)), .val (.int (1 : Int32)), .val (.int (3 : Int32)), .val (.ref b360), .val (.int (2 : Int32)), .unset, .unset, .unset, .unset, .unset, .unset, .unset, .unset] [(.int (3 : Int32)), (.int (2 : Int32)), (.ref b360)]))
    have Vc373 := V370
    obtain ⟨cl373, Ar373, qc373, S373, Nn373, Hs373, Gs373⟩ := Vc373
    have hin374 : ¬ ((2 : Int32) < 0 ∨ cl373.slots.size ≤ ((2 : Int32)).toNatClampNeg) := inb_of S373 ⟨by decide, by decide⟩
    obtain ⟨T374, h374, X374, e374, W374, st374⟩ := stI X369 hx hZ e369 Ar373 (j := (2 : Int32)) hin374 (g := (mkF m 151 #[.val (.long p0), .second, .val (.int p1), .val (.int p2), .val (.int p3), .val (.int p4), .val (.int p5), .val (.int (13 : Int32)), .val (.int (1 : Int32)), .val (.int (0 : Int32)), .val (.int (1 : Int32)), .val (.int (1 : Int32)), .val (.int (3 : Int32)), .val (.ref b360), .val (.int (2 : Int32)), .unset, .unset, .unset, .unset, .unset, .unset, .unset, .unset] [(.int (3 : Int32)), (.int (2 : Int32)), (.ref b360)])) rfl rfl (hb hby at_151)
    refine own_Goes.st ?_ st374
    have V375 : Arv Z h374 b360 k360 .int (3 : Int32) [(.int (0 : Int32)), (.int (2 : Int32)), (.int (3 : Int32))] (.int 0) := Arv.set Ar373 qc373 S373 Nn373 Hs373 Gs373 rfl W374 2 rfl (Nat.le_of_ble_eq_true rfl)
    have Z376 : n0 ≤ h374.size := by rw [W374.size]; exact Z371
    have N377 := Fr.snoc X374 N372 ge_b360
    show own_Goes p.tables e below P (T374.setTop (mkF m 152 #[.val (.long p0), .second, .val (.int p1), .val (.int p2), .val (.int p3), .val (.int p4), .val (.int p5), .val (.int (13 : Int32)), .val (.int (1 : Int32)), .val (.int (0 : Int32)), .val (.int (1 : Int32)), .val (.int (1 : Int32)), .val (.int (3 : Int32)), .val (.ref b360), .val (.int (2 : Int32)), .unset, .unset, .unset, .unset, .unset, .unset, .unset, .unset] []))
    refine own_Goes.st ?_ (fun _ k => XS.iinc X374.here hx rfl (hb hby at_152) rfl (l' := #[.val (.long p0), .second, .val (.int p1), .val (.int p2), .val (.int p3), .val (.int p4), .val (.int p5), .val (.int (13 : Int32)), .val (.int (1 : Int32)), .val (.int (0 : Int32)), .val (.int (1 : Int32)), .val (.int (1 : Int32)), .val (.int (3 : Int32)), .val (.ref b360), .val (.int (3 : Int32)), .unset, .unset, .unset, .unset, .unset, .unset, .unset, .unset]) rfl k)
    refine own_Goes.st ?_ (fun _ k => XS.iload X374.here hx rfl (hb hby at_155) rfl k)
    refine own_Goes.st ?_ (fun _ k => XS.ifYes X374.here hx rfl (pc0 := 157) (pc' := 164) rfl (hb hby at_157) rfl ((if0 _ _).trans (feq (by decide : ¬ ((13 : Int32) = (0 : Int32)))).2) (by decide) (by decide) k)
    refine own_Goes.st ?_ (fun _ k => XS.lloadN X374.here hx rfl (hb hby at_164) rfl k)
    refine own_Goes.st ?_ (fun _ k => XS.bipush X374.here hx rfl (hb hby at_165) k)
    refine own_Goes.st ?_ (fun _ k => XS.lshr X374.here hx rfl (hb hby at_167) rfl k)
    show own_Goes p.tables e below P (T374.setTop (mkF m 168 #[.val (.long p0), .second, .val (.int p1), .val (.int p2), .val (.int p3), .val (.int p4), .val (.int p5), .val (.int (13 : Int32)), .val (.int (1 : Int32)), .val (.int (0 : Int32)), .val (.int (1 : Int32)), .val (.int (1 : Int32)), .val (.int (3 : Int32)), .val (.ref b360), .val (.int (3 : Int32)), .unset, .unset, .unset, .unset, .unset, .unset, .unset, .unset] [(.long (p0 >>> ((14 : Int32) &&& 0x3f).toInt64))]))
    refine own_Goes.st ?_ (fun _ k => XS.lstore X374.here hx rfl (hb hby at_168) rfl (l' := #[.val (.long p0), .second, .val (.int p1), .val (.int p2), .val (.int p3), .val (.int p4), .val (.int p5), .val (.int (13 : Int32)), .val (.int (1 : Int32)), .val (.int (0 : Int32)), .val (.int (1 : Int32)), .val (.int (1 : Int32)), .val (.int (3 : Int32)), .val (.ref b360), .val (.int (3 : Int32)), .val (.long (p0 >>> ((14 : Int32) &&& 0x3f).toInt64)), .second, .unset, .unset, .unset, .unset, .unset, .unset]) rfl k)
    exact T3n _ _ X374 _ e374 N377 Z376 b360 k360 _ _ _ _ _ _ _ _ _ V375 (own_sh14 p0) (by decide) (by decide) (by decide) rfl
  · skip
    show own_Goes p.tables e below P (s₁.setTop (mkF m 6 #[.val (.long p0), .second, .val (.int p1), .val (.int p2), .val (.int p3), .val (.int p4), .val (.int p5), .val (.int (14 : Int32)), .unset, .unset, .unset, .unset, .unset, .unset, .unset, .unset, .unset, .unset, .unset, .unset, .unset, .unset, .unset] []))
    refine own_Goes.st ?_ (fun _ k => XS.iload X0.here hx rfl (hb hby at_6) rfl k)
    refine own_Goes.st ?_ (fun _ k => XS.iconst X0.here hx rfl (hb hby at_8) k)
    refine own_Goes.st ?_ (fun _ k => XS.iand X0.here hx rfl (hb hby at_9) rfl k)
    refine own_Goes.st ?_ (fun _ k => XS.ifYes X0.here hx rfl (pc0 := 10) (pc' := 17) rfl (hb hby at_10) rfl ((if0 _ _).trans (teq (by decide : (0 : Int32) = (0 : Int32))).1) (by decide) (by decide) k)
    refine own_Goes.st ?_ (fun _ k => XS.iconst X0.here hx rfl (hb hby at_17) k)
    refine own_Goes.st ?_ (fun _ k => XS.istore X0.here hx rfl (hb hby at_18) rfl (l' := #[.val (.long p0), .second, .val (.int p1), .val (.int p2), .val (.int p3), .val (.int p4), .val (.int p5), .val (.int (14 : Int32)), .val (.int (0 : Int32)), .unset, .unset, .unset, .unset, .unset, .unset, .unset, .unset, .unset, .unset, .unset, .unset, .unset, .unset]) rfl k)
    show own_Goes p.tables e below P (s₁.setTop (mkF m 20 #[.val (.long p0), .second, .val (.int p1), .val (.int p2), .val (.int p3), .val (.int p4), .val (.int p5), .val (.int (14 : Int32)), .val (.int (0 : Int32)), .unset, .unset, .unset, .unset, .unset, .unset, .unset, .unset, .unset, .unset, .unset, .unset, .unset, .unset] []))
    refine own_Goes.st ?_ (fun _ k => XS.iload X0.here hx rfl (hb hby at_20) rfl k)
    refine own_Goes.st ?_ (fun _ k => XS.iconst X0.here hx rfl (hb hby at_22) k)
    refine own_Goes.st ?_ (fun _ k => XS.iand X0.here hx rfl (hb hby at_23) rfl k)
    refine own_Goes.st ?_ (fun _ k => XS.ifNo X0.here hx rfl (hb hby at_24) rfl ((if0 _ _).trans (feq (by decide : ¬ ((2 : Int32) = (0 : Int32)))).1) k)
    refine own_Goes.st ?_ (fun _ k => XS.iconst X0.here hx rfl (hb hby at_27) k)
    refine own_Goes.st ?_ (fun _ k => XS.goto X0.here hx rfl (pc0 := 28) (pc' := 32) rfl (hb hby at_28) (by decide) (by decide) k)
    show own_Goes p.tables e below P (s₁.setTop (mkF m 32 #[.val (.long p0), .second, .val (.int p1), .val (.int p2), .val (.int p3), .val (.int p4), .val (.int p5), .val (.int (14 : Int32)), .val (.int (0 : Int32)), .unset, .unset, .unset, .unset, .unset, .unset, .unset, .unset, .unset, .unset, .unset, .unset, .unset, .unset] [(.int (1 : Int32))]))
    refine own_Goes.st ?_ (fun _ k => XS.istore X0.here hx rfl (hb hby at_32) rfl (l' := #[.val (.long p0), .second, .val (.int p1), .val (.int p2), .val (.int p3), .val (.int p4), .val (.int p5), .val (.int (14 : Int32)), .val (.int (0 : Int32)), .val (.int (1 : Int32)), .unset, .unset, .unset, .unset, .unset, .unset, .unset, .unset, .unset, .unset, .unset, .unset, .unset]) rfl k)
    refine own_Goes.st ?_ (fun _ k => XS.iload X0.here hx rfl (hb hby at_34) rfl k)
    refine own_Goes.st ?_ (fun _ k => XS.iconst X0.here hx rfl (hb hby at_36) k)
    refine own_Goes.st ?_ (fun _ k => XS.iand X0.here hx rfl (hb hby at_37) rfl k)
    refine own_Goes.st ?_ (fun _ k => XS.ifNo X0.here hx rfl (hb hby at_38) rfl ((if0 _ _).trans (feq (by decide : ¬ ((4 : Int32) = (0 : Int32)))).1) k)
    refine own_Goes.st ?_ (fun _ k => XS.iconst X0.here hx rfl (hb hby at_41) k)
    show own_Goes p.tables e below P (s₁.setTop (mkF m 42 #[.val (.long p0), .second, .val (.int p1), .val (.int p2), .val (.int p3), .val (.int p4), .val (.int p5), .val (.int (14 : Int32)), .val (.int (0 : Int32)), .val (.int (1 : Int32)), .unset, .unset, .unset, .unset, .unset, .unset, .unset, .unset, .unset, .unset, .unset, .unset, .unset] [(.int (1 : Int32))]))
    refine own_Goes.st ?_ (fun _ k => XS.goto X0.here hx rfl (pc0 := 42) (pc' := 46) rfl (hb hby at_42) (by decide) (by decide) k)
    refine own_Goes.st ?_ (fun _ k => XS.istore X0.here hx rfl (hb hby at_46) rfl (l' := #[.val (.long p0), .second, .val (.int p1), .val (.int p2), .val (.int p3), .val (.int p4), .val (.int p5), .val (.int (14 : Int32)), .val (.int (0 : Int32)), .val (.int (1 : Int32)), .val (.int (1 : Int32)), .unset, .unset, .unset, .unset, .unset, .unset, .unset, .unset, .unset, .unset, .unset, .unset]) rfl k)
    refine own_Goes.st ?_ (fun _ k => XS.iload X0.here hx rfl (hb hby at_48) rfl k)
    refine own_Goes.st ?_ (fun _ k => XS.bipush X0.here hx rfl (hb hby at_50) k)
    refine own_Goes.st ?_ (fun _ k => XS.iand X0.here hx rfl (hb hby at_52) rfl k)
    refine own_Goes.st ?_ (fun _ k => XS.ifNo X0.here hx rfl (hb hby at_53) rfl ((if0 _ _).trans (feq (by decide : ¬ ((8 : Int32) = (0 : Int32)))).1) k)
    show own_Goes p.tables e below P (s₁.setTop (mkF m 56 #[.val (.long p0), .second, .val (.int p1), .val (.int p2), .val (.int p3), .val (.int p4), .val (.int p5), .val (.int (14 : Int32)), .val (.int (0 : Int32)), .val (.int (1 : Int32)), .val (.int (1 : Int32)), .unset, .unset, .unset, .unset, .unset, .unset, .unset, .unset, .unset, .unset, .unset, .unset] []))
    refine own_Goes.st ?_ (fun _ k => XS.iconst X0.here hx rfl (hb hby at_56) k)
    refine own_Goes.st ?_ (fun _ k => XS.goto X0.here hx rfl (pc0 := 57) (pc' := 61) rfl (hb hby at_57) (by decide) (by decide) k)
    refine own_Goes.st ?_ (fun _ k => XS.istore X0.here hx rfl (hb hby at_61) rfl (l' := #[.val (.long p0), .second, .val (.int p1), .val (.int p2), .val (.int p3), .val (.int p4), .val (.int p5), .val (.int (14 : Int32)), .val (.int (0 : Int32)), .val (.int (1 : Int32)), .val (.int (1 : Int32)), .val (.int (1 : Int32)), .unset, .unset, .unset, .unset, .unset, .unset, .unset, .unset, .unset, .unset, .unset]) rfl k)
    refine own_Goes.st ?_ (fun _ k => XS.iload X0.here hx rfl (hb hby at_63) rfl k)
    refine own_Goes.st ?_ (fun _ k => XS.iconst X0.here hx rfl (hb hby at_65) k)
    refine own_Goes.st ?_ (fun _ k => XS.iand X0.here hx rfl (hb hby at_66) rfl k)
    show own_Goes p.tables e below P (s₁.setTop (mkF m 67 #[.val (.long p0), .second, .val (.int p1), .val (.int p2), .val (.int p3), .val (.int p4), .val (.int p5), .val (.int (14 : Int32)), .val (.int (0 : Int32)), .val (.int (1 : Int32)), .val (.int (1 : Int32)), .val (.int (1 : Int32)), .unset, .unset, .unset, .unset, .unset, .unset, .unset, .unset, .unset, .unset, .unset] [(.int (0 : Int32))]))
    refine own_Goes.st ?_ (fun _ k => XS.iload X0.here hx rfl (hb hby at_67) rfl k)
    refine own_Goes.st ?_ (fun _ k => XS.iconst X0.here hx rfl (hb hby at_69) k)
    refine own_Goes.st ?_ (fun _ k => XS.ishr X0.here hx rfl (hb hby at_70) rfl k)
    refine own_Goes.st ?_ (fun _ k => XS.iconst X0.here hx rfl (hb hby at_71) k)
    refine own_Goes.st ?_ (fun _ k => XS.iand X0.here hx rfl (hb hby at_72) rfl k)
    refine own_Goes.st ?_ (fun _ k => XS.iadd X0.here hx rfl (hb hby at_73) rfl k)
    show own_Goes p.tables e below P (s₁.setTop (mkF m 74 #[.val (.long p0), .second, .val (.int p1), .val (.int p2), .val (.int p3), .val (.int p4), .val (.int p5), .val (.int (14 : Int32)), .val (.int (0 : Int32)), .val (.int (1 : Int32)), .val (.int (1 : Int32)), .val (.int (1 : Int32)), .unset, .unset, .unset, .unset, .unset, .unset, .unset, .unset, .unset, .unset, .unset] [(.int (1 : Int32))]))
    refine own_Goes.st ?_ (fun _ k => XS.iload X0.here hx rfl (hb hby at_74) rfl k)
    refine own_Goes.st ?_ (fun _ k => XS.iconst X0.here hx rfl (hb hby at_76) k)
    refine own_Goes.st ?_ (fun _ k => XS.ishr X0.here hx rfl (hb hby at_77) rfl k)
    refine own_Goes.st ?_ (fun _ k => XS.iconst X0.here hx rfl (hb hby at_78) k)
    refine own_Goes.st ?_ (fun _ k => XS.iand X0.here hx rfl (hb hby at_79) rfl k)
    refine own_Goes.st ?_ (fun _ k => XS.iadd X0.here hx rfl (hb hby at_80) rfl k)
    show own_Goes p.tables e below P (s₁.setTop (mkF m 81 #[.val (.long p0), .second, .val (.int p1), .val (.int p2), .val (.int p3), .val (.int p4), .val (.int p5), .val (.int (14 : Int32)), .val (.int (0 : Int32)), .val (.int (1 : Int32)), .val (.int (1 : Int32)), .val (.int (1 : Int32)), .unset, .unset, .unset, .unset, .unset, .unset, .unset, .unset, .unset, .unset, .unset] [(.int (2 : Int32))]))
    refine own_Goes.st ?_ (fun _ k => XS.iload X0.here hx rfl (hb hby at_81) rfl k)
    refine own_Goes.st ?_ (fun _ k => XS.iconst X0.here hx rfl (hb hby at_83) k)
    refine own_Goes.st ?_ (fun _ k => XS.ishr X0.here hx rfl (hb hby at_84) rfl k)
    refine own_Goes.st ?_ (fun _ k => XS.iconst X0.here hx rfl (hb hby at_85) k)
    refine own_Goes.st ?_ (fun _ k => XS.iand X0.here hx rfl (hb hby at_86) rfl k)
    refine own_Goes.st ?_ (fun _ k => XS.iadd X0.here hx rfl (hb hby at_87) rfl k)
    show own_Goes p.tables e below P (s₁.setTop (mkF m 88 #[.val (.long p0), .second, .val (.int p1), .val (.int p2), .val (.int p3), .val (.int p4), .val (.int p5), .val (.int (14 : Int32)), .val (.int (0 : Int32)), .val (.int (1 : Int32)), .val (.int (1 : Int32)), .val (.int (1 : Int32)), .unset, .unset, .unset, .unset, .unset, .unset, .unset, .unset, .unset, .unset, .unset] [(.int (3 : Int32))]))
    refine own_Goes.st ?_ (fun _ k => XS.istore X0.here hx rfl (hb hby at_88) rfl (l' := #[.val (.long p0), .second, .val (.int p1), .val (.int p2), .val (.int p3), .val (.int p4), .val (.int p5), .val (.int (14 : Int32)), .val (.int (0 : Int32)), .val (.int (1 : Int32)), .val (.int (1 : Int32)), .val (.int (1 : Int32)), .val (.int (3 : Int32)), .unset, .unset, .unset, .unset, .unset, .unset, .unset, .unset, .unset, .unset]) rfl k)
    refine own_Goes.st ?_ (fun _ k => XS.iload X0.here hx rfl (hb hby at_90) rfl k)
    obtain ⟨T378, h378, k378, X378, e378, E378, A378, J378, st378⟩ := newPE X0 hx hZ (hw _ (List.mem_of_getElem? (i := 0) rfl)) e0 (g := (mkF m 92 #[.val (.long p0), .second, .val (.int p1), .val (.int p2), .val (.int p3), .val (.int p4), .val (.int p5), .val (.int (14 : Int32)), .val (.int (0 : Int32)), .val (.int (1 : Int32)), .val (.int (1 : Int32)), .val (.int (1 : Int32)), .val (.int (3 : Int32)), .unset, .unset, .unset, .unset, .unset, .unset, .unset, .unset, .unset, .unset] [(.int (3 : Int32))])) rfl (hb hby at_92) rfl (by decide) (cap := 4) (by decide) (by decide) (by decide) (by decide) (ad := "[I") rfl
    obtain ⟨b378, g378⟩ : ∃ z, z = h0.size := ⟨_, rfl⟩
    rw [← g378] at A378 J378 st378
    have ge_b378 : n0 ≤ b378 := Nat.le_trans Z0 (Nat.le_of_eq g378.symm)
    refine own_Goes.st ?_ st378
    have Z379 : n0 ≤ h378.size := Nat.le_trans Z0 E378.1
    have V380 : Arv Z h378 b378 k378 .int (3 : Int32) [(.int (0 : Int32)), (.int (0 : Int32)), (.int (0 : Int32))] (.int 0) := (Arv.new A378 (by decide)).pad (pad_rep [] _ 3)
    show own_Goes p.tables e below P (T378.setTop (mkF m 94 #[.val (.long p0), .second, .val (.int p1), .val (.int p2), .val (.int p3), .val (.int p4), .val (.int p5), .val (.int (14 : Int32)), .val (.int (0 : Int32)), .val (.int (1 : Int32)), .val (.int (1 : Int32)), .val (.int (1 : Int32)), .val (.int (3 : Int32)), .unset, .unset, .unset, .unset, .unset, .unset, .unset, .unset, .unset, .unset] [(.ref b378)]))
    refine own_Goes.st ?_ (fun _ k => XS.astore X378.here hx rfl (hb hby at_94) rfl rfl (l' := #[.val (.long p0), .second, .val (.int p1), .val (.int p2), .val (.int p3), .val (.int p4), .val (.int p5), .val (.int (14 : Int32)), .val (.int (0 : Int32)), .val (.int (1 : Int32)), .val (.int (1 : Int32)), .val (.int (1 : Int32)), .val (.int (3 : Int32)), .val (.ref b378), .unset, .unset, .unset, .unset, .unset, .unset, .unset, .unset, .unset]) rfl k)
    refine own_Goes.st ?_ (fun _ k => XS.iconst X378.here hx rfl (hb hby at_96) k)
    refine own_Goes.st ?_ (fun _ k => XS.istore X378.here hx rfl (hb hby at_97) rfl (l' := #[.val (.long p0), .second, .val (.int p1), .val (.int p2), .val (.int p3), .val (.int p4), .val (.int p5), .val (.int (14 : Int32)), .val (.int (0 : Int32)), .val (.int (1 : Int32)), .val (.int (1 : Int32)), .val (.int (1 : Int32)), .val (.int (3 : Int32)), .val (.ref b378), .val (.int (0 : Int32)), .unset, .unset, .unset, .unset, .unset, .unset, .unset, .unset]) rfl k)
    refine own_Goes.st ?_ (fun _ k => XS.iload X378.here hx rfl (hb hby at_99) rfl k)
    refine own_Goes.st ?_ (fun _ k => XS.ifYes X378.here hx rfl (pc0 := 101) (pc' := 113) rfl (hb hby at_101) rfl ((if0 _ _).trans (teq (by decide : (0 : Int32) = (0 : Int32))).1) (by decide) (by decide) k)
    refine own_Goes.st ?_ (fun _ k => XS.iload X378.here hx rfl (hb hby at_113) rfl k)
    show own_Goes p.tables e below P (T378.setTop (mkF m 115 #[.val (.long p0), .second, .val (.int p1), .val (.int p2), .val (.int p3), .val (.int p4), .val (.int p5), .val (.int (14 : Int32)), .val (.int (0 : Int32)), .val (.int (1 : Int32)), .val (.int (1 : Int32)), .val (.int (1 : Int32)), .val (.int (3 : Int32)), .val (.ref b378), .val (.int (0 : Int32)), .unset, .unset, .unset, .unset, .unset, .unset, .unset, .unset] [(.int (1 : Int32))]))
    refine own_Goes.st ?_ (fun _ k => XS.ifNo X378.here hx rfl (hb hby at_115) rfl ((if0 _ _).trans (feq (by decide : ¬ ((1 : Int32) = (0 : Int32)))).1) k)
    refine own_Goes.st ?_ (fun _ k => XS.aload X378.here hx rfl (hb hby at_118) rfl rfl k)
    refine own_Goes.st ?_ (fun _ k => XS.iload X378.here hx rfl (hb hby at_120) rfl k)
    refine own_Goes.st ?_ (fun _ k => XS.iconst X378.here hx rfl (hb hby at_122) k)
    have Vc381 := V380
    obtain ⟨cl381, Ar381, qc381, S381, Nn381, Hs381, Gs381⟩ := Vc381
    have hin382 : ¬ ((0 : Int32) < 0 ∨ cl381.slots.size ≤ ((0 : Int32)).toNatClampNeg) := inb_of S381 ⟨by decide, by decide⟩
    obtain ⟨T382, h382, X382, e382, W382, st382⟩ := stI X378 hx hZ e378 Ar381 (j := (0 : Int32)) hin382 (g := (mkF m 123 #[.val (.long p0), .second, .val (.int p1), .val (.int p2), .val (.int p3), .val (.int p4), .val (.int p5), .val (.int (14 : Int32)), .val (.int (0 : Int32)), .val (.int (1 : Int32)), .val (.int (1 : Int32)), .val (.int (1 : Int32)), .val (.int (3 : Int32)), .val (.ref b378), .val (.int (0 : Int32)), .unset, .unset, .unset, .unset, .unset, .unset, .unset, .unset] [(.int (1 : Int32)), (.int (0 : Int32)), (.ref b378)])) rfl rfl (hb hby at_123)
    refine own_Goes.st ?_ st382
    have V383 : Arv Z h382 b378 k378 .int (3 : Int32) [(.int (1 : Int32)), (.int (0 : Int32)), (.int (0 : Int32))] (.int 0) := Arv.set Ar381 qc381 S381 Nn381 Hs381 Gs381 rfl W382 0 rfl (Nat.le_of_ble_eq_true rfl)
    have Z384 : n0 ≤ h382.size := by rw [W382.size]; exact Z379
    have N385 := Fr.snoc X382 N0 ge_b378
    show own_Goes p.tables e below P (T382.setTop (mkF m 124 #[.val (.long p0), .second, .val (.int p1), .val (.int p2), .val (.int p3), .val (.int p4), .val (.int p5), .val (.int (14 : Int32)), .val (.int (0 : Int32)), .val (.int (1 : Int32)), .val (.int (1 : Int32)), .val (.int (1 : Int32)), .val (.int (3 : Int32)), .val (.ref b378), .val (.int (0 : Int32)), .unset, .unset, .unset, .unset, .unset, .unset, .unset, .unset] []))
    refine own_Goes.st ?_ (fun _ k => XS.iinc X382.here hx rfl (hb hby at_124) rfl (l' := #[.val (.long p0), .second, .val (.int p1), .val (.int p2), .val (.int p3), .val (.int p4), .val (.int p5), .val (.int (14 : Int32)), .val (.int (0 : Int32)), .val (.int (1 : Int32)), .val (.int (1 : Int32)), .val (.int (1 : Int32)), .val (.int (3 : Int32)), .val (.ref b378), .val (.int (1 : Int32)), .unset, .unset, .unset, .unset, .unset, .unset, .unset, .unset]) rfl k)
    refine own_Goes.st ?_ (fun _ k => XS.iload X382.here hx rfl (hb hby at_127) rfl k)
    refine own_Goes.st ?_ (fun _ k => XS.ifNo X382.here hx rfl (hb hby at_129) rfl ((if0 _ _).trans (feq (by decide : ¬ ((1 : Int32) = (0 : Int32)))).1) k)
    refine own_Goes.st ?_ (fun _ k => XS.aload X382.here hx rfl (hb hby at_132) rfl rfl k)
    refine own_Goes.st ?_ (fun _ k => XS.iload X382.here hx rfl (hb hby at_134) rfl k)
    refine own_Goes.st ?_ (fun _ k => XS.iconst X382.here hx rfl (hb hby at_136) k)
    show own_Goes p.tables e below P (T382.setTop (mkF m 137 #[.val (.long p0), .second, .val (.int p1), .val (.int p2), .val (.int p3), .val (.int p4), .val (.int p5), .val (.int (14 : Int32)), .val (.int (0 : Int32)), .val (.int (1 : Int32)), .val (.int (1 : Int32)), .val (.int (1 : Int32)), .val (.int (3 : Int32)), .val (.ref b378), .val (.int (1 : Int32)), .unset, .unset, .unset, .unset, .unset, .unset, .unset, .unset] [(.int (2 : Int32)), (.int (1 : Int32)), (.ref b378)]))
    have Vc386 := V383
    obtain ⟨cl386, Ar386, qc386, S386, Nn386, Hs386, Gs386⟩ := Vc386
    have hin387 : ¬ ((1 : Int32) < 0 ∨ cl386.slots.size ≤ ((1 : Int32)).toNatClampNeg) := inb_of S386 ⟨by decide, by decide⟩
    obtain ⟨T387, h387, X387, e387, W387, st387⟩ := stI X382 hx hZ e382 Ar386 (j := (1 : Int32)) hin387 (g := (mkF m 137 #[.val (.long p0), .second, .val (.int p1), .val (.int p2), .val (.int p3), .val (.int p4), .val (.int p5), .val (.int (14 : Int32)), .val (.int (0 : Int32)), .val (.int (1 : Int32)), .val (.int (1 : Int32)), .val (.int (1 : Int32)), .val (.int (3 : Int32)), .val (.ref b378), .val (.int (1 : Int32)), .unset, .unset, .unset, .unset, .unset, .unset, .unset, .unset] [(.int (2 : Int32)), (.int (1 : Int32)), (.ref b378)])) rfl rfl (hb hby at_137)
    refine own_Goes.st ?_ st387
    have V388 : Arv Z h387 b378 k378 .int (3 : Int32) [(.int (1 : Int32)), (.int (2 : Int32)), (.int (0 : Int32))] (.int 0) := Arv.set Ar386 qc386 S386 Nn386 Hs386 Gs386 rfl W387 1 rfl (Nat.le_of_ble_eq_true rfl)
    have Z389 : n0 ≤ h387.size := by rw [W387.size]; exact Z384
    have N390 := Fr.snoc X387 N385 ge_b378
    show own_Goes p.tables e below P (T387.setTop (mkF m 138 #[.val (.long p0), .second, .val (.int p1), .val (.int p2), .val (.int p3), .val (.int p4), .val (.int p5), .val (.int (14 : Int32)), .val (.int (0 : Int32)), .val (.int (1 : Int32)), .val (.int (1 : Int32)), .val (.int (1 : Int32)), .val (.int (3 : Int32)), .val (.ref b378), .val (.int (1 : Int32)), .unset, .unset, .unset, .unset, .unset, .unset, .unset, .unset] []))
    refine own_Goes.st ?_ (fun _ k => XS.iinc X387.here hx rfl (hb hby at_138) rfl (l' := #[.val (.long p0), .second, .val (.int p1), .val (.int p2), .val (.int p3), .val (.int p4), .val (.int p5), .val (.int (14 : Int32)), .val (.int (0 : Int32)), .val (.int (1 : Int32)), .val (.int (1 : Int32)), .val (.int (1 : Int32)), .val (.int (3 : Int32)), .val (.ref b378), .val (.int (2 : Int32)), .unset, .unset, .unset, .unset, .unset, .unset, .unset, .unset]) rfl k)
    refine own_Goes.st ?_ (fun _ k => XS.iload X387.here hx rfl (hb hby at_141) rfl k)
    refine own_Goes.st ?_ (fun _ k => XS.ifNo X387.here hx rfl (hb hby at_143) rfl ((if0 _ _).trans (feq (by decide : ¬ ((1 : Int32) = (0 : Int32)))).1) k)
    refine own_Goes.st ?_ (fun _ k => XS.aload X387.here hx rfl (hb hby at_146) rfl rfl k)
    refine own_Goes.st ?_ (fun _ k => XS.iload X387.here hx rfl (hb hby at_148) rfl k)
    refine own_Goes.st ?_ (fun _ k => XS.iconst X387.here hx rfl (hb hby at_150) k)
    show own_Goes p.tables e below P (T387.setTop (mkF m 151 #[.val (.long p0), .second, .val (.int p1), .val (.int p2), .val (.int p3), .val (.int p4), .val (.int p5), .val (.int (14 : Int32)), .val (.int (0 : Int32)), .val (.int (1 : Int32)), .val (.int (1 : Int32)), .val (.int (1 : Int32)), .val (.int (3 : Int32)), .val (.ref b378), .val (.int (2 : Int32)), .unset, .unset, .unset, .unset, .unset, .unset, .unset, .unset] [(.int (3 : Int32)), (.int (2 : Int32)), (.ref b378)]))
    have Vc391 := V388
    obtain ⟨cl391, Ar391, qc391, S391, Nn391, Hs391, Gs391⟩ := Vc391
    have hin392 : ¬ ((2 : Int32) < 0 ∨ cl391.slots.size ≤ ((2 : Int32)).toNatClampNeg) := inb_of S391 ⟨by decide, by decide⟩
    obtain ⟨T392, h392, X392, e392, W392, st392⟩ := stI X387 hx hZ e387 Ar391 (j := (2 : Int32)) hin392 (g := (mkF m 151 #[.val (.long p0), .second, .val (.int p1), .val (.int p2), .val (.int p3), .val (.int p4), .val (.int p5), .val (.int (14 : Int32)), .val (.int (0 : Int32)), .val (.int (1 : Int32)), .val (.int (1 : Int32)), .val (.int (1 : Int32)), .val (.int (3 : Int32)), .val (.ref b378), .val (.int (2 : Int32)), .unset, .unset, .unset, .unset, .unset, .unset, .unset, .unset] [(.int (3 : Int32)), (.int (2 : Int32)), (.ref b378)])) rfl rfl (hb hby at_151)
    refine own_Goes.st ?_ st392
    have V393 : Arv Z h392 b378 k378 .int (3 : Int32) [(.int (1 : Int32)), (.int (2 : Int32)), (.int (3 : Int32))] (.int 0) := Arv.set Ar391 qc391 S391 Nn391 Hs391 Gs391 rfl W392 2 rfl (Nat.le_of_ble_eq_true rfl)
    have Z394 : n0 ≤ h392.size := by rw [W392.size]; exact Z389
    have N395 := Fr.snoc X392 N390 ge_b378
    show own_Goes p.tables e below P (T392.setTop (mkF m 152 #[.val (.long p0), .second, .val (.int p1), .val (.int p2), .val (.int p3), .val (.int p4), .val (.int p5), .val (.int (14 : Int32)), .val (.int (0 : Int32)), .val (.int (1 : Int32)), .val (.int (1 : Int32)), .val (.int (1 : Int32)), .val (.int (3 : Int32)), .val (.ref b378), .val (.int (2 : Int32)), .unset, .unset, .unset, .unset, .unset, .unset, .unset, .unset] []))
    refine own_Goes.st ?_ (fun _ k => XS.iinc X392.here hx rfl (hb hby at_152) rfl (l' := #[.val (.long p0), .second, .val (.int p1), .val (.int p2), .val (.int p3), .val (.int p4), .val (.int p5), .val (.int (14 : Int32)), .val (.int (0 : Int32)), .val (.int (1 : Int32)), .val (.int (1 : Int32)), .val (.int (1 : Int32)), .val (.int (3 : Int32)), .val (.ref b378), .val (.int (3 : Int32)), .unset, .unset, .unset, .unset, .unset, .unset, .unset, .unset]) rfl k)
    refine own_Goes.st ?_ (fun _ k => XS.iload X392.here hx rfl (hb hby at_155) rfl k)
    refine own_Goes.st ?_ (fun _ k => XS.ifYes X392.here hx rfl (pc0 := 157) (pc' := 164) rfl (hb hby at_157) rfl ((if0 _ _).trans (feq (by decide : ¬ ((14 : Int32) = (0 : Int32)))).2) (by decide) (by decide) k)
    refine own_Goes.st ?_ (fun _ k => XS.lloadN X392.here hx rfl (hb hby at_164) rfl k)
    refine own_Goes.st ?_ (fun _ k => XS.bipush X392.here hx rfl (hb hby at_165) k)
    refine own_Goes.st ?_ (fun _ k => XS.lshr X392.here hx rfl (hb hby at_167) rfl k)
    show own_Goes p.tables e below P (T392.setTop (mkF m 168 #[.val (.long p0), .second, .val (.int p1), .val (.int p2), .val (.int p3), .val (.int p4), .val (.int p5), .val (.int (14 : Int32)), .val (.int (0 : Int32)), .val (.int (1 : Int32)), .val (.int (1 : Int32)), .val (.int (1 : Int32)), .val (.int (3 : Int32)), .val (.ref b378), .val (.int (3 : Int32)), .unset, .unset, .unset, .unset, .unset, .unset, .unset, .unset] [(.long (p0 >>> ((14 : Int32) &&& 0x3f).toInt64))]))
    refine own_Goes.st ?_ (fun _ k => XS.lstore X392.here hx rfl (hb hby at_168) rfl (l' := #[.val (.long p0), .second, .val (.int p1), .val (.int p2), .val (.int p3), .val (.int p4), .val (.int p5), .val (.int (14 : Int32)), .val (.int (0 : Int32)), .val (.int (1 : Int32)), .val (.int (1 : Int32)), .val (.int (1 : Int32)), .val (.int (3 : Int32)), .val (.ref b378), .val (.int (3 : Int32)), .val (.long (p0 >>> ((14 : Int32) &&& 0x3f).toInt64)), .second, .unset, .unset, .unset, .unset, .unset, .unset]) rfl k)
    exact T3n _ _ X392 _ e392 N395 Z394 b378 k378 _ _ _ _ _ _ _ _ _ V393 (own_sh14 p0) (by decide) (by decide) (by decide) rfl
  · skip
    show own_Goes p.tables e below P (s₁.setTop (mkF m 6 #[.val (.long p0), .second, .val (.int p1), .val (.int p2), .val (.int p3), .val (.int p4), .val (.int p5), .val (.int (15 : Int32)), .unset, .unset, .unset, .unset, .unset, .unset, .unset, .unset, .unset, .unset, .unset, .unset, .unset, .unset, .unset] []))
    refine own_Goes.st ?_ (fun _ k => XS.iload X0.here hx rfl (hb hby at_6) rfl k)
    refine own_Goes.st ?_ (fun _ k => XS.iconst X0.here hx rfl (hb hby at_8) k)
    refine own_Goes.st ?_ (fun _ k => XS.iand X0.here hx rfl (hb hby at_9) rfl k)
    refine own_Goes.st ?_ (fun _ k => XS.ifNo X0.here hx rfl (hb hby at_10) rfl ((if0 _ _).trans (feq (by decide : ¬ ((1 : Int32) = (0 : Int32)))).1) k)
    refine own_Goes.st ?_ (fun _ k => XS.iconst X0.here hx rfl (hb hby at_13) k)
    refine own_Goes.st ?_ (fun _ k => XS.goto X0.here hx rfl (pc0 := 14) (pc' := 18) rfl (hb hby at_14) (by decide) (by decide) k)
    show own_Goes p.tables e below P (s₁.setTop (mkF m 18 #[.val (.long p0), .second, .val (.int p1), .val (.int p2), .val (.int p3), .val (.int p4), .val (.int p5), .val (.int (15 : Int32)), .unset, .unset, .unset, .unset, .unset, .unset, .unset, .unset, .unset, .unset, .unset, .unset, .unset, .unset, .unset] [(.int (1 : Int32))]))
    refine own_Goes.st ?_ (fun _ k => XS.istore X0.here hx rfl (hb hby at_18) rfl (l' := #[.val (.long p0), .second, .val (.int p1), .val (.int p2), .val (.int p3), .val (.int p4), .val (.int p5), .val (.int (15 : Int32)), .val (.int (1 : Int32)), .unset, .unset, .unset, .unset, .unset, .unset, .unset, .unset, .unset, .unset, .unset, .unset, .unset, .unset]) rfl k)
    refine own_Goes.st ?_ (fun _ k => XS.iload X0.here hx rfl (hb hby at_20) rfl k)
    refine own_Goes.st ?_ (fun _ k => XS.iconst X0.here hx rfl (hb hby at_22) k)
    refine own_Goes.st ?_ (fun _ k => XS.iand X0.here hx rfl (hb hby at_23) rfl k)
    refine own_Goes.st ?_ (fun _ k => XS.ifNo X0.here hx rfl (hb hby at_24) rfl ((if0 _ _).trans (feq (by decide : ¬ ((2 : Int32) = (0 : Int32)))).1) k)
    refine own_Goes.st ?_ (fun _ k => XS.iconst X0.here hx rfl (hb hby at_27) k)
    show own_Goes p.tables e below P (s₁.setTop (mkF m 28 #[.val (.long p0), .second, .val (.int p1), .val (.int p2), .val (.int p3), .val (.int p4), .val (.int p5), .val (.int (15 : Int32)), .val (.int (1 : Int32)), .unset, .unset, .unset, .unset, .unset, .unset, .unset, .unset, .unset, .unset, .unset, .unset, .unset, .unset] [(.int (1 : Int32))]))
    refine own_Goes.st ?_ (fun _ k => XS.goto X0.here hx rfl (pc0 := 28) (pc' := 32) rfl (hb hby at_28) (by decide) (by decide) k)
    refine own_Goes.st ?_ (fun _ k => XS.istore X0.here hx rfl (hb hby at_32) rfl (l' := #[.val (.long p0), .second, .val (.int p1), .val (.int p2), .val (.int p3), .val (.int p4), .val (.int p5), .val (.int (15 : Int32)), .val (.int (1 : Int32)), .val (.int (1 : Int32)), .unset, .unset, .unset, .unset, .unset, .unset, .unset, .unset, .unset, .unset, .unset, .unset, .unset]) rfl k)
    refine own_Goes.st ?_ (fun _ k => XS.iload X0.here hx rfl (hb hby at_34) rfl k)
    refine own_Goes.st ?_ (fun _ k => XS.iconst X0.here hx rfl (hb hby at_36) k)
    refine own_Goes.st ?_ (fun _ k => XS.iand X0.here hx rfl (hb hby at_37) rfl k)
    refine own_Goes.st ?_ (fun _ k => XS.ifNo X0.here hx rfl (hb hby at_38) rfl ((if0 _ _).trans (feq (by decide : ¬ ((4 : Int32) = (0 : Int32)))).1) k)
    show own_Goes p.tables e below P (s₁.setTop (mkF m 41 #[.val (.long p0), .second, .val (.int p1), .val (.int p2), .val (.int p3), .val (.int p4), .val (.int p5), .val (.int (15 : Int32)), .val (.int (1 : Int32)), .val (.int (1 : Int32)), .unset, .unset, .unset, .unset, .unset, .unset, .unset, .unset, .unset, .unset, .unset, .unset, .unset] []))
    refine own_Goes.st ?_ (fun _ k => XS.iconst X0.here hx rfl (hb hby at_41) k)
    refine own_Goes.st ?_ (fun _ k => XS.goto X0.here hx rfl (pc0 := 42) (pc' := 46) rfl (hb hby at_42) (by decide) (by decide) k)
    refine own_Goes.st ?_ (fun _ k => XS.istore X0.here hx rfl (hb hby at_46) rfl (l' := #[.val (.long p0), .second, .val (.int p1), .val (.int p2), .val (.int p3), .val (.int p4), .val (.int p5), .val (.int (15 : Int32)), .val (.int (1 : Int32)), .val (.int (1 : Int32)), .val (.int (1 : Int32)), .unset, .unset, .unset, .unset, .unset, .unset, .unset, .unset, .unset, .unset, .unset, .unset]) rfl k)
    refine own_Goes.st ?_ (fun _ k => XS.iload X0.here hx rfl (hb hby at_48) rfl k)
    refine own_Goes.st ?_ (fun _ k => XS.bipush X0.here hx rfl (hb hby at_50) k)
    refine own_Goes.st ?_ (fun _ k => XS.iand X0.here hx rfl (hb hby at_52) rfl k)
    show own_Goes p.tables e below P (s₁.setTop (mkF m 53 #[.val (.long p0), .second, .val (.int p1), .val (.int p2), .val (.int p3), .val (.int p4), .val (.int p5), .val (.int (15 : Int32)), .val (.int (1 : Int32)), .val (.int (1 : Int32)), .val (.int (1 : Int32)), .unset, .unset, .unset, .unset, .unset, .unset, .unset, .unset, .unset, .unset, .unset, .unset] [(.int (8 : Int32))]))
    refine own_Goes.st ?_ (fun _ k => XS.ifNo X0.here hx rfl (hb hby at_53) rfl ((if0 _ _).trans (feq (by decide : ¬ ((8 : Int32) = (0 : Int32)))).1) k)
    refine own_Goes.st ?_ (fun _ k => XS.iconst X0.here hx rfl (hb hby at_56) k)
    refine own_Goes.st ?_ (fun _ k => XS.goto X0.here hx rfl (pc0 := 57) (pc' := 61) rfl (hb hby at_57) (by decide) (by decide) k)
    refine own_Goes.st ?_ (fun _ k => XS.istore X0.here hx rfl (hb hby at_61) rfl (l' := #[.val (.long p0), .second, .val (.int p1), .val (.int p2), .val (.int p3), .val (.int p4), .val (.int p5), .val (.int (15 : Int32)), .val (.int (1 : Int32)), .val (.int (1 : Int32)), .val (.int (1 : Int32)), .val (.int (1 : Int32)), .unset, .unset, .unset, .unset, .unset, .unset, .unset, .unset, .unset, .unset, .unset]) rfl k)
    refine own_Goes.st ?_ (fun _ k => XS.iload X0.here hx rfl (hb hby at_63) rfl k)
    refine own_Goes.st ?_ (fun _ k => XS.iconst X0.here hx rfl (hb hby at_65) k)
    show own_Goes p.tables e below P (s₁.setTop (mkF m 66 #[.val (.long p0), .second, .val (.int p1), .val (.int p2), .val (.int p3), .val (.int p4), .val (.int p5), .val (.int (15 : Int32)), .val (.int (1 : Int32)), .val (.int (1 : Int32)), .val (.int (1 : Int32)), .val (.int (1 : Int32)), .unset, .unset, .unset, .unset, .unset, .unset, .unset, .unset, .unset, .unset, .unset] [(.int (1 : Int32)), (.int (15 : Int32))]))
    refine own_Goes.st ?_ (fun _ k => XS.iand X0.here hx rfl (hb hby at_66) rfl k)
    refine own_Goes.st ?_ (fun _ k => XS.iload X0.here hx rfl (hb hby at_67) rfl k)
    refine own_Goes.st ?_ (fun _ k => XS.iconst X0.here hx rfl (hb hby at_69) k)
    refine own_Goes.st ?_ (fun _ k => XS.ishr X0.here hx rfl (hb hby at_70) rfl k)
    refine own_Goes.st ?_ (fun _ k => XS.iconst X0.here hx rfl (hb hby at_71) k)
    refine own_Goes.st ?_ (fun _ k => XS.iand X0.here hx rfl (hb hby at_72) rfl k)
    show own_Goes p.tables e below P (s₁.setTop (mkF m 73 #[.val (.long p0), .second, .val (.int p1), .val (.int p2), .val (.int p3), .val (.int p4), .val (.int p5), .val (.int (15 : Int32)), .val (.int (1 : Int32)), .val (.int (1 : Int32)), .val (.int (1 : Int32)), .val (.int (1 : Int32)), .unset, .unset, .unset, .unset, .unset, .unset, .unset, .unset, .unset, .unset, .unset] [(.int (1 : Int32)), (.int (1 : Int32))]))
    refine own_Goes.st ?_ (fun _ k => XS.iadd X0.here hx rfl (hb hby at_73) rfl k)
    refine own_Goes.st ?_ (fun _ k => XS.iload X0.here hx rfl (hb hby at_74) rfl k)
    refine own_Goes.st ?_ (fun _ k => XS.iconst X0.here hx rfl (hb hby at_76) k)
    refine own_Goes.st ?_ (fun _ k => XS.ishr X0.here hx rfl (hb hby at_77) rfl k)
    refine own_Goes.st ?_ (fun _ k => XS.iconst X0.here hx rfl (hb hby at_78) k)
    refine own_Goes.st ?_ (fun _ k => XS.iand X0.here hx rfl (hb hby at_79) rfl k)
    show own_Goes p.tables e below P (s₁.setTop (mkF m 80 #[.val (.long p0), .second, .val (.int p1), .val (.int p2), .val (.int p3), .val (.int p4), .val (.int p5), .val (.int (15 : Int32)), .val (.int (1 : Int32)), .val (.int (1 : Int32)), .val (.int (1 : Int32)), .val (.int (1 : Int32)), .unset, .unset, .unset, .unset, .unset, .unset, .unset, .unset, .unset, .unset, .unset] [(.int (1 : Int32)), (.int (2 : Int32))]))
    refine own_Goes.st ?_ (fun _ k => XS.iadd X0.here hx rfl (hb hby at_80) rfl k)
    refine own_Goes.st ?_ (fun _ k => XS.iload X0.here hx rfl (hb hby at_81) rfl k)
    refine own_Goes.st ?_ (fun _ k => XS.iconst X0.here hx rfl (hb hby at_83) k)
    refine own_Goes.st ?_ (fun _ k => XS.ishr X0.here hx rfl (hb hby at_84) rfl k)
    refine own_Goes.st ?_ (fun _ k => XS.iconst X0.here hx rfl (hb hby at_85) k)
    refine own_Goes.st ?_ (fun _ k => XS.iand X0.here hx rfl (hb hby at_86) rfl k)
    show own_Goes p.tables e below P (s₁.setTop (mkF m 87 #[.val (.long p0), .second, .val (.int p1), .val (.int p2), .val (.int p3), .val (.int p4), .val (.int p5), .val (.int (15 : Int32)), .val (.int (1 : Int32)), .val (.int (1 : Int32)), .val (.int (1 : Int32)), .val (.int (1 : Int32)), .unset, .unset, .unset, .unset, .unset, .unset, .unset, .unset, .unset, .unset, .unset] [(.int (1 : Int32)), (.int (3 : Int32))]))
    refine own_Goes.st ?_ (fun _ k => XS.iadd X0.here hx rfl (hb hby at_87) rfl k)
    refine own_Goes.st ?_ (fun _ k => XS.istore X0.here hx rfl (hb hby at_88) rfl (l' := #[.val (.long p0), .second, .val (.int p1), .val (.int p2), .val (.int p3), .val (.int p4), .val (.int p5), .val (.int (15 : Int32)), .val (.int (1 : Int32)), .val (.int (1 : Int32)), .val (.int (1 : Int32)), .val (.int (1 : Int32)), .val (.int (4 : Int32)), .unset, .unset, .unset, .unset, .unset, .unset, .unset, .unset, .unset, .unset]) rfl k)
    refine own_Goes.st ?_ (fun _ k => XS.iload X0.here hx rfl (hb hby at_90) rfl k)
    obtain ⟨T396, h396, k396, X396, e396, E396, A396, J396, st396⟩ := newPE X0 hx hZ (hw _ (List.mem_of_getElem? (i := 0) rfl)) e0 (g := (mkF m 92 #[.val (.long p0), .second, .val (.int p1), .val (.int p2), .val (.int p3), .val (.int p4), .val (.int p5), .val (.int (15 : Int32)), .val (.int (1 : Int32)), .val (.int (1 : Int32)), .val (.int (1 : Int32)), .val (.int (1 : Int32)), .val (.int (4 : Int32)), .unset, .unset, .unset, .unset, .unset, .unset, .unset, .unset, .unset, .unset] [(.int (4 : Int32))])) rfl (hb hby at_92) rfl (by decide) (cap := 4) (by decide) (by decide) (by decide) (by decide) (ad := "[I") rfl
    obtain ⟨b396, g396⟩ : ∃ z, z = h0.size := ⟨_, rfl⟩
    rw [← g396] at A396 J396 st396
    have ge_b396 : n0 ≤ b396 := Nat.le_trans Z0 (Nat.le_of_eq g396.symm)
    refine own_Goes.st ?_ st396
    have Z397 : n0 ≤ h396.size := Nat.le_trans Z0 E396.1
    have V398 : Arv Z h396 b396 k396 .int (4 : Int32) [(.int (0 : Int32)), (.int (0 : Int32)), (.int (0 : Int32)), (.int (0 : Int32))] (.int 0) := (Arv.new A396 (by decide)).pad (pad_rep [] _ 4)
    show own_Goes p.tables e below P (T396.setTop (mkF m 94 #[.val (.long p0), .second, .val (.int p1), .val (.int p2), .val (.int p3), .val (.int p4), .val (.int p5), .val (.int (15 : Int32)), .val (.int (1 : Int32)), .val (.int (1 : Int32)), .val (.int (1 : Int32)), .val (.int (1 : Int32)), .val (.int (4 : Int32)), .unset, .unset, .unset, .unset, .unset, .unset, .unset, .unset, .unset, .unset] [(.ref b396)]))
    refine own_Goes.st ?_ (fun _ k => XS.astore X396.here hx rfl (hb hby at_94) rfl rfl (l' := #[.val (.long p0), .second, .val (.int p1), .val (.int p2), .val (.int p3), .val (.int p4), .val (.int p5), .val (.int (15 : Int32)), .val (.int (1 : Int32)), .val (.int (1 : Int32)), .val (.int (1 : Int32)), .val (.int (1 : Int32)), .val (.int (4 : Int32)), .val (.ref b396), .unset, .unset, .unset, .unset, .unset, .unset, .unset, .unset, .unset]) rfl k)
    refine own_Goes.st ?_ (fun _ k => XS.iconst X396.here hx rfl (hb hby at_96) k)
    refine own_Goes.st ?_ (fun _ k => XS.istore X396.here hx rfl (hb hby at_97) rfl (l' := #[.val (.long p0), .second, .val (.int p1), .val (.int p2), .val (.int p3), .val (.int p4), .val (.int p5), .val (.int (15 : Int32)), .val (.int (1 : Int32)), .val (.int (1 : Int32)), .val (.int (1 : Int32)), .val (.int (1 : Int32)), .val (.int (4 : Int32)), .val (.ref b396), .val (.int (0 : Int32)), .unset, .unset, .unset, .unset, .unset, .unset, .unset, .unset]) rfl k)
    refine own_Goes.st ?_ (fun _ k => XS.iload X396.here hx rfl (hb hby at_99) rfl k)
    refine own_Goes.st ?_ (fun _ k => XS.ifNo X396.here hx rfl (hb hby at_101) rfl ((if0 _ _).trans (feq (by decide : ¬ ((1 : Int32) = (0 : Int32)))).1) k)
    refine own_Goes.st ?_ (fun _ k => XS.aload X396.here hx rfl (hb hby at_104) rfl rfl k)
    show own_Goes p.tables e below P (T396.setTop (mkF m 106 #[.val (.long p0), .second, .val (.int p1), .val (.int p2), .val (.int p3), .val (.int p4), .val (.int p5), .val (.int (15 : Int32)), .val (.int (1 : Int32)), .val (.int (1 : Int32)), .val (.int (1 : Int32)), .val (.int (1 : Int32)), .val (.int (4 : Int32)), .val (.ref b396), .val (.int (0 : Int32)), .unset, .unset, .unset, .unset, .unset, .unset, .unset, .unset] [(.ref b396)]))
    refine own_Goes.st ?_ (fun _ k => XS.iload X396.here hx rfl (hb hby at_106) rfl k)
    refine own_Goes.st ?_ (fun _ k => XS.iconst X396.here hx rfl (hb hby at_108) k)
    have Vc399 := V398
    obtain ⟨cl399, Ar399, qc399, S399, Nn399, Hs399, Gs399⟩ := Vc399
    have hin400 : ¬ ((0 : Int32) < 0 ∨ cl399.slots.size ≤ ((0 : Int32)).toNatClampNeg) := inb_of S399 ⟨by decide, by decide⟩
    obtain ⟨T400, h400, X400, e400, W400, st400⟩ := stI X396 hx hZ e396 Ar399 (j := (0 : Int32)) hin400 (g := (mkF m 109 #[.val (.long p0), .second, .val (.int p1), .val (.int p2), .val (.int p3), .val (.int p4), .val (.int p5), .val (.int (15 : Int32)), .val (.int (1 : Int32)), .val (.int (1 : Int32)), .val (.int (1 : Int32)), .val (.int (1 : Int32)), .val (.int (4 : Int32)), .val (.ref b396), .val (.int (0 : Int32)), .unset, .unset, .unset, .unset, .unset, .unset, .unset, .unset] [(.int (0 : Int32)), (.int (0 : Int32)), (.ref b396)])) rfl rfl (hb hby at_109)
    refine own_Goes.st ?_ st400
    have V401 : Arv Z h400 b396 k396 .int (4 : Int32) [(.int (0 : Int32)), (.int (0 : Int32)), (.int (0 : Int32)), (.int (0 : Int32))] (.int 0) := Arv.set Ar399 qc399 S399 Nn399 Hs399 Gs399 rfl W400 0 rfl (Nat.le_of_ble_eq_true rfl)
    have Z402 : n0 ≤ h400.size := by rw [W400.size]; exact Z397
    have N403 := Fr.snoc X400 N0 ge_b396
    show own_Goes p.tables e below P (T400.setTop (mkF m 110 #[.val (.long p0), .second, .val (.int p1), .val (.int p2), .val (.int p3), .val (.int p4), .val (.int p5), .val (.int (15 : Int32)), .val (.int (1 : Int32)), .val (.int (1 : Int32)), .val (.int (1 : Int32)), .val (.int (1 : Int32)), .val (.int (4 : Int32)), .val (.ref b396), .val (.int (0 : Int32)), .unset, .unset, .unset, .unset, .unset, .unset, .unset, .unset] []))
    refine own_Goes.st ?_ (fun _ k => XS.iinc X400.here hx rfl (hb hby at_110) rfl (l' := #[.val (.long p0), .second, .val (.int p1), .val (.int p2), .val (.int p3), .val (.int p4), .val (.int p5), .val (.int (15 : Int32)), .val (.int (1 : Int32)), .val (.int (1 : Int32)), .val (.int (1 : Int32)), .val (.int (1 : Int32)), .val (.int (4 : Int32)), .val (.ref b396), .val (.int (1 : Int32)), .unset, .unset, .unset, .unset, .unset, .unset, .unset, .unset]) rfl k)
    refine own_Goes.st ?_ (fun _ k => XS.iload X400.here hx rfl (hb hby at_113) rfl k)
    refine own_Goes.st ?_ (fun _ k => XS.ifNo X400.here hx rfl (hb hby at_115) rfl ((if0 _ _).trans (feq (by decide : ¬ ((1 : Int32) = (0 : Int32)))).1) k)
    refine own_Goes.st ?_ (fun _ k => XS.aload X400.here hx rfl (hb hby at_118) rfl rfl k)
    refine own_Goes.st ?_ (fun _ k => XS.iload X400.here hx rfl (hb hby at_120) rfl k)
    refine own_Goes.st ?_ (fun _ k => XS.iconst X400.here hx rfl (hb hby at_122) k)
    show own_Goes p.tables e below P (T400.setTop (mkF m 123 #[.val (.long p0), .second, .val (.int p1), .val (.int p2), .val (.int p3), .val (.int p4), .val (.int p5), .val (.int (15 : Int32)), .val (.int (1 : Int32)), .val (.int (1 : Int32)), .val (.int (1 : Int32)), .val (.int (1 : Int32)), .val (.int (4 : Int32)), .val (.ref b396), .val (.int (1 : Int32)), .unset, .unset, .unset, .unset, .unset, .unset, .unset, .unset] [(.int (1 : Int32)), (.int (1 : Int32)), (.ref b396)]))
    have Vc404 := V401
    obtain ⟨cl404, Ar404, qc404, S404, Nn404, Hs404, Gs404⟩ := Vc404
    have hin405 : ¬ ((1 : Int32) < 0 ∨ cl404.slots.size ≤ ((1 : Int32)).toNatClampNeg) := inb_of S404 ⟨by decide, by decide⟩
    obtain ⟨T405, h405, X405, e405, W405, st405⟩ := stI X400 hx hZ e400 Ar404 (j := (1 : Int32)) hin405 (g := (mkF m 123 #[.val (.long p0), .second, .val (.int p1), .val (.int p2), .val (.int p3), .val (.int p4), .val (.int p5), .val (.int (15 : Int32)), .val (.int (1 : Int32)), .val (.int (1 : Int32)), .val (.int (1 : Int32)), .val (.int (1 : Int32)), .val (.int (4 : Int32)), .val (.ref b396), .val (.int (1 : Int32)), .unset, .unset, .unset, .unset, .unset, .unset, .unset, .unset] [(.int (1 : Int32)), (.int (1 : Int32)), (.ref b396)])) rfl rfl (hb hby at_123)
    refine own_Goes.st ?_ st405
    have V406 : Arv Z h405 b396 k396 .int (4 : Int32) [(.int (0 : Int32)), (.int (1 : Int32)), (.int (0 : Int32)), (.int (0 : Int32))] (.int 0) := Arv.set Ar404 qc404 S404 Nn404 Hs404 Gs404 rfl W405 1 rfl (Nat.le_of_ble_eq_true rfl)
    have Z407 : n0 ≤ h405.size := by rw [W405.size]; exact Z402
    have N408 := Fr.snoc X405 N403 ge_b396
    show own_Goes p.tables e below P (T405.setTop (mkF m 124 #[.val (.long p0), .second, .val (.int p1), .val (.int p2), .val (.int p3), .val (.int p4), .val (.int p5), .val (.int (15 : Int32)), .val (.int (1 : Int32)), .val (.int (1 : Int32)), .val (.int (1 : Int32)), .val (.int (1 : Int32)), .val (.int (4 : Int32)), .val (.ref b396), .val (.int (1 : Int32)), .unset, .unset, .unset, .unset, .unset, .unset, .unset, .unset] []))
    refine own_Goes.st ?_ (fun _ k => XS.iinc X405.here hx rfl (hb hby at_124) rfl (l' := #[.val (.long p0), .second, .val (.int p1), .val (.int p2), .val (.int p3), .val (.int p4), .val (.int p5), .val (.int (15 : Int32)), .val (.int (1 : Int32)), .val (.int (1 : Int32)), .val (.int (1 : Int32)), .val (.int (1 : Int32)), .val (.int (4 : Int32)), .val (.ref b396), .val (.int (2 : Int32)), .unset, .unset, .unset, .unset, .unset, .unset, .unset, .unset]) rfl k)
    refine own_Goes.st ?_ (fun _ k => XS.iload X405.here hx rfl (hb hby at_127) rfl k)
    refine own_Goes.st ?_ (fun _ k => XS.ifNo X405.here hx rfl (hb hby at_129) rfl ((if0 _ _).trans (feq (by decide : ¬ ((1 : Int32) = (0 : Int32)))).1) k)
    refine own_Goes.st ?_ (fun _ k => XS.aload X405.here hx rfl (hb hby at_132) rfl rfl k)
    refine own_Goes.st ?_ (fun _ k => XS.iload X405.here hx rfl (hb hby at_134) rfl k)
    refine own_Goes.st ?_ (fun _ k => XS.iconst X405.here hx rfl (hb hby at_136) k)
    show own_Goes p.tables e below P (T405.setTop (mkF m 137 #[.val (.long p0), .second, .val (.int p1), .val (.int p2), .val (.int p3), .val (.int p4), .val (.int p5), .val (.int (15 : Int32)), .val (.int (1 : Int32)), .val (.int (1 : Int32)), .val (.int (1 : Int32)), .val (.int (1 : Int32)), .val (.int (4 : Int32)), .val (.ref b396), .val (.int (2 : Int32)), .unset, .unset, .unset, .unset, .unset, .unset, .unset, .unset] [(.int (2 : Int32)), (.int (2 : Int32)), (.ref b396)]))
    have Vc409 := V406
    obtain ⟨cl409, Ar409, qc409, S409, Nn409, Hs409, Gs409⟩ := Vc409
    have hin410 : ¬ ((2 : Int32) < 0 ∨ cl409.slots.size ≤ ((2 : Int32)).toNatClampNeg) := inb_of S409 ⟨by decide, by decide⟩
    obtain ⟨T410, h410, X410, e410, W410, st410⟩ := stI X405 hx hZ e405 Ar409 (j := (2 : Int32)) hin410 (g := (mkF m 137 #[.val (.long p0), .second, .val (.int p1), .val (.int p2), .val (.int p3), .val (.int p4), .val (.int p5), .val (.int (15 : Int32)), .val (.int (1 : Int32)), .val (.int (1 : Int32)), .val (.int (1 : Int32)), .val (.int (1 : Int32)), .val (.int (4 : Int32)), .val (.ref b396), .val (.int (2 : Int32)), .unset, .unset, .unset, .unset, .unset, .unset, .unset, .unset] [(.int (2 : Int32)), (.int (2 : Int32)), (.ref b396)])) rfl rfl (hb hby at_137)
    refine own_Goes.st ?_ st410
    have V411 : Arv Z h410 b396 k396 .int (4 : Int32) [(.int (0 : Int32)), (.int (1 : Int32)), (.int (2 : Int32)), (.int (0 : Int32))] (.int 0) := Arv.set Ar409 qc409 S409 Nn409 Hs409 Gs409 rfl W410 2 rfl (Nat.le_of_ble_eq_true rfl)
    have Z412 : n0 ≤ h410.size := by rw [W410.size]; exact Z407
    have N413 := Fr.snoc X410 N408 ge_b396
    show own_Goes p.tables e below P (T410.setTop (mkF m 138 #[.val (.long p0), .second, .val (.int p1), .val (.int p2), .val (.int p3), .val (.int p4), .val (.int p5), .val (.int (15 : Int32)), .val (.int (1 : Int32)), .val (.int (1 : Int32)), .val (.int (1 : Int32)), .val (.int (1 : Int32)), .val (.int (4 : Int32)), .val (.ref b396), .val (.int (2 : Int32)), .unset, .unset, .unset, .unset, .unset, .unset, .unset, .unset] []))
    refine own_Goes.st ?_ (fun _ k => XS.iinc X410.here hx rfl (hb hby at_138) rfl (l' := #[.val (.long p0), .second, .val (.int p1), .val (.int p2), .val (.int p3), .val (.int p4), .val (.int p5), .val (.int (15 : Int32)), .val (.int (1 : Int32)), .val (.int (1 : Int32)), .val (.int (1 : Int32)), .val (.int (1 : Int32)), .val (.int (4 : Int32)), .val (.ref b396), .val (.int (3 : Int32)), .unset, .unset, .unset, .unset, .unset, .unset, .unset, .unset]) rfl k)
    refine own_Goes.st ?_ (fun _ k => XS.iload X410.here hx rfl (hb hby at_141) rfl k)
    refine own_Goes.st ?_ (fun _ k => XS.ifNo X410.here hx rfl (hb hby at_143) rfl ((if0 _ _).trans (feq (by decide : ¬ ((1 : Int32) = (0 : Int32)))).1) k)
    refine own_Goes.st ?_ (fun _ k => XS.aload X410.here hx rfl (hb hby at_146) rfl rfl k)
    refine own_Goes.st ?_ (fun _ k => XS.iload X410.here hx rfl (hb hby at_148) rfl k)
    refine own_Goes.st ?_ (fun _ k => XS.iconst X410.here hx rfl (hb hby at_150) k)
    show own_Goes p.tables e below P (T410.setTop (mkF m 151 #[.val (.long p0), .second, .val (.int p1), .val (.int p2), .val (.int p3), .val (.int p4), .val (.int p5), .val (.int (15 : Int32)), .val (.int (1 : Int32)), .val (.int (1 : Int32)), .val (.int (1 : Int32)), .val (.int (1 : Int32)), .val (.int (4 : Int32)), .val (.ref b396), .val (.int (3 : Int32)), .unset, .unset, .unset, .unset, .unset, .unset, .unset, .unset] [(.int (3 : Int32)), (.int (3 : Int32)), (.ref b396)]))
    have Vc414 := V411
    obtain ⟨cl414, Ar414, qc414, S414, Nn414, Hs414, Gs414⟩ := Vc414
    have hin415 : ¬ ((3 : Int32) < 0 ∨ cl414.slots.size ≤ ((3 : Int32)).toNatClampNeg) := inb_of S414 ⟨by decide, by decide⟩
    obtain ⟨T415, h415, X415, e415, W415, st415⟩ := stI X410 hx hZ e410 Ar414 (j := (3 : Int32)) hin415 (g := (mkF m 151 #[.val (.long p0), .second, .val (.int p1), .val (.int p2), .val (.int p3), .val (.int p4), .val (.int p5), .val (.int (15 : Int32)), .val (.int (1 : Int32)), .val (.int (1 : Int32)), .val (.int (1 : Int32)), .val (.int (1 : Int32)), .val (.int (4 : Int32)), .val (.ref b396), .val (.int (3 : Int32)), .unset, .unset, .unset, .unset, .unset, .unset, .unset, .unset] [(.int (3 : Int32)), (.int (3 : Int32)), (.ref b396)])) rfl rfl (hb hby at_151)
    refine own_Goes.st ?_ st415
    have V416 : Arv Z h415 b396 k396 .int (4 : Int32) [(.int (0 : Int32)), (.int (1 : Int32)), (.int (2 : Int32)), (.int (3 : Int32))] (.int 0) := Arv.set Ar414 qc414 S414 Nn414 Hs414 Gs414 rfl W415 3 rfl (Nat.le_of_ble_eq_true rfl)
    have Z417 : n0 ≤ h415.size := by rw [W415.size]; exact Z412
    have N418 := Fr.snoc X415 N413 ge_b396
    show own_Goes p.tables e below P (T415.setTop (mkF m 152 #[.val (.long p0), .second, .val (.int p1), .val (.int p2), .val (.int p3), .val (.int p4), .val (.int p5), .val (.int (15 : Int32)), .val (.int (1 : Int32)), .val (.int (1 : Int32)), .val (.int (1 : Int32)), .val (.int (1 : Int32)), .val (.int (4 : Int32)), .val (.ref b396), .val (.int (3 : Int32)), .unset, .unset, .unset, .unset, .unset, .unset, .unset, .unset] []))
    refine own_Goes.st ?_ (fun _ k => XS.iinc X415.here hx rfl (hb hby at_152) rfl (l' := #[.val (.long p0), .second, .val (.int p1), .val (.int p2), .val (.int p3), .val (.int p4), .val (.int p5), .val (.int (15 : Int32)), .val (.int (1 : Int32)), .val (.int (1 : Int32)), .val (.int (1 : Int32)), .val (.int (1 : Int32)), .val (.int (4 : Int32)), .val (.ref b396), .val (.int (4 : Int32)), .unset, .unset, .unset, .unset, .unset, .unset, .unset, .unset]) rfl k)
    refine own_Goes.st ?_ (fun _ k => XS.iload X415.here hx rfl (hb hby at_155) rfl k)
    refine own_Goes.st ?_ (fun _ k => XS.ifYes X415.here hx rfl (pc0 := 157) (pc' := 164) rfl (hb hby at_157) rfl ((if0 _ _).trans (feq (by decide : ¬ ((15 : Int32) = (0 : Int32)))).2) (by decide) (by decide) k)
    refine own_Goes.st ?_ (fun _ k => XS.lloadN X415.here hx rfl (hb hby at_164) rfl k)
    refine own_Goes.st ?_ (fun _ k => XS.bipush X415.here hx rfl (hb hby at_165) k)
    refine own_Goes.st ?_ (fun _ k => XS.lshr X415.here hx rfl (hb hby at_167) rfl k)
    show own_Goes p.tables e below P (T415.setTop (mkF m 168 #[.val (.long p0), .second, .val (.int p1), .val (.int p2), .val (.int p3), .val (.int p4), .val (.int p5), .val (.int (15 : Int32)), .val (.int (1 : Int32)), .val (.int (1 : Int32)), .val (.int (1 : Int32)), .val (.int (1 : Int32)), .val (.int (4 : Int32)), .val (.ref b396), .val (.int (4 : Int32)), .unset, .unset, .unset, .unset, .unset, .unset, .unset, .unset] [(.long (p0 >>> ((14 : Int32) &&& 0x3f).toInt64))]))
    refine own_Goes.st ?_ (fun _ k => XS.lstore X415.here hx rfl (hb hby at_168) rfl (l' := #[.val (.long p0), .second, .val (.int p1), .val (.int p2), .val (.int p3), .val (.int p4), .val (.int p5), .val (.int (15 : Int32)), .val (.int (1 : Int32)), .val (.int (1 : Int32)), .val (.int (1 : Int32)), .val (.int (1 : Int32)), .val (.int (4 : Int32)), .val (.ref b396), .val (.int (4 : Int32)), .val (.long (p0 >>> ((14 : Int32) &&& 0x3f).toInt64)), .second, .unset, .unset, .unset, .unset, .unset, .unset]) rfl k)
    exact T4n _ _ X415 _ e415 N418 Z417 b396 k396 _ _ _ _ _ _ _ _ _ _ V416 (own_sh14 p0) (by decide) (by decide) (by decide) (by decide) rfl
set_option maxRecDepth 65536 in
set_option maxHeartbeats 40000000 in
theorem comes_1 {Post : Tables → Env → Array Value → State → Outcome → State → Prop} (hpost : ∀ tb e args s v u, (limb_1_1.after args s (.returned v) u = true ∧ limb_1_2.after args s (.returned v) u = true ∧ True) → FrameEnd s (.returned v) u (Jvm.fieldLocs frame_1_writes args s ++ Jvm.arrayLocs frame_1_arrays args s ++ Jvm.staticLocs frame_1_statics s) 16 128 → Post tb e args s (.returned v) u) :
    ArmFor flags0 classFile x code maxLocals ret World_1 tables_1 room_1 Calls_1 rest_1 Pre_1 Post := by
  intro l hfl _ _ p e ha hc hk s m args below hf hA hF happ hP
  obtain ⟨hcalls, hrest, hpre⟩ := hP
  obtain ⟨-, -, -, hnamed, -, -, -, hat⟩ := (Spec.applies_iff hf).mp happ
  obtain ⟨hg, hn⟩ := and_e (Cond.before_iff.mp (show (Jvm.Cond.and given_1 narrow_1).before args s = true from hpre))
  obtain ⟨hg0, hg1⟩ := and_e hg
  obtain ⟨hv0, hr0⟩ := and_e hg1
  obtain ⟨hv1, hr1⟩ := and_e hr0
  obtain ⟨hv2, hr2⟩ := and_e hr1
  obtain ⟨hv3, hr3⟩ := and_e hr2
  obtain ⟨hv4, hr4⟩ := and_e hr3
  obtain ⟨w0, w1, w2, w3, w4, w5, rfl⟩ : ∃ w0 w1 w2 w3 w4 w5 : Value, args = #[w0, w1, w2, w3, w4, w5] := by
    have hs : args.size = 6 := by simpa [Cond.value, given_1] using hg0
    obtain ⟨L⟩ := args
    match L, hs with
    | [w0, w1, w2, w3, w4, w5], _ => exact ⟨w0, w1, w2, w3, w4, w5, rfl⟩
  have hw := fun d (hd : d ∈ tables_1) => atoms_spec (ws := Jvm.Cond.code x code maxLocals ret :: tables_1) hat d (List.mem_cons_of_mem _ hd)
  have hfit : Fit s := fun {y c} hc i hi => by
    obtain ⟨ha, rfl⟩ := Array.getElem?_eq_some_iff.mp hc
    have q := List.all_eq_true.mp ((Array.all_eq_true_iff_forall_mem.mp hF) _ (Array.getElem_mem ha)) i (List.mem_range.mpr hi)
    simpa [Array.getElem?_eq_getElem hi] using q
  obtain ⟨i0, ei0⟩ := isL_v hv0
  obtain rfl : w0 = (.long i0) := Option.some.inj ei0
  obtain ⟨i1, ei1⟩ := is_v hv1
  obtain rfl : w1 = (.int i1) := Option.some.inj ei1
  obtain ⟨i2, ei2⟩ := is_v hv2
  obtain rfl : w2 = (.int i2) := Option.some.inj ei2
  obtain ⟨i3, ei3⟩ := is_v hv3
  obtain rfl : w3 = (.int i3) := Option.some.inj ei3
  obtain ⟨i4, ei4⟩ := is_v hv4
  obtain rfl : w4 = (.int i4) := Option.some.inj ei4
  obtain ⟨i5, ei5⟩ := is_v hr4
  obtain rfl : w5 = (.int i5) := Option.some.inj ei5
  obtain ⟨n, o, h1, h2, h3, _, L, rfl, ⟨rfl, N⟩, hq⟩ := rm_law l s _ hw tables_1 i0 i1 i2 i3 i4 i5  s.heap s.heap.size (Nat.le_refl _)  p e ha hc hk s m _ below hf ((Spec.applies_iff_loose hf).mp happ).1 ⟨rfl, State.Warmed39.refl s, rfl⟩ trivial
  refine ⟨n, _, h1, h2, h3, hpost _ _ _ _ _ _ ⟨Cond.after_iff.mpr rfl, Cond.after_iff.mpr (eq_i res_at (Term.int_eval (1)) rfl), trivial⟩ ⟨hq.1, hq.2.1, (hq.2.2.sift fun y hy => Or.inr (N y hy)).mono (by decide) (by decide)⟩⟩
theorem main_1_1 : Claimed_1_1 := comes_1 fun _ _ _ _ _ _ h hF => ⟨h.1, hF⟩
theorem main_1_2 : Claimed_1_2 := comes_1 fun _ _ _ _ _ _ h hF => ⟨h.2.1, hF⟩
end Jvm.Pilot.@@N@@
namespace Jvm.Pilot.@@N@@
open Jvm Jvm.ClassFile Sem Op Lib Jvm.Free Jvm.Stand Jvm.Pilot.@@N@@.Jvm.D
/-! MADE BY PROGRAM (witnessworld.py) out of the Statement's table words and the real class files: 9 classes; the members and pool entries that the words name. The judged class is class 1, her method 1. -/
namespace start1
open Jvm.ClassFile
def u (s : String) : CpInfo := .utf8 (stringToUtf16 s)
/-- a pool by its gaps: so many unusable entries, then the entry; so many at the end -/
def gap : Nat → List CpInfo → List CpInfo
  | 0, r => r
  | n + 1, r => .unusable :: gap n r
def poolList (es : List (Nat × CpInfo)) (last : Nat) : List CpInfo := es.foldr (fun e r => gap e.1 (e.2 :: r)) (gap last [])
def pool (es : List (Nat × CpInfo)) (last : Nat) : Array CpInfo := ⟨poolList es last⟩
def fileOf (pool : Array CpInfo) (this : Nat) (attrs : Array Attribute := #[]) (ms : Array MethodInfo := #[]) (fl : Nat := 33) (sup : Nat := 0) (ifs : Array Nat := #[]) (fds : Array FieldInfo := #[]) : ClassFile where
  minorVersion := 0
  majorVersion := 65
  constantPool := pool
  accessFlags := fl
  thisClass := this
  superClass := sup
  interfaces := ifs
  fields := fds
  methods := ms
  attributes := attrs
def plain (name : String) (sup : Option ClassId) : Class where
  name := name
  kind := .ordinary
  loader := none
  accessFlags := 33
  super := sup
  interfaces := #[]
  cf := none
  fields := #[]
  methods := #[]
  instanceTypes := #[]
  staticTypes := #[]
  resolved := #[]
  callSites := []
  init := .initialized
  statics := none
  mirror := none

def pool0 : Array CpInfo := pool [(5, u "<init>"), (0, u "()V"), (1, .class_ 10), (1, u "java/lang/Object")] 113

def k0c0 : Code := { maxStack := 0, maxLocals := 1, code := object_method_1_code, exceptionTable := #[], attributes := #[] }
def k0m0 : Method := { name := "<init>", desc := "()V", sig := { parameters := [], returnType := none }, accessFlags := 1, code := some k0c0 }
/-- java/lang/Object -/
def k0 : Class := { plain "java/lang/Object" none with
  accessFlags := 33
  interfaces := #[]
  cf := some (fileOf pool0 8 #[] #[{ accessFlags := 1, nameIndex := 5, descriptorIndex := 6, attributes := #[] }] 33 0 #[] #[])
  fields := #[]
  methods := #[k0m0]
  instanceTypes := #[]
  staticTypes := #[]
  resolved := Array.replicate 124 none
  statics := none }

def pool1 : Array CpInfo := pool [(2, .class_ 4), (1, u "java/lang/Object"), (0, u "<init>"), (0, u "()V"), (0, .class_ 8), (0, u "com/example/pushmap/pushmap/schedule/Column"), (0, .methodref 7 10), (0, .nameAndType 5 11), (0, u "(I[IJ)V"), (0, .methodref 7 13), (0, .nameAndType 14 15), (0, u "priced"), (0, u "([D)D"), (0, .class_ 17), (0, u "com/example/pushmap/pushmap/schedule/ColumnPricedPinLaw"), (2, u "law"), (0, u "(JIIIII)Z")] 7

def k1m0 : Method := { name := "<init>", desc := "()V", sig := { parameters := [], returnType := none }, accessFlags := 1, code := none }
def k1c1 : Code := { maxStack := 6, maxLocals := 23, code := code, exceptionTable := #[], attributes := #[] }
def k1m1 : Method := { name := "law", desc := "(JIIIII)Z", sig := { parameters := [.long, .int, .int, .int, .int, .int], returnType := some .boolean }, accessFlags := 9, code := some k1c1 }
/-- com/example/pushmap/pushmap/schedule/ColumnPricedPinLaw -/
def k1 : Class := { plain "com/example/pushmap/pushmap/schedule/ColumnPricedPinLaw" (some 0) with
  accessFlags := 49
  interfaces := #[]
  cf := some (fileOf pool1 16 #[] #[{ accessFlags := 1, nameIndex := 5, descriptorIndex := 6, attributes := #[] }, { accessFlags := 9, nameIndex := 20, descriptorIndex := 21, attributes := #[] }] 49 2 #[] #[])
  fields := #[]
  methods := #[k1m0, k1m1]
  instanceTypes := #[]
  staticTypes := #[]
  resolved := Array.replicate 29 none
  statics := none }

def pool2 : Array CpInfo := pool [(1, .methodref 2 3), (0, .class_ 4), (0, .nameAndType 5 6), (0, u "java/lang/Object"), (0, u "<init>"), (0, u "()V"), (0, .fieldref 8 9), (0, .class_ 10), (0, .nameAndType 11 12), (0, u "com/example/pushmap/pushmap/schedule/Column"), (0, u "object"), (0, u "I"), (0, .fieldref 8 14), (0, .nameAndType 15 16), (0, u "slots"), (0, u "[I"), (0, .fieldref 8 18), (0, .nameAndType 19 20), (0, u "cost"), (0, u "J"), (10, u "(I[IJ)V"), (5, u "priced"), (0, u "([D)D")] 7

def k2c0 : Code := { maxStack := 3, maxLocals := 5, code := prog_46_method_1_code, exceptionTable := #[], attributes := #[] }
def k2m0 : Method := { name := "<init>", desc := "(I[IJ)V", sig := { parameters := [.int, (.array .int), .long], returnType := none }, accessFlags := 0, code := some k2c0 }
def k2c1 : Code := { maxStack := 4, maxLocals := 8, code := prog_46_method_5_code, exceptionTable := #[], attributes := #[] }
def k2m1 : Method := { name := "priced", desc := "([D)D", sig := { parameters := [(.array .double)], returnType := some .double }, accessFlags := 0, code := some k2c1 }
/-- com/example/pushmap/pushmap/schedule/Column -/
def k2 : Class := { plain "com/example/pushmap/pushmap/schedule/Column" (some 0) with
  accessFlags := 48
  interfaces := #[]
  cf := some (fileOf pool2 8 #[] #[{ accessFlags := 0, nameIndex := 5, descriptorIndex := 31, attributes := #[] }, { accessFlags := 0, nameIndex := 37, descriptorIndex := 38, attributes := #[] }] 48 2 #[] #[{ accessFlags := 18, nameIndex := 11, descriptorIndex := 12, attributes := #[] }, { accessFlags := 18, nameIndex := 15, descriptorIndex := 16, attributes := #[] }, { accessFlags := 18, nameIndex := 19, descriptorIndex := 20, attributes := #[] }])
  fields := #[{ name := "object", type := .int, accessFlags := 18, slot := 0, constantValue := 0 }, { name := "slots", type := (.array .int), accessFlags := 18, slot := 1, constantValue := 0 }, { name := "cost", type := .long, accessFlags := 18, slot := 2, constantValue := 0 }]
  methods := #[k2m0, k2m1]
  instanceTypes := #[.int, (.array .int), .long]
  staticTypes := #[]
  resolved := Array.replicate 46 none
  statics := none }

def pool3 : Array CpInfo := pool [(1, u "java/lang/Cloneable"), (0, .class_ 1), (0, u "java/lang/Object"), (0, .class_ 3)] 3

/-- java/lang/Cloneable -/
def k3 : Class := { plain "java/lang/Cloneable" (some 0) with
  accessFlags := 1537
  interfaces := #[]
  cf := some (fileOf pool3 2 #[] #[] 1537 4 #[] #[])
  fields := #[]
  methods := #[]
  instanceTypes := #[]
  staticTypes := #[]
  resolved := Array.replicate 8 none
  statics := none }

def pool4 : Array CpInfo := pool [(1, u "java/io/Serializable"), (0, .class_ 1), (0, u "java/lang/Object"), (0, .class_ 3)] 3

/-- java/io/Serializable -/
def k4 : Class := { plain "java/io/Serializable" (some 0) with
  accessFlags := 1537
  interfaces := #[]
  cf := some (fileOf pool4 2 #[] #[] 1537 4 #[] #[])
  fields := #[]
  methods := #[]
  instanceTypes := #[]
  staticTypes := #[]
  resolved := Array.replicate 8 none
  statics := none }

/-- the primitive byte -/
def k5 : Class := { plain "byte" none with kind := .primitive 'B', accessFlags := 0x411 }
/-- [B -/
def k6 : Class := { plain "[B" (some 0) with kind := .array 5 .byte, interfaces := #[3, 4], accessFlags := 1041 }

/-- the primitive int -/
def k7 : Class := { plain "int" none with kind := .primitive 'I', accessFlags := 0x411 }
/-- [I -/
def k8 : Class := { plain "[I" (some 0) with kind := .array 7 .int, interfaces := #[3, 4], accessFlags := 1041 }

/-- the primitive double -/
def k9 : Class := { plain "double" none with kind := .primitive 'D', accessFlags := 0x411 }
/-- [D -/
def k10 : Class := { plain "[D" (some 0) with kind := .array 9 .double, interfaces := #[3, 4], accessFlags := 1041 }

def heap : Heap := #[]
def classes : Array Class := #[k0, k1, k2, k3, k4, k5, k6, k7, k8, k9, k10]
def interned : List (Array UInt16 × Addr) := []
def slotsUsed : Nat := 0
def theMethod : MethodId := ⟨1, 1⟩
def args0 : Array Value := #[.long 5, .int 3, .int 1, .int 2, .int 3, .int 4]
def aboutOver (below : List Frame) : State where
  vm := { classes := classes, interned := interned.toArray }
  heap := heap
  slotsUsed := slotsUsed
  threads := #[{ frames := .invoking theMethod args0 :: below }]
def below0 : List Frame := [.native { method := ⟨0, 0⟩, args := #[] }]
def about1 : State := aboutOver below0
def p0 : Program := .bare "" "" ""
def e0 : Env := launch0.env 0 0 0
theorem w_frames : about1.frames = Frame.invoking theMethod args0 :: below0 := rfl
set_option maxRecDepth 65536 in
theorem w_args : argsFit about1.vm theMethod args0 = true := by decide +kernel
set_option maxRecDepth 65536 in
theorem w_heap : heapFits about1 = true := by decide +kernel
set_option maxRecDepth 65536 in
theorem w_runnable : about1.curStatus? = some .runnable := by decide +kernel
set_option maxRecDepth 65536 in
theorem w_alone : about1.alone = true := by decide +kernel
set_option maxRecDepth 65536 in
theorem w_named : about1.methodNamed? x = some theMethod := by decide +kernel
set_option maxRecDepth 65536 in
theorem w_hears : about1.hears theMethod below0 = true := by decide +kernel
set_option maxRecDepth 65536 in
theorem w_ripe : about1.ripe theMethod args0 below0 = true := by decide +kernel
theorem w_running : about1.status = .running := rfl
set_option maxRecDepth 65536 in
theorem w_room : about1.hasRoom e0.platform room_1 = true :=
  launch0.hasRoom_least _ room_1 (by decide +kernel) (by decide +kernel) (by decide +kernel) (by decide +kernel) (by decide +kernel) (by decide +kernel)
theorem allAtoms_all (ts : List Jvm.Cond) (a : Array Jvm.Value) (st : Jvm.State) : (allAtoms ts).before a st = ts.all (fun c => c.before a st) := by
  induction ts with
  | nil => rfl
  | cons c t ih =>
    show (Jvm.Cond.and c (allAtoms t)).before a st = _
    rw [Jvm.Cond.before_and, ih, List.all_cons]
def words1 : List Jvm.Cond := Jvm.Cond.code x code maxLocals ret :: tables_1
/-- a 'code' word, met by the world's own term for the bytes: nothing is compared byte by byte -/
theorem code_word {y : MethodName} {bytes : ByteArray} {mx : Nat} {rt : Option FieldType} {a : Array Value} {s : State} {m : MethodId} {meth : Method} {c : Code} (h1 : s.methodNamed? y = some m) (h2 : s.vm.method? m = some meth) (h3 : meth.code = some c) (h4 : c.code = bytes)
    (h5 : (c.maxLocals == mx && c.exceptionTable.isEmpty && decide (c.maxStack ≤ mostOperands) && decide (meth.sig.returnType = rt) && !meth.locks && decide (parseMethodDescriptor y.desc = some meth.sig)) = true) : (Jvm.Cond.code y bytes mx rt).before a s = true := by
  simp only [Bool.and_eq_true, beq_iff_eq, Bool.not_eq_true', decide_eq_true_eq] at h5
  obtain ⟨⟨⟨⟨⟨g1, g2⟩, g3⟩, g4⟩, g5⟩, g6⟩ := h5
  simp [Cond.before, Cond.holds, Cond.value, h1, h2, h3, h4, g1, g2, g3, g4, g5, g6]
def isCode : Jvm.Cond → Bool
  | .code _ _ _ _ => true
  | _ => false
theorem all_split {L : List Jvm.Cond} {P : Jvm.Cond → Bool} (h1 : L.all (fun c => isCode c || P c) = true) (h2 : ∀ c ∈ L.filter isCode, P c = true) : L.all P = true := by
  refine List.all_eq_true.mpr fun c hc => ?_
  have h := List.all_eq_true.mp h1 c hc
  rcases Bool.eq_false_or_eq_true (isCode c) with hi | hi
  · exact h2 c (List.mem_filter.mpr ⟨hc, hi⟩)
  · simpa [hi] using h
set_option maxRecDepth 65536 in
theorem w_c0 : (Jvm.Cond.code x code maxLocals ret).before args0 about1 = true := code_word (m := ⟨1, 1⟩) (meth := k1m1) (c := k1c1) (by decide +kernel) rfl rfl rfl (by decide +kernel)
set_option maxRecDepth 65536 in
theorem w_c1 : (Jvm.Cond.code ({ cls := "com/example/pushmap/pushmap/schedule/Column", name := "<init>", desc := "(I[IJ)V" } : Jvm.MethodName) prog_46_method_1_code (5 : Nat) (Option.none : Option Jvm.ClassFile.FieldType)).before args0 about1 = true := code_word (m := ⟨2, 0⟩) (meth := k2m0) (c := k2c0) (by decide +kernel) rfl rfl rfl (by decide +kernel)
set_option maxRecDepth 65536 in
theorem w_c2 : (Jvm.Cond.code ({ cls := "java/lang/Object", name := "<init>", desc := "()V" } : Jvm.MethodName) object_method_1_code (1 : Nat) (Option.none : Option Jvm.ClassFile.FieldType)).before args0 about1 = true := code_word (m := ⟨0, 0⟩) (meth := k0m0) (c := k0c0) (by decide +kernel) rfl rfl rfl (by decide +kernel)
set_option maxRecDepth 65536 in
theorem w_c3 : (Jvm.Cond.code ({ cls := "com/example/pushmap/pushmap/schedule/Column", name := "priced", desc := "([D)D" } : Jvm.MethodName) prog_46_method_5_code (8 : Nat) (Option.some Jvm.ClassFile.FieldType.double)).before args0 about1 = true := code_word (m := ⟨2, 1⟩) (meth := k2m1) (c := k2c1) (by decide +kernel) rfl rfl rfl (by decide +kernel)
def codes1 : List Jvm.Cond := [Jvm.Cond.code x code maxLocals ret, Jvm.Cond.code ({ cls := "com/example/pushmap/pushmap/schedule/Column", name := "<init>", desc := "(I[IJ)V" } : Jvm.MethodName) prog_46_method_1_code (5 : Nat) (Option.none : Option Jvm.ClassFile.FieldType), Jvm.Cond.code ({ cls := "java/lang/Object", name := "<init>", desc := "()V" } : Jvm.MethodName) object_method_1_code (1 : Nat) (Option.none : Option Jvm.ClassFile.FieldType), Jvm.Cond.code ({ cls := "com/example/pushmap/pushmap/schedule/Column", name := "priced", desc := "([D)D" } : Jvm.MethodName) prog_46_method_5_code (8 : Nat) (Option.some Jvm.ClassFile.FieldType.double)]
set_option maxRecDepth 65536 in
theorem codes_eq : words1.filter isCode = codes1 := rfl
theorem w_codes : ∀ c ∈ words1.filter isCode, c.before args0 about1 = true := by
  rw [codes_eq]
  intro c hc
  simp only [codes1, List.mem_cons, List.not_mem_nil, or_false] at hc
  rcases hc with rfl | rfl | rfl | rfl
  · exact w_c0
  · exact w_c1
  · exact w_c2
  · exact w_c3
set_option maxRecDepth 65536 in
theorem w_t1 : words1.all (fun c => isCode c || c.before args0 about1) = true := by decide +kernel
theorem w_tables : (allAtoms (Jvm.Cond.code x code maxLocals ret :: tables_1)).before args0 about1 = true := by
  rw [allAtoms_all]
  show words1.all (fun c => c.before args0 about1) = true
  refine all_split ?_ w_codes
  rw [w_t1]
set_option maxRecDepth 65536 in
theorem w_case : (Jvm.Cond.and given_1 narrow_1).before args0 about1 = true := by decide +kernel
theorem w_applies : (headSpec (Jvm.Cond.code x code maxLocals ret :: tables_1) room_1).applies x e0.platform about1 = true :=
  (Spec.applies_iff w_frames).mpr ⟨w_running, w_runnable, w_alone, w_named, w_hears, w_ripe, w_room, w_tables⟩
theorem atStart : AtStart classFile x code maxLocals ret World_1 tables_1 room_1 Calls_1 rest_1 Pre_1 launch0 p0 e0 about1 theMethod args0 below0 :=
  ⟨lists_1, trivial, launch0.admits_env _ _ _, launch0.least_env, fairChoices_fair.cas, fairChoices_fair.clock, w_frames, w_args, w_heap, w_applies, trivial, trivial, w_case⟩
end start1
theorem witness_1 : WitnessClaimed_1 := ⟨start1.p0, start1.e0, start1.about1, start1.theMethod, start1.args0, start1.below0, start1.atStart⟩
end Jvm.Pilot.@@N@@
