import JvmDerived
import JvmDerived.Pilot.@@N@@Statement
import JvmDerived.Pilot.@@N@@Code
set_option linter.unusedVariables false
set_option linter.unusedSimpArgs false
namespace Jvm.RoadKit
open Sem ClassFile Op Lib Jvm.Stand Jvm.Free Jvm.LawKit
/-- the walk that stands at S comes to an end of which P holds -/
def own_Goes (tb : Tables) (e : Env) (below : List Frame) (P : State → Outcome → Prop) (S : State) : Prop := ∃ t o, Steps tb e below S t ∧ P t o
theorem own_Goes.of {tb : Tables} {e : Env} {below : List Frame} {P : State → Outcome → Prop} {S : State} (k : own_Goes tb e below P S) : ∃ t o, Steps tb e below S t ∧ P t o := k
theorem own_Goes.nm {tb : Tables} {e : Env} {below : List Frame} {P : State → Outcome → Prop} {S : State} (k : ∀ P' : State → Outcome → Prop, (∀ t o, P t o → P' t o) → own_Goes tb e below P' S) : own_Goes tb e below P S := k P fun _ _ q => q
theorem own_Goes.st {tb : Tables} {e : Env} {below : List Frame} {P : State → Outcome → Prop} {S S' : State} (k : own_Goes tb e below P S') (h : ∀ t, Steps tb e below S' t → Steps tb e below S t) : own_Goes tb e below P S := by
  obtain ⟨t, o, h1, h2⟩ := k; exact ⟨t, o, h t h1, h2⟩
theorem own_Goes.tr {tb : Tables} {e : Env} {below : List Frame} {P : State → Outcome → Prop} {S S' : State} (h : Steps tb e below S S') (k : own_Goes tb e below P S') : own_Goes tb e below P S := by
  obtain ⟨t, o, h1, h2⟩ := k; exact ⟨t, o, h.trans h1, h2⟩
theorem own_Goes.fin {tb : Tables} {e : Env} {below : List Frame} {P : State → Outcome → Prop} {S : State} (t : State) (o : Outcome) (h : Steps tb e below S t) (k : P t o) : own_Goes tb e below P S := ⟨t, o, h, k⟩
end Jvm.RoadKit
namespace Jvm.Pilot.@@N@@
open Jvm Jvm.ClassFile Sem Op Lib Jvm.Free Jvm.Stand Jvm.LawKit Jvm.RoadKit Bundle Jvm.Pilot.@@N@@.Jvm.D
def own_keeps (b q : Int64) : Int32 := if 0 < b then (if b < q then 0 else 1) else 0
def own_max (q b : Int64) : Int64 := if q < b then b else q
theorem own_z0 : (0 : Int64).toInt = 0 := by decide
theorem own_nn (x : Int64) : ¬ (x &&& 9223372036854775807) < 0 := by
  have h := c_maskL x 9223372036854775807 63 (by decide) (by decide)
  rw [Int64.lt_iff_toInt_lt, h, own_z0]; omega
theorem own_k0 {b q : Int64} (h : b = 0) : own_keeps b q = 0 := by
  subst h; rw [own_keeps, if_neg (by decide)]
theorem own_k1 {b q : Int64} (hb : ¬ b < 0) (h : ¬ b = 0) (hm : own_max q b = b) : own_keeps b q = 1 := by
  have h1 : 0 < b := by
    rw [Int64.lt_iff_toInt_lt, own_z0] at hb ⊢
    have : b.toInt ≠ 0 := fun z => h (Int64.toInt_inj.mp (by rw [z, own_z0]))
    omega
  rw [own_keeps, if_pos h1]
  by_cases c : b < q
  · rw [own_max] at hm
    have : ¬ q < b := by rw [Int64.lt_iff_toInt_lt] at c ⊢; omega
    rw [if_neg this] at hm; subst hm; rw [Int64.lt_iff_toInt_lt] at c; omega
  · rw [if_neg c]
theorem own_k2 {b q : Int64} (hm : ¬ own_max q b = b) : own_keeps b q = 0 := by
  by_cases h1 : 0 < b
  · rw [own_keeps, if_pos h1]
    by_cases c : b < q
    · rw [if_pos c]
    · exfalso; apply hm; rw [own_max]
      by_cases d : q < b
      · rw [if_pos d]
      · rw [if_neg d]; apply Int64.toInt_inj.mp; rw [Int64.lt_iff_toInt_lt] at c d; omega
  · rw [own_keeps, if_neg h1]
theorem own_ef_rec (m : MethodId) (x0 : Addr) : entryFrame m #[(.ref x0)] 1 = mkF m 0 #[.val (.ref x0)] [] := by first | (simp [entryFrame, mkF, argsToLocals, Value.category]; done) | rfl
theorem own_pn_java_lang_Record : plainName "java/lang/Record" = true := by first | (simp [plainName, overriddenIn]; done) | decide +kernel
theorem own_d_jdk_30_method_1_0 : decode jdk_30_method_1_code 0 = .ok (.aload_n 0, 1) := by decide +kernel
theorem own_d_jdk_30_method_1_1 : decode jdk_30_method_1_code 1 = .ok (.invokespecial 1, 3) := by decide +kernel
theorem own_d_jdk_30_method_1_4 : decode jdk_30_method_1_code 4 = .ok (.return_, 1) := by decide +kernel
def Q_rec (Z : State) (a : Addr) (h0 : Heap) (n0 : Nat) (v : Option Value) (h : Heap) (L : List Loc) : Prop := v = none ∧ Fr n0 L ∧ h = h0
set_option maxRecDepth 65536 in
set_option maxHeartbeats 40000000 in
theorem rm_rec (l : Launch) (Z : State) (a0 : Array Value) (hw : ∀ d ∈ tables_1, d.before a0 Z = true) (ws : List Jvm.Cond) (a : Addr) (h0 : Heap) (n0 : Nat) (Z0 : n0 ≤ h0.size) :
    MetFree l (⟨"java/lang/Record", "<init>", "()V"⟩ : MethodName) (head1 (Jvm.Cond.code (⟨"java/lang/Record", "<init>", "()V"⟩ : MethodName) jdk_30_method_1_code 1 none :: ws) ({ frames := 1, cells := 0, slots := 0, locals := 12 } : Room)) (fun as_ U => as_ = #[(.ref a)] ∧ Z.Warmed39 U.vm ∧ U.heap = h0) (fun _ _ _ _ _ => True) (fun _ U o U' => ∃ v L, o = .returned v ∧ Q_rec Z a h0 n0 v U'.heap L ∧ FrameEnd U o U' L ({ frames := 1, cells := 0, slots := 0, locals := 12 } : Room).cells ({ frames := 1, cells := 0, slots := 0, locals := 12 } : Room).slots) := by
  refine MetFree.of_bodySF (plainFor_of_name own_pn_java_lang_Record) hisR ?_
  intro p e s m args below meth c s₁ Bd hml0 hP hK
  obtain ⟨rfl, hZ, hh⟩ := hP
  have hx := Bd.exec
  have hby := Bd.bytes
  have hml : c.maxLocals = 1 := hml0
  have hown : s.vm.findClass "java/lang/Record" = some m.cls := findClass_of_methodNamed Bd.named
  have hnm := (name_of_methodNamed Bd.named Bd.method).1
  have X0 : Stand p l e ({ frames := 1, cells := 0, slots := 0, locals := 12 } : Room) s m #[(.ref a)] below meth c s₁ [] 0 0 := Stand.of_body Bd
  have e0 : s₁.heap = h0 := by rw [← hh, Bd.state]; rfl
  have N0 := Fr.nil n0
  refine own_Goes.of ?_
  refine own_Goes.nm (fun P hPP => ?_)
  refine own_Goes.st ?_ (fun _ k => castTop (own_ef_rec m a) k)
  show own_Goes p.tables e below P (s₁.setTop (mkF m 0 #[.val (.ref a)] []))
  refine own_Goes.st ?_ (fun _ k => XS.aloadN X0.here hx rfl (hb hby own_d_jdk_30_method_1_0) rfl rfl k)
  show own_Goes p.tables e below P (s₁.setTop (mkF m 1 #[.val (.ref a)] [(.ref a)]))
  obtain ⟨T1, X1, e1, st1⟩ := initO X0 hx hZ hown (hw _ (List.mem_of_getElem? (i := 11) rfl)) (hw _ (List.mem_of_getElem? (i := 12) rfl)) (hw _ (List.mem_of_getElem? (i := 13) rfl)) e0 (g := (mkF m 1 #[.val (.ref a)] [(.ref a)])) rfl (by rw [hml]; rfl) rfl (hb hby own_d_jdk_30_method_1_1) (by decide) (W := 0) (by show 2 * 0 + _ ≤ _; exact Nat.le_of_eq rfl) (by decide)
  refine own_Goes.st ?_ st1
  show own_Goes p.tables e below P (T1.setTop (mkF m 4 #[.val (.ref a)] []))
  obtain ⟨fs, hr, hrun, hended, hW, hsame⟩ := X1.leave (v := none) (fun _ => rfl)
  exact own_Goes.fin _ _ (X1.returnOut hx Bd.returns (hb hby own_d_jdk_30_method_1_4) hr) (hPP _ _ ⟨hrun, hended, _, _, rfl, (by show Q_rec Z a h0 n0 _ T1.heap _; rw [e1]; exact ⟨rfl, N0, rfl⟩), ⟨_, rfl⟩, hW, hsame.mono (by decide) (by decide)⟩)
theorem own_ef_new (m : MethodId) (x0 : Addr) (x1 : Int64) : entryFrame m #[(.ref x0), (.long x1)] 3 = mkF m 0 #[.val (.ref x0), .val (.long x1), .second] [] := by first | (simp [entryFrame, mkF, argsToLocals, Value.category]; done) | rfl
theorem own_pn_com_example_pushmap_pushmap_simulate_CacheSize : plainName "com/example/pushmap/pushmap/simulate/CacheSize" = true := by first | (simp [plainName, overriddenIn]; done) | decide +kernel
theorem own_d_prog_81_method_1_0 : decode prog_81_method_1_code 0 = .ok (.aload_n 0, 1) := by decide +kernel
theorem own_pd__28__29_V : parseMethodDescriptor "()V" = some ⟨[], none⟩ := by decide +kernel
theorem own_d_prog_81_method_1_1 : decode prog_81_method_1_code 1 = .ok (.invokespecial 1, 3) := by decide +kernel
theorem own_d_prog_81_method_1_4 : decode prog_81_method_1_code 4 = .ok (.lload_n 1, 1) := by decide +kernel
theorem own_d_prog_81_method_1_5 : decode prog_81_method_1_code 5 = .ok (.lconst 0, 1) := by decide +kernel
theorem own_d_prog_81_method_1_6 : decode prog_81_method_1_code 6 = .ok (.lcmp, 1) := by decide +kernel
theorem own_d_prog_81_method_1_7 : decode prog_81_method_1_code 7 = .ok (.ifCond .ge 17, 3) := by decide +kernel
theorem own_d_prog_81_method_1_24 : decode prog_81_method_1_code 24 = .ok (.aload_n 0, 1) := by decide +kernel
theorem own_d_prog_81_method_1_25 : decode prog_81_method_1_code 25 = .ok (.lload_n 1, 1) := by decide +kernel
theorem own_d_prog_81_method_1_26 : decode prog_81_method_1_code 26 = .ok (.putfield 16, 3) := by decide +kernel
theorem own_d_prog_81_method_1_29 : decode prog_81_method_1_code 29 = .ok (.return_, 1) := by decide +kernel
def Q_new (Z : State) (a : Addr) (b : Int64) (u1 : Value) (h0 : Heap) (n0 : Nat) (v : Option Value) (h : Heap) (L : List Loc) : Prop := v = none ∧ Fr n0 L ∧ Keep h0 h [a] ∧ (Exa Z h a "com/example/pushmap/pushmap/simulate/CacheSize") ∧ (Fld Z h a "com/example/pushmap/pushmap/simulate/CacheSize" "bytes" "J" (.long b))
set_option maxRecDepth 65536 in
set_option maxHeartbeats 40000000 in
theorem rm_new (l : Launch) (Z : State) (a0 : Array Value) (hw : ∀ d ∈ tables_1, d.before a0 Z = true) (ws : List Jvm.Cond) (a : Addr) (b : Int64) (u1 : Value) (h0 : Heap) (n0 : Nat) (Z0 : n0 ≤ h0.size) (hb0 : ¬ b < 0) (pr1 : Exa Z h0 a "com/example/pushmap/pushmap/simulate/CacheSize") (pr2 : Fld Z h0 a "com/example/pushmap/pushmap/simulate/CacheSize" "bytes" "J" u1) (pr3 : n0 ≤ a) :
    MetFree l (⟨"com/example/pushmap/pushmap/simulate/CacheSize", "<init>", "(J)V"⟩ : MethodName) (head1 (Jvm.Cond.code (⟨"com/example/pushmap/pushmap/simulate/CacheSize", "<init>", "(J)V"⟩ : MethodName) prog_81_method_1_code 3 none :: ws) ({ frames := 2, cells := 0, slots := 0, locals := 24 } : Room)) (fun as_ U => as_ = #[(.ref a), (.long b)] ∧ Z.Warmed39 U.vm ∧ U.heap = h0) (fun _ _ _ _ _ => True) (fun _ U o U' => ∃ v L, o = .returned v ∧ Q_new Z a b u1 h0 n0 v U'.heap L ∧ FrameEnd U o U' L ({ frames := 2, cells := 0, slots := 0, locals := 24 } : Room).cells ({ frames := 2, cells := 0, slots := 0, locals := 24 } : Room).slots) := by
  refine MetFree.of_bodySF (plainFor_of_name own_pn_com_example_pushmap_pushmap_simulate_CacheSize) hisR ?_
  intro p e s m args below meth c s₁ Bd hml0 hP hK
  obtain ⟨rfl, hZ, hh⟩ := hP
  have hx := Bd.exec
  have hby := Bd.bytes
  have hml : c.maxLocals = 3 := hml0
  have hown : s.vm.findClass "com/example/pushmap/pushmap/simulate/CacheSize" = some m.cls := findClass_of_methodNamed Bd.named
  have hnm := (name_of_methodNamed Bd.named Bd.method).1
  have X0 : Stand p l e ({ frames := 2, cells := 0, slots := 0, locals := 24 } : Room) s m #[(.ref a), (.long b)] below meth c s₁ [] 0 0 := Stand.of_body Bd
  have e0 : s₁.heap = h0 := by rw [← hh, Bd.state]; rfl
  have N0 := Fr.nil n0
  refine own_Goes.of ?_
  refine own_Goes.nm (fun P hPP => ?_)
  refine own_Goes.st ?_ (fun _ k => castTop (own_ef_new m a b) k)
  have K0 : Keep h0 h0 [a] := Keep.refl _ _
  show own_Goes p.tables e below P (s₁.setTop (mkF m 0 #[.val (.ref a), .val (.long b), .second] []))
  refine own_Goes.st ?_ (fun _ k => XS.aloadN X0.here hx rfl (hb hby own_d_prog_81_method_1_0) rfl rfl k)
  show own_Goes p.tables e below P (s₁.setTop (mkF m 1 #[.val (.ref a), .val (.long b), .second] [(.ref a)]))
  obtain ⟨_, _, ⟨T1, L1, k1, n1⟩, -, X1, ⟨Lc1, hQ1, l1, y1, z1⟩, st1⟩ := X0.specialBack hx (y := (⟨"java/lang/Record", "<init>", "()V"⟩ : MethodName)) rfl hown (mvT hZ (hw _ (List.mem_of_getElem? (i := 6) rfl))) (mvT hZ (hw _ (List.mem_of_getElem? (i := 7) rfl))) (mvT hZ (hw _ (List.mem_of_getElem? (i := 10) rfl))) (by decide) (backOf (W := 0) (rm_rec l Z a0 hw [] a h0 n0 Z0) hZ (hw _ (List.mem_of_getElem? (i := 10) rfl)) (hw _ (List.mem_of_getElem? (i := 9) rfl)) (by decide) (by decide)) (g := (mkF m 1 #[.val (.ref a), .val (.long b), .second] [(.ref a)])) rfl (by rw [hml]; rfl) (Steps.refl _) (a := a) (argsL := []) (rest := []) (lenOf own_pd__28__29_V rfl) rfl (by show 2 * 0 + _ ≤ _; exact Nat.le_of_eq rfl) (hb hby own_d_prog_81_method_1_1) (fun _ _ => ⟨rfl, e0, (by decide : 0 + 0 ≤ _), (by decide : 0 + 0 ≤ _)⟩)
  dsimp only [Pt.U, Pt.locs, Pt.cells, Pt.slots] at X1 l1 y1 z1 st1 hQ1
  subst l1 y1 z1
  obtain ⟨rfl, Nq1, e1⟩ := hQ1
  have N1 := Fr.app N0 Nq1
  refine own_Goes.tr st1 ?_
  show own_Goes p.tables e below P (T1.setTop (mkF m 4 #[.val (.ref a), .val (.long b), .second] []))
  refine own_Goes.st ?_ (fun _ k => XS.lloadN X1.here hx rfl (hb hby own_d_prog_81_method_1_4) rfl k)
  show own_Goes p.tables e below P (T1.setTop (mkF m 5 #[.val (.ref a), .val (.long b), .second] [(.long b)]))
  refine own_Goes.st ?_ (fun _ k => XS.lconst X1.here hx rfl (hb hby own_d_prog_81_method_1_5) k)
  show own_Goes p.tables e below P (T1.setTop (mkF m 6 #[.val (.ref a), .val (.long b), .second] [(.long (0 : Int64)), (.long b)]))
  refine own_Goes.st ?_ (fun _ k => XS.lcmp X1.here hx rfl (hb hby own_d_prog_81_method_1_6) rfl k)
  show own_Goes p.tables e below P (T1.setTop (mkF m 7 #[.val (.ref a), .val (.long b), .second] [(.int (lcmpW b (0 : Int64)))]))
  refine own_Goes.st ?_ (fun _ k => XS.ifYes X1.here hx rfl (pc0 := 7) (pc' := 24) rfl (hb hby own_d_prog_81_method_1_7) rfl ((if0 _ _).trans (flt (fun q => hb0 ((lw_lt _ _).mp q))).2.1) (by decide) (by decide) k)
  show own_Goes p.tables e below P (T1.setTop (mkF m 24 #[.val (.ref a), .val (.long b), .second] []))
  refine own_Goes.st ?_ (fun _ k => XS.aloadN X1.here hx rfl (hb hby own_d_prog_81_method_1_24) rfl rfl k)
  show own_Goes p.tables e below P (T1.setTop (mkF m 25 #[.val (.ref a), .val (.long b), .second] [(.ref a)]))
  refine own_Goes.st ?_ (fun _ k => XS.lloadN X1.here hx rfl (hb hby own_d_prog_81_method_1_25) rfl k)
  show own_Goes p.tables e below P (T1.setTop (mkF m 26 #[.val (.ref a), .val (.long b), .second] [(.long b), (.ref a)]))
  obtain ⟨T2, h2, X2, e2, W2, st2⟩ := putF X1 hx hZ hown (host := "") (Or.inl (hw _ (List.mem_of_getElem? (i := 14) rfl))) Via.refl e1 pr2 pr1 (Or.inr ⟨(hw _ (List.mem_of_getElem? (i := 15) rfl)), rfl, hnm⟩) (hw _ (List.mem_of_getElem? (i := 1) rfl)) (ty := .long) (by decide) rfl rfl (g := (mkF m 26 #[.val (.ref a), .val (.long b), .second] [(.long b), (.ref a)])) rfl rfl (hb hby own_d_prog_81_method_1_26)
  refine own_Goes.st ?_ st2
  have F3 : Fld Z h2 a "com/example/pushmap/pushmap/simulate/CacheSize" "bytes" "J" (.long b) := pr2.same W2
  have Z4 : n0 ≤ h2.size := by rw [W2.size]; exact Z0
  have K5 := K0.wr W2 (Or.inl (List.mem_of_getElem? (i := 0) rfl))
  have N6 := Fr.snoc X2 N1 pr3
  show own_Goes p.tables e below P (T2.setTop (mkF m 29 #[.val (.ref a), .val (.long b), .second] []))
  obtain ⟨fs, hr, hrun, hended, hW, hsame⟩ := X2.leave (v := none) (fun _ => rfl)
  have F7 : Exa Z h2 a "com/example/pushmap/pushmap/simulate/CacheSize" := (pr1.wr W2)
  exact own_Goes.fin _ _ (X2.returnOut hx Bd.returns (hb hby own_d_prog_81_method_1_29) hr) (hPP _ _ ⟨hrun, hended, _, _, rfl, (by show Q_new Z a b u1 h0 n0 _ T2.heap _; rw [e2]; exact ⟨rfl, N6, K5, F7, F3⟩), ⟨_, rfl⟩, hW, hsame.mono (by decide) (by decide)⟩)
theorem own_ef_keeps (m : MethodId) (x0 : Addr) (x1 : Int64) : entryFrame m #[(.ref x0), (.long x1)] 3 = mkF m 0 #[.val (.ref x0), .val (.long x1), .second] [] := by first | (simp [entryFrame, mkF, argsToLocals, Value.category]; done) | rfl
theorem own_d_prog_81_method_2_0 : decode prog_81_method_2_code 0 = .ok (.aload_n 0, 1) := by decide +kernel
theorem own_d_prog_81_method_2_1 : decode prog_81_method_2_code 1 = .ok (.getfield 16, 3) := by decide +kernel
theorem own_d_prog_81_method_2_4 : decode prog_81_method_2_code 4 = .ok (.lconst 0, 1) := by decide +kernel
theorem own_d_prog_81_method_2_5 : decode prog_81_method_2_code 5 = .ok (.lcmp, 1) := by decide +kernel
theorem own_d_prog_81_method_2_6 : decode prog_81_method_2_code 6 = .ok (.ifCond .le 16, 3) := by decide +kernel
theorem own_d_prog_81_method_2_9 : decode prog_81_method_2_code 9 = .ok (.lload_n 1, 1) := by decide +kernel
theorem own_d_prog_81_method_2_10 : decode prog_81_method_2_code 10 = .ok (.aload_n 0, 1) := by decide +kernel
theorem own_d_prog_81_method_2_11 : decode prog_81_method_2_code 11 = .ok (.getfield 16, 3) := by decide +kernel
theorem own_d_prog_81_method_2_14 : decode prog_81_method_2_code 14 = .ok (.lcmp, 1) := by decide +kernel
theorem own_d_prog_81_method_2_15 : decode prog_81_method_2_code 15 = .ok (.ifCond .gt 7, 3) := by decide +kernel
theorem own_d_prog_81_method_2_22 : decode prog_81_method_2_code 22 = .ok (.iconst 0, 1) := by decide +kernel
theorem own_d_prog_81_method_2_23 : decode prog_81_method_2_code 23 = .ok (.ireturn, 1) := by decide +kernel
theorem own_d_prog_81_method_2_18 : decode prog_81_method_2_code 18 = .ok (.iconst 1, 1) := by decide +kernel
theorem own_d_prog_81_method_2_19 : decode prog_81_method_2_code 19 = .ok (.goto 4, 3) := by decide +kernel
def Q_keeps (Z : State) (a : Addr) (q : Int64) (b : Int64) (h0 : Heap) (n0 : Nat) (v : Option Value) (h : Heap) (L : List Loc) : Prop := v = some (.int (own_keeps b q)) ∧ Fr n0 L ∧ h = h0
set_option maxRecDepth 65536 in
set_option maxHeartbeats 40000000 in
theorem rm_keeps (l : Launch) (Z : State) (a0 : Array Value) (hw : ∀ d ∈ tables_1, d.before a0 Z = true) (ws : List Jvm.Cond) (a : Addr) (q : Int64) (b : Int64) (h0 : Heap) (n0 : Nat) (Z0 : n0 ≤ h0.size) (pr0 : Fld Z h0 a "com/example/pushmap/pushmap/simulate/CacheSize" "bytes" "J" (.long b)) :
    MetFree l (⟨"com/example/pushmap/pushmap/simulate/CacheSize", "keeps", "(J)Z"⟩ : MethodName) (head1 (Jvm.Cond.code (⟨"com/example/pushmap/pushmap/simulate/CacheSize", "keeps", "(J)Z"⟩ : MethodName) prog_81_method_2_code 3 (some .boolean) :: ws) ({ frames := 0, cells := 0, slots := 0, locals := 0 } : Room)) (fun as_ U => as_ = #[(.ref a), (.long q)] ∧ Z.Warmed39 U.vm ∧ U.heap = h0) (fun _ _ _ _ _ => True) (fun _ U o U' => ∃ v L, o = .returned v ∧ Q_keeps Z a q b h0 n0 v U'.heap L ∧ FrameEnd U o U' L ({ frames := 0, cells := 0, slots := 0, locals := 0 } : Room).cells ({ frames := 0, cells := 0, slots := 0, locals := 0 } : Room).slots) := by
  refine MetFree.of_bodySF (plainFor_of_name own_pn_com_example_pushmap_pushmap_simulate_CacheSize) hisR ?_
  intro p e s m args below meth c s₁ Bd hml0 hP hK
  obtain ⟨rfl, hZ, hh⟩ := hP
  have hx := Bd.exec
  have hby := Bd.bytes
  have hml : c.maxLocals = 3 := hml0
  have hown : s.vm.findClass "com/example/pushmap/pushmap/simulate/CacheSize" = some m.cls := findClass_of_methodNamed Bd.named
  have hnm := (name_of_methodNamed Bd.named Bd.method).1
  have X0 : Stand p l e ({ frames := 0, cells := 0, slots := 0, locals := 0 } : Room) s m #[(.ref a), (.long q)] below meth c s₁ [] 0 0 := Stand.of_body Bd
  have e0 : s₁.heap = h0 := by rw [← hh, Bd.state]; rfl
  have N0 := Fr.nil n0
  refine own_Goes.of ?_
  refine own_Goes.nm (fun P hPP => ?_)
  refine own_Goes.st ?_ (fun _ k => castTop (own_ef_keeps m a q) k)
  show own_Goes p.tables e below P (s₁.setTop (mkF m 0 #[.val (.ref a), .val (.long q), .second] []))
  refine own_Goes.st ?_ (fun _ k => XS.aloadN X0.here hx rfl (hb hby own_d_prog_81_method_2_0) rfl rfl k)
  show own_Goes p.tables e below P (s₁.setTop (mkF m 1 #[.val (.ref a), .val (.long q), .second] [(.ref a)]))
  obtain ⟨T1, X1, e1, st1⟩ := getF X0 hx hZ hown (host := "") (Or.inl (hw _ (List.mem_of_getElem? (i := 14) rfl))) Via.refl e0 pr0 (g := (mkF m 1 #[.val (.ref a), .val (.long q), .second] [(.ref a)])) rfl rfl (hb hby own_d_prog_81_method_2_1)
  refine own_Goes.st ?_ st1
  show own_Goes p.tables e below P (T1.setTop (mkF m 4 #[.val (.ref a), .val (.long q), .second] [(.long b)]))
  refine own_Goes.st ?_ (fun _ k => XS.lconst X1.here hx rfl (hb hby own_d_prog_81_method_2_4) k)
  show own_Goes p.tables e below P (T1.setTop (mkF m 5 #[.val (.ref a), .val (.long q), .second] [(.long (0 : Int64)), (.long b)]))
  refine own_Goes.st ?_ (fun _ k => XS.lcmp X1.here hx rfl (hb hby own_d_prog_81_method_2_5) rfl k)
  show own_Goes p.tables e below P (T1.setTop (mkF m 6 #[.val (.ref a), .val (.long q), .second] [(.int (lcmpW b (0 : Int64)))]))
  by_cases h1 : (0 : Int64) < b
  · skip
    refine own_Goes.st ?_ (fun _ k => XS.ifNo X1.here hx rfl (hb hby own_d_prog_81_method_2_6) rfl ((if0 _ _).trans (tlt ((lw_gt _ _).mpr h1)).2.2.2) k)
    show own_Goes p.tables e below P (T1.setTop (mkF m 9 #[.val (.ref a), .val (.long q), .second] []))
    refine own_Goes.st ?_ (fun _ k => XS.lloadN X1.here hx rfl (hb hby own_d_prog_81_method_2_9) rfl k)
    show own_Goes p.tables e below P (T1.setTop (mkF m 10 #[.val (.ref a), .val (.long q), .second] [(.long q)]))
    refine own_Goes.st ?_ (fun _ k => XS.aloadN X1.here hx rfl (hb hby own_d_prog_81_method_2_10) rfl rfl k)
    show own_Goes p.tables e below P (T1.setTop (mkF m 11 #[.val (.ref a), .val (.long q), .second] [(.ref a), (.long q)]))
    obtain ⟨T2, X2, e2, st2⟩ := getF X1 hx hZ hown (host := "") (Or.inl (hw _ (List.mem_of_getElem? (i := 14) rfl))) Via.refl e1 pr0 (g := (mkF m 11 #[.val (.ref a), .val (.long q), .second] [(.ref a), (.long q)])) rfl rfl (hb hby own_d_prog_81_method_2_11)
    refine own_Goes.st ?_ st2
    show own_Goes p.tables e below P (T2.setTop (mkF m 14 #[.val (.ref a), .val (.long q), .second] [(.long b), (.long q)]))
    refine own_Goes.st ?_ (fun _ k => XS.lcmp X2.here hx rfl (hb hby own_d_prog_81_method_2_14) rfl k)
    show own_Goes p.tables e below P (T2.setTop (mkF m 15 #[.val (.ref a), .val (.long q), .second] [(.int (lcmpW q b))]))
    by_cases h2 : b < q
    · skip
      refine own_Goes.st ?_ (fun _ k => XS.ifYes X2.here hx rfl (pc0 := 15) (pc' := 22) rfl (hb hby own_d_prog_81_method_2_15) rfl ((if0 _ _).trans (tlt ((lw_gt _ _).mpr h2)).2.2.1) (by decide) (by decide) k)
      show own_Goes p.tables e below P (T2.setTop (mkF m 22 #[.val (.ref a), .val (.long q), .second] []))
      refine own_Goes.st ?_ (fun _ k => XS.iconst X2.here hx rfl (hb hby own_d_prog_81_method_2_22) k)
      show own_Goes p.tables e below P (T2.setTop (mkF m 23 #[.val (.ref a), .val (.long q), .second] [(.int (0 : Int32))]))
      obtain ⟨fs, hr, hrun, hended, hW, hsame⟩ := X2.leave (v := some (.int (0 : Int32))) (fun h => by rw [Bd.returns] at h; cases h)
      exact own_Goes.fin _ _ (retOut X2 hx (t := .boolean) Bd.returns rfl (Or.inl ⟨rfl, Or.inr (Or.inl rfl), _, rfl⟩) (hb hby own_d_prog_81_method_2_23) hr) (hPP _ _ ⟨hrun, hended, _, _, rfl, (by show Q_keeps Z a q b h0 n0 _ T2.heap _; rw [e2]; exact ⟨(by rw [own_keeps, if_pos h1, if_pos h2]), N0, rfl⟩), ⟨_, rfl⟩, hW, hsame.mono (by decide) (by decide)⟩)
    · skip
      refine own_Goes.st ?_ (fun _ k => XS.ifNo X2.here hx rfl (hb hby own_d_prog_81_method_2_15) rfl ((if0 _ _).trans (flt (fun q => h2 ((lw_gt _ _).mp q))).2.2.1) k)
      show own_Goes p.tables e below P (T2.setTop (mkF m 18 #[.val (.ref a), .val (.long q), .second] []))
      refine own_Goes.st ?_ (fun _ k => XS.iconst X2.here hx rfl (hb hby own_d_prog_81_method_2_18) k)
      show own_Goes p.tables e below P (T2.setTop (mkF m 19 #[.val (.ref a), .val (.long q), .second] [(.int (1 : Int32))]))
      refine own_Goes.st ?_ (fun _ k => XS.goto X2.here hx rfl (pc0 := 19) (pc' := 23) rfl (hb hby own_d_prog_81_method_2_19) (by decide) (by decide) k)
      show own_Goes p.tables e below P (T2.setTop (mkF m 23 #[.val (.ref a), .val (.long q), .second] [(.int (1 : Int32))]))
      obtain ⟨fs, hr, hrun, hended, hW, hsame⟩ := X2.leave (v := some (.int (1 : Int32))) (fun h => by rw [Bd.returns] at h; cases h)
      exact own_Goes.fin _ _ (retOut X2 hx (t := .boolean) Bd.returns rfl (Or.inl ⟨rfl, Or.inr (Or.inl rfl), _, rfl⟩) (hb hby own_d_prog_81_method_2_23) hr) (hPP _ _ ⟨hrun, hended, _, _, rfl, (by show Q_keeps Z a q b h0 n0 _ T2.heap _; rw [e2]; exact ⟨(by rw [own_keeps, if_pos h1, if_neg h2]), N0, rfl⟩), ⟨_, rfl⟩, hW, hsame.mono (by decide) (by decide)⟩)
  · skip
    refine own_Goes.st ?_ (fun _ k => XS.ifYes X1.here hx rfl (pc0 := 6) (pc' := 22) rfl (hb hby own_d_prog_81_method_2_6) rfl ((if0 _ _).trans (flt (fun q => h1 ((lw_gt _ _).mp q))).2.2.2) (by decide) (by decide) k)
    show own_Goes p.tables e below P (T1.setTop (mkF m 22 #[.val (.ref a), .val (.long q), .second] []))
    refine own_Goes.st ?_ (fun _ k => XS.iconst X1.here hx rfl (hb hby own_d_prog_81_method_2_22) k)
    show own_Goes p.tables e below P (T1.setTop (mkF m 23 #[.val (.ref a), .val (.long q), .second] [(.int (0 : Int32))]))
    obtain ⟨fs, hr, hrun, hended, hW, hsame⟩ := X1.leave (v := some (.int (0 : Int32))) (fun h => by rw [Bd.returns] at h; cases h)
    exact own_Goes.fin _ _ (retOut X1 hx (t := .boolean) Bd.returns rfl (Or.inl ⟨rfl, Or.inr (Or.inl rfl), _, rfl⟩) (hb hby own_d_prog_81_method_2_23) hr) (hPP _ _ ⟨hrun, hended, _, _, rfl, (by show Q_keeps Z a q b h0 n0 _ T1.heap _; rw [e1]; exact ⟨(by rw [own_keeps, if_neg h1]), N0, rfl⟩), ⟨_, rfl⟩, hW, hsame.mono (by decide) (by decide)⟩)
theorem own_ef_max (m : MethodId) (x0 : Int64) (x1 : Int64) : entryFrame m #[(.long x0), (.long x1)] 4 = mkF m 0 #[.val (.long x0), .second, .val (.long x1), .second] [] := by first | (simp [entryFrame, mkF, argsToLocals, Value.category]; done) | rfl
theorem own_d_jdk_29_method_66_0 : decode jdk_29_method_66_code 0 = .ok (.lload_n 0, 1) := by decide +kernel
theorem own_d_jdk_29_method_66_1 : decode jdk_29_method_66_code 1 = .ok (.lload_n 2, 1) := by decide +kernel
theorem own_d_jdk_29_method_66_2 : decode jdk_29_method_66_code 2 = .ok (.lcmp, 1) := by decide +kernel
theorem own_d_jdk_29_method_66_3 : decode jdk_29_method_66_code 3 = .ok (.ifCond .lt 7, 3) := by decide +kernel
theorem own_d_jdk_29_method_66_10 : decode jdk_29_method_66_code 10 = .ok (.lload_n 2, 1) := by decide +kernel
theorem own_d_jdk_29_method_66_11 : decode jdk_29_method_66_code 11 = .ok (.lreturn, 1) := by decide +kernel
theorem own_d_jdk_29_method_66_6 : decode jdk_29_method_66_code 6 = .ok (.lload_n 0, 1) := by decide +kernel
theorem own_d_jdk_29_method_66_7 : decode jdk_29_method_66_code 7 = .ok (.goto 4, 3) := by decide +kernel
def Q_max (Z : State) (q : Int64) (b : Int64) (h0 : Heap) (n0 : Nat) (v : Option Value) (h : Heap) (L : List Loc) : Prop := v = some (.long (own_max q b)) ∧ Fr n0 L ∧ h = h0
set_option maxRecDepth 65536 in
set_option maxHeartbeats 40000000 in
theorem rm_max (l : Launch) (Z : State) (a0 : Array Value) (hw : ∀ d ∈ tables_1, d.before a0 Z = true) (ws : List Jvm.Cond) (q : Int64) (b : Int64) (h0 : Heap) (n0 : Nat) (Z0 : n0 ≤ h0.size) :
    MetFree l (⟨"java/lang/Math", "max", "(JJ)J"⟩ : MethodName) (head1 (Jvm.Cond.code (⟨"java/lang/Math", "max", "(JJ)J"⟩ : MethodName) jdk_29_method_66_code 4 (some .long) :: ws) ({ frames := 0, cells := 0, slots := 0, locals := 0 } : Room)) (fun as_ U => as_ = #[(.long q), (.long b)] ∧ Z.Warmed39 U.vm ∧ U.heap = h0) (fun _ _ _ _ _ => True) (fun _ U o U' => ∃ v L, o = .returned v ∧ Q_max Z q b h0 n0 v U'.heap L ∧ FrameEnd U o U' L ({ frames := 0, cells := 0, slots := 0, locals := 0 } : Room).cells ({ frames := 0, cells := 0, slots := 0, locals := 0 } : Room).slots) := by
  refine MetFree.of_bodySF (by decide +kernel) hisR ?_
  intro p e s m args below meth c s₁ Bd hml0 hP hK
  obtain ⟨rfl, hZ, hh⟩ := hP
  have hx := Bd.exec
  have hby := Bd.bytes
  have hml : c.maxLocals = 4 := hml0
  have hown : s.vm.findClass "java/lang/Math" = some m.cls := findClass_of_methodNamed Bd.named
  have hnm := (name_of_methodNamed Bd.named Bd.method).1
  have X0 : Stand p l e ({ frames := 0, cells := 0, slots := 0, locals := 0 } : Room) s m #[(.long q), (.long b)] below meth c s₁ [] 0 0 := Stand.of_body Bd
  have e0 : s₁.heap = h0 := by rw [← hh, Bd.state]; rfl
  have N0 := Fr.nil n0
  refine own_Goes.of ?_
  refine own_Goes.nm (fun P hPP => ?_)
  refine own_Goes.st ?_ (fun _ k => castTop (own_ef_max m q b) k)
  show own_Goes p.tables e below P (s₁.setTop (mkF m 0 #[.val (.long q), .second, .val (.long b), .second] []))
  refine own_Goes.st ?_ (fun _ k => XS.lloadN X0.here hx rfl (hb hby own_d_jdk_29_method_66_0) rfl k)
  show own_Goes p.tables e below P (s₁.setTop (mkF m 1 #[.val (.long q), .second, .val (.long b), .second] [(.long q)]))
  refine own_Goes.st ?_ (fun _ k => XS.lloadN X0.here hx rfl (hb hby own_d_jdk_29_method_66_1) rfl k)
  show own_Goes p.tables e below P (s₁.setTop (mkF m 2 #[.val (.long q), .second, .val (.long b), .second] [(.long b), (.long q)]))
  refine own_Goes.st ?_ (fun _ k => XS.lcmp X0.here hx rfl (hb hby own_d_jdk_29_method_66_2) rfl k)
  show own_Goes p.tables e below P (s₁.setTop (mkF m 3 #[.val (.long q), .second, .val (.long b), .second] [(.int (lcmpW q b))]))
  by_cases h1 : q < b
  · skip
    refine own_Goes.st ?_ (fun _ k => XS.ifYes X0.here hx rfl (pc0 := 3) (pc' := 10) rfl (hb hby own_d_jdk_29_method_66_3) rfl ((if0 _ _).trans (tlt ((lw_lt _ _).mpr h1)).1) (by decide) (by decide) k)
    show own_Goes p.tables e below P (s₁.setTop (mkF m 10 #[.val (.long q), .second, .val (.long b), .second] []))
    refine own_Goes.st ?_ (fun _ k => XS.lloadN X0.here hx rfl (hb hby own_d_jdk_29_method_66_10) rfl k)
    show own_Goes p.tables e below P (s₁.setTop (mkF m 11 #[.val (.long q), .second, .val (.long b), .second] [(.long b)]))
    obtain ⟨fs, hr, hrun, hended, hW, hsame⟩ := X0.leave (v := some (.long b)) (fun h => by rw [Bd.returns] at h; cases h)
    exact own_Goes.fin _ _ (retOut X0 hx (t := .long) Bd.returns rfl (Or.inr (Or.inl ⟨rfl, rfl, _, rfl⟩)) (hb hby own_d_jdk_29_method_66_11) hr) (hPP _ _ ⟨hrun, hended, _, _, rfl, (by show Q_max Z q b h0 n0 _ s₁.heap _; rw [e0]; exact ⟨(by rw [own_max, if_pos h1]), N0, rfl⟩), ⟨_, rfl⟩, hW, hsame.mono (by decide) (by decide)⟩)
  · skip
    refine own_Goes.st ?_ (fun _ k => XS.ifNo X0.here hx rfl (hb hby own_d_jdk_29_method_66_3) rfl ((if0 _ _).trans (flt (fun q => h1 ((lw_lt _ _).mp q))).1) k)
    show own_Goes p.tables e below P (s₁.setTop (mkF m 6 #[.val (.long q), .second, .val (.long b), .second] []))
    refine own_Goes.st ?_ (fun _ k => XS.lloadN X0.here hx rfl (hb hby own_d_jdk_29_method_66_6) rfl k)
    show own_Goes p.tables e below P (s₁.setTop (mkF m 7 #[.val (.long q), .second, .val (.long b), .second] [(.long q)]))
    refine own_Goes.st ?_ (fun _ k => XS.goto X0.here hx rfl (pc0 := 7) (pc' := 11) rfl (hb hby own_d_jdk_29_method_66_7) (by decide) (by decide) k)
    show own_Goes p.tables e below P (s₁.setTop (mkF m 11 #[.val (.long q), .second, .val (.long b), .second] [(.long q)]))
    obtain ⟨fs, hr, hrun, hended, hW, hsame⟩ := X0.leave (v := some (.long q)) (fun h => by rw [Bd.returns] at h; cases h)
    exact own_Goes.fin _ _ (retOut X0 hx (t := .long) Bd.returns rfl (Or.inr (Or.inl ⟨rfl, rfl, _, rfl⟩)) (hb hby own_d_jdk_29_method_66_11) hr) (hPP _ _ ⟨hrun, hended, _, _, rfl, (by show Q_max Z q b h0 n0 _ s₁.heap _; rw [e0]; exact ⟨(by rw [own_max, if_neg h1]), N0, rfl⟩), ⟨_, rfl⟩, hW, hsame.mono (by decide) (by decide)⟩)
theorem own_ef_law (m : MethodId) (x0 : Int64) (x1 : Int64) (x2 : Int32) : entryFrame m #[(.long x0), (.long x1), (.int x2)] maxLocals = mkF m 0 #[.val (.long x0), .second, .val (.long x1), .second, .val (.int x2), .unset, .unset, .unset, .unset, .unset, .unset, .unset, .unset] [] := by first | (simp [entryFrame, mkF, argsToLocals, Value.category, maxLocals]; done) | rfl
theorem own_pn_com_example_pushmap_pushmap_simulate_CacheSizeKeepsPinLaw : plainName "com/example/pushmap/pushmap/simulate/CacheSizeKeepsPinLaw" = true := by first | (simp [plainName, overriddenIn]; done) | decide +kernel
theorem own_pd__28_J_29_V : parseMethodDescriptor "(J)V" = some ⟨[.long], none⟩ := by decide +kernel
theorem own_pd__28_J_29_Z : parseMethodDescriptor "(J)Z" = some ⟨[.long], some .boolean⟩ := by decide +kernel
theorem own_pd__28_JJ_29_J : parseMethodDescriptor "(JJ)J" = some ⟨[.long, .long], some .long⟩ := by decide +kernel
def Q_law (n0 : Nat) (v : Option Value) (L : List Loc) : Prop := v = some (.int 1) ∧ Fr n0 L
set_option maxRecDepth 65536 in
set_option maxHeartbeats 40000000 in
theorem rm_law (l : Launch) (Z : State) (a0 : Array Value) (hw : ∀ d ∈ tables_1, d.before a0 Z = true) (ws : List Jvm.Cond) (p0 : Int64) (p1 : Int64) (p2 : Int32) (h0 : Heap) (n0 : Nat) (Z0 : n0 ≤ h0.size) :
    MetFree l x (head1 (Jvm.Cond.code x code maxLocals ret :: ws) room_1) (fun as_ U => as_ = #[(.long p0), (.long p1), (.int p2)] ∧ Z.Warmed39 U.vm ∧ U.heap = h0) (fun _ _ _ _ _ => True) (fun _ U o U' => ∃ v L, o = .returned v ∧ Q_law n0 v L ∧ FrameEnd U o U' L 16 128) := by
  refine MetFree.of_bodySF (plainFor_of_name own_pn_com_example_pushmap_pushmap_simulate_CacheSizeKeepsPinLaw) hisR ?_
  intro p e s m args below meth c s₁ Bd hml0 hP hK
  obtain ⟨rfl, hZ, hh⟩ := hP
  have hx := Bd.exec
  have hby := Bd.bytes
  have hml : c.maxLocals = 13 := hml0
  have hown : s.vm.findClass "com/example/pushmap/pushmap/simulate/CacheSizeKeepsPinLaw" = some m.cls := findClass_of_methodNamed Bd.named
  have hnm := (name_of_methodNamed Bd.named Bd.method).1
  have X0 : Stand p l e room_1 s m #[(.long p0), (.long p1), (.int p2)] below meth c s₁ [] 0 0 := Stand.of_body Bd
  have e0 : s₁.heap = h0 := by rw [← hh, Bd.state]; rfl
  have N0 := Fr.nil n0
  refine own_Goes.of ?_
  refine own_Goes.nm (fun P hPP => ?_)
  refine own_Goes.st ?_ (fun _ k => castTop (own_ef_law m p0 p1 p2) k)
  show own_Goes p.tables e below P (s₁.setTop (mkF m 0 #[.val (.long p0), .second, .val (.long p1), .second, .val (.int p2), .unset, .unset, .unset, .unset, .unset, .unset, .unset, .unset] []))
  have J71 : ∀ (bb oo : Int64) (mm : Int32) (_ : ¬ bb < 0), own_Goes p.tables e below P (s₁.setTop (mkF m 71 #[.val (.long p0), .second, .val (.long p1), .second, .val (.int p2), .val (.long bb), .second, .val (.int mm), .val (.long oo), .second, .unset, .unset, .unset] [])) := by
    intro bb oo mm hbb
    obtain ⟨T1, h1, X1, e1, E1, A1, D1, -, st1⟩ := newO X0 hx hZ hown (hw _ (List.mem_of_getElem? (i := 0) rfl)) (hw _ (List.mem_of_getElem? (i := 1) rfl)) (hw _ (List.mem_of_getElem? (i := 2) rfl)) e0 (g := (mkF m 71 #[.val (.long p0), .second, .val (.long p1), .second, .val (.int p2), .val (.long bb), .second, .val (.int mm), .val (.long oo), .second, .unset, .unset, .unset] [])) rfl (hb hby at_71) (by decide) (by decide)
    obtain ⟨a1, g1⟩ : ∃ z, z = h0.size := ⟨_, rfl⟩
    rw [← g1] at A1 D1 st1
    have ge_a1 : n0 ≤ a1 := Nat.le_trans Z0 (Nat.le_of_eq g1.symm)
    refine own_Goes.st ?_ st1
    have Z2 : n0 ≤ h1.size := Nat.le_trans Z0 E1.1
    have F3 : Fld Z h1 a1 "com/example/pushmap/pushmap/simulate/CacheSize" "bytes" "J" (.long (0 : Int64)) := D1 (Or.inr (hw _ (List.mem_of_getElem? (i := 15) rfl))) (ty := .long) (by decide)
    show own_Goes p.tables e below P (T1.setTop (mkF m 74 #[.val (.long p0), .second, .val (.long p1), .second, .val (.int p2), .val (.long bb), .second, .val (.int mm), .val (.long oo), .second, .unset, .unset, .unset] [(.ref a1)]))
    refine own_Goes.st ?_ (fun _ k => XS.dup X1.here hx rfl (hb hby at_74) rfl rfl k)
    show own_Goes p.tables e below P (T1.setTop (mkF m 75 #[.val (.long p0), .second, .val (.long p1), .second, .val (.int p2), .val (.long bb), .second, .val (.int mm), .val (.long oo), .second, .unset, .unset, .unset] [(.ref a1), (.ref a1)]))
    refine own_Goes.st ?_ (fun _ k => XS.lload X1.here hx rfl (hb hby at_75) rfl k)
    show own_Goes p.tables e below P (T1.setTop (mkF m 77 #[.val (.long p0), .second, .val (.long p1), .second, .val (.int p2), .val (.long bb), .second, .val (.int mm), .val (.long oo), .second, .unset, .unset, .unset] [(.long bb), (.ref a1), (.ref a1)]))
    obtain ⟨_, _, ⟨T4, L4, k4, n4⟩, -, X4, ⟨Lc4, hQ4, l4, y4, z4⟩, st4⟩ := X1.specialBack hx (y := (⟨"com/example/pushmap/pushmap/simulate/CacheSize", "<init>", "(J)V"⟩ : MethodName)) rfl hown (mvT hZ (hw _ (List.mem_of_getElem? (i := 3) rfl))) (mvT hZ (hw _ (List.mem_of_getElem? (i := 4) rfl))) (mvT hZ (hw _ (List.mem_of_getElem? (i := 5) rfl))) (by decide) (backOf (W := 1) (rm_new l Z a0 hw [] a1 bb (.long (0 : Int64)) h1 n0 Z2 hbb A1 F3 ge_a1) hZ (hw _ (List.mem_of_getElem? (i := 5) rfl)) (hw _ (List.mem_of_getElem? (i := 2) rfl)) (by decide) (by decide)) (g := (mkF m 77 #[.val (.long p0), .second, .val (.long p1), .second, .val (.int p2), .val (.long bb), .second, .val (.int mm), .val (.long oo), .second, .unset, .unset, .unset] [(.long bb), (.ref a1), (.ref a1)])) rfl (by rw [hml]; rfl) (Steps.refl _) (a := a1) (argsL := [(.long bb)]) (rest := [(.ref a1)]) (lenOf own_pd__28_J_29_V rfl) rfl (by show 2 * 0 + _ ≤ _; exact Nat.le_of_eq rfl) (hb hby at_77) (fun _ _ => ⟨rfl, e1, (by decide : 1 + 0 ≤ _), (by decide : 1 + 0 ≤ _)⟩)
    dsimp only [Pt.U, Pt.locs, Pt.cells, Pt.slots] at X4 l4 y4 z4 st4 hQ4
    subst l4 y4 z4
    obtain ⟨rfl, Nq4, K4, f5, f6⟩ := hQ4
    have N4 := Fr.app N0 Nq4
    refine own_Goes.tr st4 ?_
    have Z7 : n0 ≤ T4.heap.size := Nat.le_trans Z2 K4.1
    show own_Goes p.tables e below P (T4.setTop (mkF m 80 #[.val (.long p0), .second, .val (.long p1), .second, .val (.int p2), .val (.long bb), .second, .val (.int mm), .val (.long oo), .second, .unset, .unset, .unset] [(.ref a1)]))
    refine own_Goes.st ?_ (fun _ k => XS.astore X4.here hx rfl (hb hby at_80) rfl rfl (l' := #[.val (.long p0), .second, .val (.long p1), .second, .val (.int p2), .val (.long bb), .second, .val (.int mm), .val (.long oo), .second, .val (.ref a1), .unset, .unset]) rfl k)
    show own_Goes p.tables e below P (T4.setTop (mkF m 82 #[.val (.long p0), .second, .val (.long p1), .second, .val (.int p2), .val (.long bb), .second, .val (.int mm), .val (.long oo), .second, .val (.ref a1), .unset, .unset] []))
    refine own_Goes.st ?_ (fun _ k => XS.aload X4.here hx rfl (hb hby at_82) rfl rfl k)
    show own_Goes p.tables e below P (T4.setTop (mkF m 84 #[.val (.long p0), .second, .val (.long p1), .second, .val (.int p2), .val (.long bb), .second, .val (.int mm), .val (.long oo), .second, .val (.ref a1), .unset, .unset] [(.ref a1)]))
    refine own_Goes.st ?_ (fun _ k => XS.lload X4.here hx rfl (hb hby at_84) rfl k)
    show own_Goes p.tables e below P (T4.setTop (mkF m 86 #[.val (.long p0), .second, .val (.long p1), .second, .val (.int p2), .val (.long bb), .second, .val (.int mm), .val (.long oo), .second, .val (.ref a1), .unset, .unset] [(.long oo), (.ref a1)]))
    obtain ⟨cq8, kq8, q8a, q8b, q8c⟩ := isOf hZ rfl f5
    obtain ⟨_, _, ⟨T8, L8, k8, n8⟩, -, X8, ⟨Lc8, hQ8, l8, y8, z8⟩, st8⟩ := X4.virtualBack hx (y := (⟨"com/example/pushmap/pushmap/simulate/CacheSize", "keeps", "(J)Z"⟩ : MethodName)) (z := (⟨"com/example/pushmap/pushmap/simulate/CacheSize", "keeps", "(J)Z"⟩ : MethodName)) hown (mvT hZ (hw _ (List.mem_of_getElem? (i := 16) rfl))) (mvT hZ (hw _ (List.mem_of_getElem? (i := 17) rfl))) (notFace_of_selects (args := #[]) (mvT hZ (hw _ (List.mem_of_getElem? (i := 19) rfl)))) (mvT hZ (hw _ (List.mem_of_getElem? (i := 19) rfl))) (mvT hZ (hw _ (List.mem_of_getElem? (i := 18) rfl))) (by decide) (backOf (W := 0) (rm_keeps l Z a0 hw [] a1 oo bb T4.heap n0 Z7 f6) hZ (hw _ (List.mem_of_getElem? (i := 20) rfl)) (hw _ (List.mem_of_getElem? (i := 2) rfl)) (by decide) (by decide)) q8a q8c (g := (mkF m 86 #[.val (.long p0), .second, .val (.long p1), .second, .val (.int p2), .val (.long bb), .second, .val (.int mm), .val (.long oo), .second, .val (.ref a1), .unset, .unset] [(.long oo), (.ref a1)])) rfl (by rw [hml]; rfl) (Steps.refl _) (argsL := [(.long oo)]) (rest := []) (lenOf own_pd__28_J_29_Z rfl) rfl (by show 2 * 0 + _ ≤ _; exact Nat.le_of_eq rfl) (hb hby at_86) (fun _ _ => ⟨rfl, rfl, (by decide : 1 + 0 ≤ _), (by decide : 1 + 0 ≤ _)⟩)
    dsimp only [Pt.U, Pt.locs, Pt.cells, Pt.slots] at X8 l8 y8 z8 st8 hQ8
    subst l8 y8 z8
    obtain ⟨rfl, Nq8, e8⟩ := hQ8
    have N8 := Fr.app N4 Nq8
    refine own_Goes.tr st8 ?_
    show own_Goes p.tables e below P (T8.setTop (mkF m 89 #[.val (.long p0), .second, .val (.long p1), .second, .val (.int p2), .val (.long bb), .second, .val (.int mm), .val (.long oo), .second, .val (.ref a1), .unset, .unset] [(.int (own_keeps bb oo))]))
    refine own_Goes.st ?_ (fun _ k => XS.istore X8.here hx rfl (hb hby at_89) rfl (l' := #[.val (.long p0), .second, .val (.long p1), .second, .val (.int p2), .val (.long bb), .second, .val (.int mm), .val (.long oo), .second, .val (.ref a1), .val (.int (own_keeps bb oo)), .unset]) rfl k)
    show own_Goes p.tables e below P (T8.setTop (mkF m 91 #[.val (.long p0), .second, .val (.long p1), .second, .val (.int p2), .val (.long bb), .second, .val (.int mm), .val (.long oo), .second, .val (.ref a1), .val (.int (own_keeps bb oo)), .unset] []))
    refine own_Goes.st ?_ (fun _ k => XS.lload X8.here hx rfl (hb hby at_91) rfl k)
    show own_Goes p.tables e below P (T8.setTop (mkF m 93 #[.val (.long p0), .second, .val (.long p1), .second, .val (.int p2), .val (.long bb), .second, .val (.int mm), .val (.long oo), .second, .val (.ref a1), .val (.int (own_keeps bb oo)), .unset] [(.long bb)]))
    refine own_Goes.st ?_ (fun _ k => XS.lconst X8.here hx rfl (hb hby at_93) k)
    show own_Goes p.tables e below P (T8.setTop (mkF m 94 #[.val (.long p0), .second, .val (.long p1), .second, .val (.int p2), .val (.long bb), .second, .val (.int mm), .val (.long oo), .second, .val (.ref a1), .val (.int (own_keeps bb oo)), .unset] [(.long (0 : Int64)), (.long bb)]))
    refine own_Goes.st ?_ (fun _ k => XS.lcmp X8.here hx rfl (hb hby at_94) rfl k)
    show own_Goes p.tables e below P (T8.setTop (mkF m 95 #[.val (.long p0), .second, .val (.long p1), .second, .val (.int p2), .val (.long bb), .second, .val (.int mm), .val (.long oo), .second, .val (.ref a1), .val (.int (own_keeps bb oo)), .unset] [(.int (lcmpW bb (0 : Int64)))]))
    by_cases h0 : bb = (0 : Int64)
    · skip
      refine own_Goes.st ?_ (fun _ k => XS.ifYes X8.here hx rfl (pc0 := 95) (pc' := 115) rfl (hb hby at_95) rfl ((if0 _ _).trans (teq ((lw_eq _ _).mpr h0)).1) (by decide) (by decide) k)
      show own_Goes p.tables e below P (T8.setTop (mkF m 115 #[.val (.long p0), .second, .val (.long p1), .second, .val (.int p2), .val (.long bb), .second, .val (.int mm), .val (.long oo), .second, .val (.ref a1), .val (.int (own_keeps bb oo)), .unset] []))
      refine own_Goes.st ?_ (fun _ k => XS.iconst X8.here hx rfl (hb hby at_115) k)
      show own_Goes p.tables e below P (T8.setTop (mkF m 116 #[.val (.long p0), .second, .val (.long p1), .second, .val (.int p2), .val (.long bb), .second, .val (.int mm), .val (.long oo), .second, .val (.ref a1), .val (.int (own_keeps bb oo)), .unset] [(.int (0 : Int32))]))
      refine own_Goes.st ?_ (fun _ k => XS.istore X8.here hx rfl (hb hby at_116) rfl (l' := #[.val (.long p0), .second, .val (.long p1), .second, .val (.int p2), .val (.long bb), .second, .val (.int mm), .val (.long oo), .second, .val (.ref a1), .val (.int (own_keeps bb oo)), .val (.int (0 : Int32))]) rfl k)
      show own_Goes p.tables e below P (T8.setTop (mkF m 118 #[.val (.long p0), .second, .val (.long p1), .second, .val (.int p2), .val (.long bb), .second, .val (.int mm), .val (.long oo), .second, .val (.ref a1), .val (.int (own_keeps bb oo)), .val (.int (0 : Int32))] []))
      rw [own_k0 h0]
      show own_Goes p.tables e below P (T8.setTop (mkF m 118 #[.val (.long p0), .second, .val (.long p1), .second, .val (.int p2), .val (.long bb), .second, .val (.int mm), .val (.long oo), .second, .val (.ref a1), .val (.int (0 : Int32)), .val (.int (0 : Int32))] []))
      refine own_Goes.st ?_ (fun _ k => XS.iload X8.here hx rfl (hb hby at_118) rfl k)
      show own_Goes p.tables e below P (T8.setTop (mkF m 120 #[.val (.long p0), .second, .val (.long p1), .second, .val (.int p2), .val (.long bb), .second, .val (.int mm), .val (.long oo), .second, .val (.ref a1), .val (.int (0 : Int32)), .val (.int (0 : Int32))] [(.int (0 : Int32))]))
      refine own_Goes.st ?_ (fun _ k => XS.iload X8.here hx rfl (hb hby at_120) rfl k)
      show own_Goes p.tables e below P (T8.setTop (mkF m 122 #[.val (.long p0), .second, .val (.long p1), .second, .val (.int p2), .val (.long bb), .second, .val (.int mm), .val (.long oo), .second, .val (.ref a1), .val (.int (0 : Int32)), .val (.int (0 : Int32))] [(.int (0 : Int32)), (.int (0 : Int32))]))
      refine own_Goes.st ?_ (fun _ k => XS.icmpNo X8.here hx rfl (hb hby at_122) rfl (teq (by decide : (0 : Int32) = (0 : Int32))).2 k)
      show own_Goes p.tables e below P (T8.setTop (mkF m 125 #[.val (.long p0), .second, .val (.long p1), .second, .val (.int p2), .val (.long bb), .second, .val (.int mm), .val (.long oo), .second, .val (.ref a1), .val (.int (0 : Int32)), .val (.int (0 : Int32))] []))
      refine own_Goes.st ?_ (fun _ k => XS.iconst X8.here hx rfl (hb hby at_125) k)
      show own_Goes p.tables e below P (T8.setTop (mkF m 126 #[.val (.long p0), .second, .val (.long p1), .second, .val (.int p2), .val (.long bb), .second, .val (.int mm), .val (.long oo), .second, .val (.ref a1), .val (.int (0 : Int32)), .val (.int (0 : Int32))] [(.int (1 : Int32))]))
      refine own_Goes.st ?_ (fun _ k => XS.goto X8.here hx rfl (pc0 := 126) (pc' := 130) rfl (hb hby at_126) (by decide) (by decide) k)
      show own_Goes p.tables e below P (T8.setTop (mkF m 130 #[.val (.long p0), .second, .val (.long p1), .second, .val (.int p2), .val (.long bb), .second, .val (.int mm), .val (.long oo), .second, .val (.ref a1), .val (.int (0 : Int32)), .val (.int (0 : Int32))] [(.int (1 : Int32))]))
      obtain ⟨fs, hr, hrun, hended, hW, hsame⟩ := X8.leave (v := some (.int (1 : Int32))) (fun h => by rw [Bd.returns] at h; cases h)
      exact own_Goes.fin _ _ (retOut X8 hx (t := .boolean) Bd.returns rfl (Or.inl ⟨rfl, Or.inr (Or.inl rfl), _, rfl⟩) (hb hby at_130) hr) (hPP _ _ ⟨hrun, hended, _, _, rfl, (by show Q_law n0 _ _; exact ⟨rfl, N8⟩), ⟨_, rfl⟩, hW, hsame.mono (by decide) (by decide)⟩)
    · skip
      refine own_Goes.st ?_ (fun _ k => XS.ifNo X8.here hx rfl (hb hby at_95) rfl ((if0 _ _).trans (feq (fun q => h0 ((lw_eq _ _).mp q))).1) k)
      show own_Goes p.tables e below P (T8.setTop (mkF m 98 #[.val (.long p0), .second, .val (.long p1), .second, .val (.int p2), .val (.long bb), .second, .val (.int mm), .val (.long oo), .second, .val (.ref a1), .val (.int (own_keeps bb oo)), .unset] []))
      refine own_Goes.st ?_ (fun _ k => XS.lload X8.here hx rfl (hb hby at_98) rfl k)
      show own_Goes p.tables e below P (T8.setTop (mkF m 100 #[.val (.long p0), .second, .val (.long p1), .second, .val (.int p2), .val (.long bb), .second, .val (.int mm), .val (.long oo), .second, .val (.ref a1), .val (.int (own_keeps bb oo)), .unset] [(.long oo)]))
      refine own_Goes.st ?_ (fun _ k => XS.lload X8.here hx rfl (hb hby at_100) rfl k)
      show own_Goes p.tables e below P (T8.setTop (mkF m 102 #[.val (.long p0), .second, .val (.long p1), .second, .val (.int p2), .val (.long bb), .second, .val (.int mm), .val (.long oo), .second, .val (.ref a1), .val (.int (own_keeps bb oo)), .unset] [(.long bb), (.long oo)]))
      obtain ⟨_, _, ⟨T9, L9, k9, n9⟩, -, X9, ⟨Lc9, hQ9, l9, y9, z9⟩, st9⟩ := Jvm.LawKit.callS X8 hx (y := (⟨"java/lang/Math", "max", "(JJ)J"⟩ : MethodName)) hown (mvT hZ (hw _ (List.mem_of_getElem? (i := 22) rfl))) (mvT hZ (hw _ (List.mem_of_getElem? (i := 23) rfl))) (mvT hZ (hw _ (List.mem_of_getElem? (i := 24) rfl))) (mvT hZ (hw _ (List.mem_of_getElem? (i := 25) rfl))) (by decide) (backOf (W := 0) (rm_max l Z a0 hw [] oo bb T4.heap n0 Z7) hZ (hw _ (List.mem_of_getElem? (i := 25) rfl)) (hw _ (List.mem_of_getElem? (i := 24) rfl)) (by decide) (by decide)) (g := (mkF m 102 #[.val (.long p0), .second, .val (.long p1), .second, .val (.int p2), .val (.long bb), .second, .val (.int mm), .val (.long oo), .second, .val (.ref a1), .val (.int (own_keeps bb oo)), .unset] [(.long bb), (.long oo)])) rfl (by rw [hml]; rfl) (argsL := [(.long oo), (.long bb)]) (rest := []) (lenOf own_pd__28_JJ_29_J rfl) rfl (by show 2 * 0 + _ ≤ _; exact Nat.le_of_eq rfl) (hb hby at_102) (fun _ _ => ⟨rfl, e8, (by decide : 1 + 0 ≤ _), (by decide : 1 + 0 ≤ _)⟩)
      dsimp only [Pt.U, Pt.locs, Pt.cells, Pt.slots] at X9 l9 y9 z9 st9 hQ9
      subst l9 y9 z9
      obtain ⟨rfl, Nq9, e9⟩ := hQ9
      have N9 := Fr.app N8 Nq9
      refine own_Goes.st ?_ st9
      show own_Goes p.tables e below P (T9.setTop (mkF m 105 #[.val (.long p0), .second, .val (.long p1), .second, .val (.int p2), .val (.long bb), .second, .val (.int mm), .val (.long oo), .second, .val (.ref a1), .val (.int (own_keeps bb oo)), .unset] [(.long (own_max oo bb))]))
      refine own_Goes.st ?_ (fun _ k => XS.lload X9.here hx rfl (hb hby at_105) rfl k)
      show own_Goes p.tables e below P (T9.setTop (mkF m 107 #[.val (.long p0), .second, .val (.long p1), .second, .val (.int p2), .val (.long bb), .second, .val (.int mm), .val (.long oo), .second, .val (.ref a1), .val (.int (own_keeps bb oo)), .unset] [(.long bb), (.long (own_max oo bb))]))
      refine own_Goes.st ?_ (fun _ k => XS.lcmp X9.here hx rfl (hb hby at_107) rfl k)
      show own_Goes p.tables e below P (T9.setTop (mkF m 108 #[.val (.long p0), .second, .val (.long p1), .second, .val (.int p2), .val (.long bb), .second, .val (.int mm), .val (.long oo), .second, .val (.ref a1), .val (.int (own_keeps bb oo)), .unset] [(.int (lcmpW (own_max oo bb) bb))]))
      by_cases h2 : (own_max oo bb) = bb
      · skip
        refine own_Goes.st ?_ (fun _ k => XS.ifNo X9.here hx rfl (hb hby at_108) rfl ((if0 _ _).trans (teq ((lw_eq _ _).mpr h2)).2) k)
        show own_Goes p.tables e below P (T9.setTop (mkF m 111 #[.val (.long p0), .second, .val (.long p1), .second, .val (.int p2), .val (.long bb), .second, .val (.int mm), .val (.long oo), .second, .val (.ref a1), .val (.int (own_keeps bb oo)), .unset] []))
        refine own_Goes.st ?_ (fun _ k => XS.iconst X9.here hx rfl (hb hby at_111) k)
        show own_Goes p.tables e below P (T9.setTop (mkF m 112 #[.val (.long p0), .second, .val (.long p1), .second, .val (.int p2), .val (.long bb), .second, .val (.int mm), .val (.long oo), .second, .val (.ref a1), .val (.int (own_keeps bb oo)), .unset] [(.int (1 : Int32))]))
        refine own_Goes.st ?_ (fun _ k => XS.goto X9.here hx rfl (pc0 := 112) (pc' := 116) rfl (hb hby at_112) (by decide) (by decide) k)
        show own_Goes p.tables e below P (T9.setTop (mkF m 116 #[.val (.long p0), .second, .val (.long p1), .second, .val (.int p2), .val (.long bb), .second, .val (.int mm), .val (.long oo), .second, .val (.ref a1), .val (.int (own_keeps bb oo)), .unset] [(.int (1 : Int32))]))
        refine own_Goes.st ?_ (fun _ k => XS.istore X9.here hx rfl (hb hby at_116) rfl (l' := #[.val (.long p0), .second, .val (.long p1), .second, .val (.int p2), .val (.long bb), .second, .val (.int mm), .val (.long oo), .second, .val (.ref a1), .val (.int (own_keeps bb oo)), .val (.int (1 : Int32))]) rfl k)
        show own_Goes p.tables e below P (T9.setTop (mkF m 118 #[.val (.long p0), .second, .val (.long p1), .second, .val (.int p2), .val (.long bb), .second, .val (.int mm), .val (.long oo), .second, .val (.ref a1), .val (.int (own_keeps bb oo)), .val (.int (1 : Int32))] []))
        rw [own_k1 hbb h0 h2]
        show own_Goes p.tables e below P (T9.setTop (mkF m 118 #[.val (.long p0), .second, .val (.long p1), .second, .val (.int p2), .val (.long bb), .second, .val (.int mm), .val (.long oo), .second, .val (.ref a1), .val (.int (1 : Int32)), .val (.int (1 : Int32))] []))
        refine own_Goes.st ?_ (fun _ k => XS.iload X9.here hx rfl (hb hby at_118) rfl k)
        show own_Goes p.tables e below P (T9.setTop (mkF m 120 #[.val (.long p0), .second, .val (.long p1), .second, .val (.int p2), .val (.long bb), .second, .val (.int mm), .val (.long oo), .second, .val (.ref a1), .val (.int (1 : Int32)), .val (.int (1 : Int32))] [(.int (1 : Int32))]))
        refine own_Goes.st ?_ (fun _ k => XS.iload X9.here hx rfl (hb hby at_120) rfl k)
        show own_Goes p.tables e below P (T9.setTop (mkF m 122 #[.val (.long p0), .second, .val (.long p1), .second, .val (.int p2), .val (.long bb), .second, .val (.int mm), .val (.long oo), .second, .val (.ref a1), .val (.int (1 : Int32)), .val (.int (1 : Int32))] [(.int (1 : Int32)), (.int (1 : Int32))]))
        refine own_Goes.st ?_ (fun _ k => XS.icmpNo X9.here hx rfl (hb hby at_122) rfl (teq (by decide : (1 : Int32) = (1 : Int32))).2 k)
        show own_Goes p.tables e below P (T9.setTop (mkF m 125 #[.val (.long p0), .second, .val (.long p1), .second, .val (.int p2), .val (.long bb), .second, .val (.int mm), .val (.long oo), .second, .val (.ref a1), .val (.int (1 : Int32)), .val (.int (1 : Int32))] []))
        refine own_Goes.st ?_ (fun _ k => XS.iconst X9.here hx rfl (hb hby at_125) k)
        show own_Goes p.tables e below P (T9.setTop (mkF m 126 #[.val (.long p0), .second, .val (.long p1), .second, .val (.int p2), .val (.long bb), .second, .val (.int mm), .val (.long oo), .second, .val (.ref a1), .val (.int (1 : Int32)), .val (.int (1 : Int32))] [(.int (1 : Int32))]))
        refine own_Goes.st ?_ (fun _ k => XS.goto X9.here hx rfl (pc0 := 126) (pc' := 130) rfl (hb hby at_126) (by decide) (by decide) k)
        show own_Goes p.tables e below P (T9.setTop (mkF m 130 #[.val (.long p0), .second, .val (.long p1), .second, .val (.int p2), .val (.long bb), .second, .val (.int mm), .val (.long oo), .second, .val (.ref a1), .val (.int (1 : Int32)), .val (.int (1 : Int32))] [(.int (1 : Int32))]))
        obtain ⟨fs, hr, hrun, hended, hW, hsame⟩ := X9.leave (v := some (.int (1 : Int32))) (fun h => by rw [Bd.returns] at h; cases h)
        exact own_Goes.fin _ _ (retOut X9 hx (t := .boolean) Bd.returns rfl (Or.inl ⟨rfl, Or.inr (Or.inl rfl), _, rfl⟩) (hb hby at_130) hr) (hPP _ _ ⟨hrun, hended, _, _, rfl, (by show Q_law n0 _ _; exact ⟨rfl, N9⟩), ⟨_, rfl⟩, hW, hsame.mono (by decide) (by decide)⟩)
      · skip
        refine own_Goes.st ?_ (fun _ k => XS.ifYes X9.here hx rfl (pc0 := 108) (pc' := 115) rfl (hb hby at_108) rfl ((if0 _ _).trans (feq (fun q => h2 ((lw_eq _ _).mp q))).2) (by decide) (by decide) k)
        show own_Goes p.tables e below P (T9.setTop (mkF m 115 #[.val (.long p0), .second, .val (.long p1), .second, .val (.int p2), .val (.long bb), .second, .val (.int mm), .val (.long oo), .second, .val (.ref a1), .val (.int (own_keeps bb oo)), .unset] []))
        refine own_Goes.st ?_ (fun _ k => XS.iconst X9.here hx rfl (hb hby at_115) k)
        show own_Goes p.tables e below P (T9.setTop (mkF m 116 #[.val (.long p0), .second, .val (.long p1), .second, .val (.int p2), .val (.long bb), .second, .val (.int mm), .val (.long oo), .second, .val (.ref a1), .val (.int (own_keeps bb oo)), .unset] [(.int (0 : Int32))]))
        refine own_Goes.st ?_ (fun _ k => XS.istore X9.here hx rfl (hb hby at_116) rfl (l' := #[.val (.long p0), .second, .val (.long p1), .second, .val (.int p2), .val (.long bb), .second, .val (.int mm), .val (.long oo), .second, .val (.ref a1), .val (.int (own_keeps bb oo)), .val (.int (0 : Int32))]) rfl k)
        show own_Goes p.tables e below P (T9.setTop (mkF m 118 #[.val (.long p0), .second, .val (.long p1), .second, .val (.int p2), .val (.long bb), .second, .val (.int mm), .val (.long oo), .second, .val (.ref a1), .val (.int (own_keeps bb oo)), .val (.int (0 : Int32))] []))
        rw [own_k2 h2]
        show own_Goes p.tables e below P (T9.setTop (mkF m 118 #[.val (.long p0), .second, .val (.long p1), .second, .val (.int p2), .val (.long bb), .second, .val (.int mm), .val (.long oo), .second, .val (.ref a1), .val (.int (0 : Int32)), .val (.int (0 : Int32))] []))
        refine own_Goes.st ?_ (fun _ k => XS.iload X9.here hx rfl (hb hby at_118) rfl k)
        show own_Goes p.tables e below P (T9.setTop (mkF m 120 #[.val (.long p0), .second, .val (.long p1), .second, .val (.int p2), .val (.long bb), .second, .val (.int mm), .val (.long oo), .second, .val (.ref a1), .val (.int (0 : Int32)), .val (.int (0 : Int32))] [(.int (0 : Int32))]))
        refine own_Goes.st ?_ (fun _ k => XS.iload X9.here hx rfl (hb hby at_120) rfl k)
        show own_Goes p.tables e below P (T9.setTop (mkF m 122 #[.val (.long p0), .second, .val (.long p1), .second, .val (.int p2), .val (.long bb), .second, .val (.int mm), .val (.long oo), .second, .val (.ref a1), .val (.int (0 : Int32)), .val (.int (0 : Int32))] [(.int (0 : Int32)), (.int (0 : Int32))]))
        refine own_Goes.st ?_ (fun _ k => XS.icmpNo X9.here hx rfl (hb hby at_122) rfl (teq (by decide : (0 : Int32) = (0 : Int32))).2 k)
        show own_Goes p.tables e below P (T9.setTop (mkF m 125 #[.val (.long p0), .second, .val (.long p1), .second, .val (.int p2), .val (.long bb), .second, .val (.int mm), .val (.long oo), .second, .val (.ref a1), .val (.int (0 : Int32)), .val (.int (0 : Int32))] []))
        refine own_Goes.st ?_ (fun _ k => XS.iconst X9.here hx rfl (hb hby at_125) k)
        show own_Goes p.tables e below P (T9.setTop (mkF m 126 #[.val (.long p0), .second, .val (.long p1), .second, .val (.int p2), .val (.long bb), .second, .val (.int mm), .val (.long oo), .second, .val (.ref a1), .val (.int (0 : Int32)), .val (.int (0 : Int32))] [(.int (1 : Int32))]))
        refine own_Goes.st ?_ (fun _ k => XS.goto X9.here hx rfl (pc0 := 126) (pc' := 130) rfl (hb hby at_126) (by decide) (by decide) k)
        show own_Goes p.tables e below P (T9.setTop (mkF m 130 #[.val (.long p0), .second, .val (.long p1), .second, .val (.int p2), .val (.long bb), .second, .val (.int mm), .val (.long oo), .second, .val (.ref a1), .val (.int (0 : Int32)), .val (.int (0 : Int32))] [(.int (1 : Int32))]))
        obtain ⟨fs, hr, hrun, hended, hW, hsame⟩ := X9.leave (v := some (.int (1 : Int32))) (fun h => by rw [Bd.returns] at h; cases h)
        exact own_Goes.fin _ _ (retOut X9 hx (t := .boolean) Bd.returns rfl (Or.inl ⟨rfl, Or.inr (Or.inl rfl), _, rfl⟩) (hb hby at_130) hr) (hPP _ _ ⟨hrun, hended, _, _, rfl, (by show Q_law n0 _ _; exact ⟨rfl, N9⟩), ⟨_, rfl⟩, hW, hsame.mono (by decide) (by decide)⟩)
  have J26 : ∀ (bb : Int64) (mm : Int32) (_ : ¬ bb < 0), own_Goes p.tables e below P (s₁.setTop (mkF m 26 #[.val (.long p0), .second, .val (.long p1), .second, .val (.int p2), .val (.long bb), .second, .val (.int mm), .unset, .unset, .unset, .unset, .unset] [])) := by
    intro bb mm hbb
    refine own_Goes.st ?_ (fun _ k => XS.iload X0.here hx rfl (hb hby at_26) rfl k)
    show own_Goes p.tables e below P (s₁.setTop (mkF m 28 #[.val (.long p0), .second, .val (.long p1), .second, .val (.int p2), .val (.long bb), .second, .val (.int mm), .unset, .unset, .unset, .unset, .unset] [(.int mm)]))
    by_cases h1 : mm = (0 : Int32)
    · skip
      refine own_Goes.st ?_ (fun _ k => XS.ifNo X0.here hx rfl (hb hby at_28) rfl ((if0 _ _).trans (teq h1).2) k)
      show own_Goes p.tables e below P (s₁.setTop (mkF m 31 #[.val (.long p0), .second, .val (.long p1), .second, .val (.int p2), .val (.long bb), .second, .val (.int mm), .unset, .unset, .unset, .unset, .unset] []))
      refine own_Goes.st ?_ (fun _ k => XS.lloadN X0.here hx rfl (hb hby at_31) rfl k)
      show own_Goes p.tables e below P (s₁.setTop (mkF m 32 #[.val (.long p0), .second, .val (.long p1), .second, .val (.int p2), .val (.long bb), .second, .val (.int mm), .unset, .unset, .unset, .unset, .unset] [(.long p1)]))
      refine own_Goes.st ?_ (fun _ k => XS.lstore X0.here hx rfl (hb hby at_32) rfl (l' := #[.val (.long p0), .second, .val (.long p1), .second, .val (.int p2), .val (.long bb), .second, .val (.int mm), .val (.long p1), .second, .unset, .unset, .unset]) rfl k)
      show own_Goes p.tables e below P (s₁.setTop (mkF m 34 #[.val (.long p0), .second, .val (.long p1), .second, .val (.int p2), .val (.long bb), .second, .val (.int mm), .val (.long p1), .second, .unset, .unset, .unset] []))
      refine own_Goes.st ?_ (fun _ k => XS.goto X0.here hx rfl (pc0 := 34) (pc' := 71) rfl (hb hby at_34) (by decide) (by decide) k)
      show own_Goes p.tables e below P (s₁.setTop (mkF m 71 #[.val (.long p0), .second, .val (.long p1), .second, .val (.int p2), .val (.long bb), .second, .val (.int mm), .val (.long p1), .second, .unset, .unset, .unset] []))
      exact (J71 _ _ _ hbb)
    · skip
      refine own_Goes.st ?_ (fun _ k => XS.ifYes X0.here hx rfl (pc0 := 28) (pc' := 37) rfl (hb hby at_28) rfl ((if0 _ _).trans (feq h1).2) (by decide) (by decide) k)
      show own_Goes p.tables e below P (s₁.setTop (mkF m 37 #[.val (.long p0), .second, .val (.long p1), .second, .val (.int p2), .val (.long bb), .second, .val (.int mm), .unset, .unset, .unset, .unset, .unset] []))
      refine own_Goes.st ?_ (fun _ k => XS.iload X0.here hx rfl (hb hby at_37) rfl k)
      show own_Goes p.tables e below P (s₁.setTop (mkF m 39 #[.val (.long p0), .second, .val (.long p1), .second, .val (.int p2), .val (.long bb), .second, .val (.int mm), .unset, .unset, .unset, .unset, .unset] [(.int mm)]))
      refine own_Goes.st ?_ (fun _ k => XS.iconst X0.here hx rfl (hb hby at_39) k)
      show own_Goes p.tables e below P (s₁.setTop (mkF m 40 #[.val (.long p0), .second, .val (.long p1), .second, .val (.int p2), .val (.long bb), .second, .val (.int mm), .unset, .unset, .unset, .unset, .unset] [(.int (1 : Int32)), (.int mm)]))
      by_cases h2 : mm = (1 : Int32)
      · skip
        refine own_Goes.st ?_ (fun _ k => XS.icmpNo X0.here hx rfl (hb hby at_40) rfl (teq h2).2 k)
        show own_Goes p.tables e below P (s₁.setTop (mkF m 43 #[.val (.long p0), .second, .val (.long p1), .second, .val (.int p2), .val (.long bb), .second, .val (.int mm), .unset, .unset, .unset, .unset, .unset] []))
        refine own_Goes.st ?_ (fun _ k => XS.lload X0.here hx rfl (hb hby at_43) rfl k)
        show own_Goes p.tables e below P (s₁.setTop (mkF m 45 #[.val (.long p0), .second, .val (.long p1), .second, .val (.int p2), .val (.long bb), .second, .val (.int mm), .unset, .unset, .unset, .unset, .unset] [(.long bb)]))
        refine own_Goes.st ?_ (fun _ k => XS.lstore X0.here hx rfl (hb hby at_45) rfl (l' := #[.val (.long p0), .second, .val (.long p1), .second, .val (.int p2), .val (.long bb), .second, .val (.int mm), .val (.long bb), .second, .unset, .unset, .unset]) rfl k)
        show own_Goes p.tables e below P (s₁.setTop (mkF m 47 #[.val (.long p0), .second, .val (.long p1), .second, .val (.int p2), .val (.long bb), .second, .val (.int mm), .val (.long bb), .second, .unset, .unset, .unset] []))
        refine own_Goes.st ?_ (fun _ k => XS.goto X0.here hx rfl (pc0 := 47) (pc' := 71) rfl (hb hby at_47) (by decide) (by decide) k)
        show own_Goes p.tables e below P (s₁.setTop (mkF m 71 #[.val (.long p0), .second, .val (.long p1), .second, .val (.int p2), .val (.long bb), .second, .val (.int mm), .val (.long bb), .second, .unset, .unset, .unset] []))
        exact (J71 _ _ _ hbb)
      · skip
        refine own_Goes.st ?_ (fun _ k => XS.icmpYes X0.here hx rfl (pc0 := 40) (pc' := 50) rfl (hb hby at_40) rfl (feq h2).2 (by decide) (by decide) k)
        show own_Goes p.tables e below P (s₁.setTop (mkF m 50 #[.val (.long p0), .second, .val (.long p1), .second, .val (.int p2), .val (.long bb), .second, .val (.int mm), .unset, .unset, .unset, .unset, .unset] []))
        refine own_Goes.st ?_ (fun _ k => XS.iload X0.here hx rfl (hb hby at_50) rfl k)
        show own_Goes p.tables e below P (s₁.setTop (mkF m 52 #[.val (.long p0), .second, .val (.long p1), .second, .val (.int p2), .val (.long bb), .second, .val (.int mm), .unset, .unset, .unset, .unset, .unset] [(.int mm)]))
        refine own_Goes.st ?_ (fun _ k => XS.iconst X0.here hx rfl (hb hby at_52) k)
        show own_Goes p.tables e below P (s₁.setTop (mkF m 53 #[.val (.long p0), .second, .val (.long p1), .second, .val (.int p2), .val (.long bb), .second, .val (.int mm), .unset, .unset, .unset, .unset, .unset] [(.int (2 : Int32)), (.int mm)]))
        by_cases h3 : mm = (2 : Int32)
        · skip
          refine own_Goes.st ?_ (fun _ k => XS.icmpNo X0.here hx rfl (hb hby at_53) rfl (teq h3).2 k)
          show own_Goes p.tables e below P (s₁.setTop (mkF m 56 #[.val (.long p0), .second, .val (.long p1), .second, .val (.int p2), .val (.long bb), .second, .val (.int mm), .unset, .unset, .unset, .unset, .unset] []))
          refine own_Goes.st ?_ (fun _ k => XS.lload X0.here hx rfl (hb hby at_56) rfl k)
          show own_Goes p.tables e below P (s₁.setTop (mkF m 58 #[.val (.long p0), .second, .val (.long p1), .second, .val (.int p2), .val (.long bb), .second, .val (.int mm), .unset, .unset, .unset, .unset, .unset] [(.long bb)]))
          refine own_Goes.st ?_ (fun _ k => XS.lconst X0.here hx rfl (hb hby at_58) k)
          show own_Goes p.tables e below P (s₁.setTop (mkF m 59 #[.val (.long p0), .second, .val (.long p1), .second, .val (.int p2), .val (.long bb), .second, .val (.int mm), .unset, .unset, .unset, .unset, .unset] [(.long (1 : Int64)), (.long bb)]))
          refine own_Goes.st ?_ (fun _ k => XS.ladd X0.here hx rfl (hb hby at_59) rfl k)
          show own_Goes p.tables e below P (s₁.setTop (mkF m 60 #[.val (.long p0), .second, .val (.long p1), .second, .val (.int p2), .val (.long bb), .second, .val (.int mm), .unset, .unset, .unset, .unset, .unset] [(.long (bb + (1 : Int64)))]))
          refine own_Goes.st ?_ (fun _ k => XS.lstore X0.here hx rfl (hb hby at_60) rfl (l' := #[.val (.long p0), .second, .val (.long p1), .second, .val (.int p2), .val (.long bb), .second, .val (.int mm), .val (.long (bb + (1 : Int64))), .second, .unset, .unset, .unset]) rfl k)
          show own_Goes p.tables e below P (s₁.setTop (mkF m 62 #[.val (.long p0), .second, .val (.long p1), .second, .val (.int p2), .val (.long bb), .second, .val (.int mm), .val (.long (bb + (1 : Int64))), .second, .unset, .unset, .unset] []))
          refine own_Goes.st ?_ (fun _ k => XS.goto X0.here hx rfl (pc0 := 62) (pc' := 71) rfl (hb hby at_62) (by decide) (by decide) k)
          show own_Goes p.tables e below P (s₁.setTop (mkF m 71 #[.val (.long p0), .second, .val (.long p1), .second, .val (.int p2), .val (.long bb), .second, .val (.int mm), .val (.long (bb + (1 : Int64))), .second, .unset, .unset, .unset] []))
          exact (J71 _ _ _ hbb)
        · skip
          refine own_Goes.st ?_ (fun _ k => XS.icmpYes X0.here hx rfl (pc0 := 53) (pc' := 65) rfl (hb hby at_53) rfl (feq h3).2 (by decide) (by decide) k)
          show own_Goes p.tables e below P (s₁.setTop (mkF m 65 #[.val (.long p0), .second, .val (.long p1), .second, .val (.int p2), .val (.long bb), .second, .val (.int mm), .unset, .unset, .unset, .unset, .unset] []))
          refine own_Goes.st ?_ (fun _ k => XS.lload X0.here hx rfl (hb hby at_65) rfl k)
          show own_Goes p.tables e below P (s₁.setTop (mkF m 67 #[.val (.long p0), .second, .val (.long p1), .second, .val (.int p2), .val (.long bb), .second, .val (.int mm), .unset, .unset, .unset, .unset, .unset] [(.long bb)]))
          refine own_Goes.st ?_ (fun _ k => XS.lconst X0.here hx rfl (hb hby at_67) k)
          show own_Goes p.tables e below P (s₁.setTop (mkF m 68 #[.val (.long p0), .second, .val (.long p1), .second, .val (.int p2), .val (.long bb), .second, .val (.int mm), .unset, .unset, .unset, .unset, .unset] [(.long (1 : Int64)), (.long bb)]))
          refine own_Goes.st ?_ (fun _ k => XS.lsub X0.here hx rfl (hb hby at_68) rfl k)
          show own_Goes p.tables e below P (s₁.setTop (mkF m 69 #[.val (.long p0), .second, .val (.long p1), .second, .val (.int p2), .val (.long bb), .second, .val (.int mm), .unset, .unset, .unset, .unset, .unset] [(.long (bb - (1 : Int64)))]))
          refine own_Goes.st ?_ (fun _ k => XS.lstore X0.here hx rfl (hb hby at_69) rfl (l' := #[.val (.long p0), .second, .val (.long p1), .second, .val (.int p2), .val (.long bb), .second, .val (.int mm), .val (.long (bb - (1 : Int64))), .second, .unset, .unset, .unset]) rfl k)
          show own_Goes p.tables e below P (s₁.setTop (mkF m 71 #[.val (.long p0), .second, .val (.long p1), .second, .val (.int p2), .val (.long bb), .second, .val (.int mm), .val (.long (bb - (1 : Int64))), .second, .unset, .unset, .unset] []))
          exact (J71 _ _ _ hbb)
  refine own_Goes.st ?_ (fun _ k => XS.iload X0.here hx rfl (hb hby at_0) rfl k)
  show own_Goes p.tables e below P (s₁.setTop (mkF m 2 #[.val (.long p0), .second, .val (.long p1), .second, .val (.int p2), .unset, .unset, .unset, .unset, .unset, .unset, .unset, .unset] [(.int p2)]))
  refine own_Goes.st ?_ (fun _ k => XS.iconst X0.here hx rfl (hb hby at_2) k)
  show own_Goes p.tables e below P (s₁.setTop (mkF m 3 #[.val (.long p0), .second, .val (.long p1), .second, .val (.int p2), .unset, .unset, .unset, .unset, .unset, .unset, .unset, .unset] [(.int (3 : Int32)), (.int p2)]))
  refine own_Goes.st ?_ (fun _ k => XS.iand X0.here hx rfl (hb hby at_3) rfl k)
  show own_Goes p.tables e below P (s₁.setTop (mkF m 4 #[.val (.long p0), .second, .val (.long p1), .second, .val (.int p2), .unset, .unset, .unset, .unset, .unset, .unset, .unset, .unset] [(.int (p2 &&& (3 : Int32)))]))
  by_cases h1 : (p2 &&& (3 : Int32)) = (0 : Int32)
  · skip
    refine own_Goes.st ?_ (fun _ k => XS.ifNo X0.here hx rfl (hb hby at_4) rfl ((if0 _ _).trans (teq h1).2) k)
    show own_Goes p.tables e below P (s₁.setTop (mkF m 7 #[.val (.long p0), .second, .val (.long p1), .second, .val (.int p2), .unset, .unset, .unset, .unset, .unset, .unset, .unset, .unset] []))
    refine own_Goes.st ?_ (fun _ k => XS.lconst X0.here hx rfl (hb hby at_7) k)
    show own_Goes p.tables e below P (s₁.setTop (mkF m 8 #[.val (.long p0), .second, .val (.long p1), .second, .val (.int p2), .unset, .unset, .unset, .unset, .unset, .unset, .unset, .unset] [(.long (0 : Int64))]))
    refine own_Goes.st ?_ (fun _ k => XS.goto X0.here hx rfl (pc0 := 8) (pc' := 16) rfl (hb hby at_8) (by decide) (by decide) k)
    show own_Goes p.tables e below P (s₁.setTop (mkF m 16 #[.val (.long p0), .second, .val (.long p1), .second, .val (.int p2), .unset, .unset, .unset, .unset, .unset, .unset, .unset, .unset] [(.long (0 : Int64))]))
    refine own_Goes.st ?_ (fun _ k => XS.lstore X0.here hx rfl (hb hby at_16) rfl (l' := #[.val (.long p0), .second, .val (.long p1), .second, .val (.int p2), .val (.long (0 : Int64)), .second, .unset, .unset, .unset, .unset, .unset, .unset]) rfl k)
    show own_Goes p.tables e below P (s₁.setTop (mkF m 18 #[.val (.long p0), .second, .val (.long p1), .second, .val (.int p2), .val (.long (0 : Int64)), .second, .unset, .unset, .unset, .unset, .unset, .unset] []))
    refine own_Goes.st ?_ (fun _ k => XS.iload X0.here hx rfl (hb hby at_18) rfl k)
    show own_Goes p.tables e below P (s₁.setTop (mkF m 20 #[.val (.long p0), .second, .val (.long p1), .second, .val (.int p2), .val (.long (0 : Int64)), .second, .unset, .unset, .unset, .unset, .unset, .unset] [(.int p2)]))
    refine own_Goes.st ?_ (fun _ k => XS.iconst X0.here hx rfl (hb hby at_20) k)
    show own_Goes p.tables e below P (s₁.setTop (mkF m 21 #[.val (.long p0), .second, .val (.long p1), .second, .val (.int p2), .val (.long (0 : Int64)), .second, .unset, .unset, .unset, .unset, .unset, .unset] [(.int (2 : Int32)), (.int p2)]))
    refine own_Goes.st ?_ (fun _ k => XS.iushr X0.here hx rfl (hb hby at_21) rfl k)
    show own_Goes p.tables e below P (s₁.setTop (mkF m 22 #[.val (.long p0), .second, .val (.long p1), .second, .val (.int p2), .val (.long (0 : Int64)), .second, .unset, .unset, .unset, .unset, .unset, .unset] [(.int (((p2).toUInt32 >>> ((2 : Int32) &&& 31).toUInt32).toInt32))]))
    refine own_Goes.st ?_ (fun _ k => XS.iconst X0.here hx rfl (hb hby at_22) k)
    show own_Goes p.tables e below P (s₁.setTop (mkF m 23 #[.val (.long p0), .second, .val (.long p1), .second, .val (.int p2), .val (.long (0 : Int64)), .second, .unset, .unset, .unset, .unset, .unset, .unset] [(.int (3 : Int32)), (.int (((p2).toUInt32 >>> ((2 : Int32) &&& 31).toUInt32).toInt32))]))
    refine own_Goes.st ?_ (fun _ k => XS.iand X0.here hx rfl (hb hby at_23) rfl k)
    show own_Goes p.tables e below P (s₁.setTop (mkF m 24 #[.val (.long p0), .second, .val (.long p1), .second, .val (.int p2), .val (.long (0 : Int64)), .second, .unset, .unset, .unset, .unset, .unset, .unset] [(.int ((((p2).toUInt32 >>> ((2 : Int32) &&& 31).toUInt32).toInt32) &&& (3 : Int32)))]))
    refine own_Goes.st ?_ (fun _ k => XS.istore X0.here hx rfl (hb hby at_24) rfl (l' := #[.val (.long p0), .second, .val (.long p1), .second, .val (.int p2), .val (.long (0 : Int64)), .second, .val (.int ((((p2).toUInt32 >>> ((2 : Int32) &&& 31).toUInt32).toInt32) &&& (3 : Int32))), .unset, .unset, .unset, .unset, .unset]) rfl k)
    show own_Goes p.tables e below P (s₁.setTop (mkF m 26 #[.val (.long p0), .second, .val (.long p1), .second, .val (.int p2), .val (.long (0 : Int64)), .second, .val (.int ((((p2).toUInt32 >>> ((2 : Int32) &&& 31).toUInt32).toInt32) &&& (3 : Int32))), .unset, .unset, .unset, .unset, .unset] []))
    exact (J26 _ _ (by decide))
  · skip
    refine own_Goes.st ?_ (fun _ k => XS.ifYes X0.here hx rfl (pc0 := 4) (pc' := 11) rfl (hb hby at_4) rfl ((if0 _ _).trans (feq h1).2) (by decide) (by decide) k)
    show own_Goes p.tables e below P (s₁.setTop (mkF m 11 #[.val (.long p0), .second, .val (.long p1), .second, .val (.int p2), .unset, .unset, .unset, .unset, .unset, .unset, .unset, .unset] []))
    refine own_Goes.st ?_ (fun _ k => XS.lloadN X0.here hx rfl (hb hby at_11) rfl k)
    show own_Goes p.tables e below P (s₁.setTop (mkF m 12 #[.val (.long p0), .second, .val (.long p1), .second, .val (.int p2), .unset, .unset, .unset, .unset, .unset, .unset, .unset, .unset] [(.long p0)]))
    refine own_Goes.st ?_ (X0.ldc2Long hx hown (mvT hZ (hw _ (List.mem_of_getElem? (i := 21) rfl))) (g := (mkF m 12 #[.val (.long p0), .second, .val (.long p1), .second, .val (.int p2), .unset, .unset, .unset, .unset, .unset, .unset, .unset, .unset] [(.long p0)])) rfl (hb hby at_12))
    show own_Goes p.tables e below P (s₁.setTop (mkF m 15 #[.val (.long p0), .second, .val (.long p1), .second, .val (.int p2), .unset, .unset, .unset, .unset, .unset, .unset, .unset, .unset] [(.long (9223372036854775807 : Int64)), (.long p0)]))
    refine own_Goes.st ?_ (fun _ k => XS.land X0.here hx rfl (hb hby at_15) rfl k)
    show own_Goes p.tables e below P (s₁.setTop (mkF m 16 #[.val (.long p0), .second, .val (.long p1), .second, .val (.int p2), .unset, .unset, .unset, .unset, .unset, .unset, .unset, .unset] [(.long (p0 &&& (9223372036854775807 : Int64)))]))
    refine own_Goes.st ?_ (fun _ k => XS.lstore X0.here hx rfl (hb hby at_16) rfl (l' := #[.val (.long p0), .second, .val (.long p1), .second, .val (.int p2), .val (.long (p0 &&& (9223372036854775807 : Int64))), .second, .unset, .unset, .unset, .unset, .unset, .unset]) rfl k)
    show own_Goes p.tables e below P (s₁.setTop (mkF m 18 #[.val (.long p0), .second, .val (.long p1), .second, .val (.int p2), .val (.long (p0 &&& (9223372036854775807 : Int64))), .second, .unset, .unset, .unset, .unset, .unset, .unset] []))
    refine own_Goes.st ?_ (fun _ k => XS.iload X0.here hx rfl (hb hby at_18) rfl k)
    show own_Goes p.tables e below P (s₁.setTop (mkF m 20 #[.val (.long p0), .second, .val (.long p1), .second, .val (.int p2), .val (.long (p0 &&& (9223372036854775807 : Int64))), .second, .unset, .unset, .unset, .unset, .unset, .unset] [(.int p2)]))
    refine own_Goes.st ?_ (fun _ k => XS.iconst X0.here hx rfl (hb hby at_20) k)
    show own_Goes p.tables e below P (s₁.setTop (mkF m 21 #[.val (.long p0), .second, .val (.long p1), .second, .val (.int p2), .val (.long (p0 &&& (9223372036854775807 : Int64))), .second, .unset, .unset, .unset, .unset, .unset, .unset] [(.int (2 : Int32)), (.int p2)]))
    refine own_Goes.st ?_ (fun _ k => XS.iushr X0.here hx rfl (hb hby at_21) rfl k)
    show own_Goes p.tables e below P (s₁.setTop (mkF m 22 #[.val (.long p0), .second, .val (.long p1), .second, .val (.int p2), .val (.long (p0 &&& (9223372036854775807 : Int64))), .second, .unset, .unset, .unset, .unset, .unset, .unset] [(.int (((p2).toUInt32 >>> ((2 : Int32) &&& 31).toUInt32).toInt32))]))
    refine own_Goes.st ?_ (fun _ k => XS.iconst X0.here hx rfl (hb hby at_22) k)
    show own_Goes p.tables e below P (s₁.setTop (mkF m 23 #[.val (.long p0), .second, .val (.long p1), .second, .val (.int p2), .val (.long (p0 &&& (9223372036854775807 : Int64))), .second, .unset, .unset, .unset, .unset, .unset, .unset] [(.int (3 : Int32)), (.int (((p2).toUInt32 >>> ((2 : Int32) &&& 31).toUInt32).toInt32))]))
    refine own_Goes.st ?_ (fun _ k => XS.iand X0.here hx rfl (hb hby at_23) rfl k)
    show own_Goes p.tables e below P (s₁.setTop (mkF m 24 #[.val (.long p0), .second, .val (.long p1), .second, .val (.int p2), .val (.long (p0 &&& (9223372036854775807 : Int64))), .second, .unset, .unset, .unset, .unset, .unset, .unset] [(.int ((((p2).toUInt32 >>> ((2 : Int32) &&& 31).toUInt32).toInt32) &&& (3 : Int32)))]))
    refine own_Goes.st ?_ (fun _ k => XS.istore X0.here hx rfl (hb hby at_24) rfl (l' := #[.val (.long p0), .second, .val (.long p1), .second, .val (.int p2), .val (.long (p0 &&& (9223372036854775807 : Int64))), .second, .val (.int ((((p2).toUInt32 >>> ((2 : Int32) &&& 31).toUInt32).toInt32) &&& (3 : Int32))), .unset, .unset, .unset, .unset, .unset]) rfl k)
    show own_Goes p.tables e below P (s₁.setTop (mkF m 26 #[.val (.long p0), .second, .val (.long p1), .second, .val (.int p2), .val (.long (p0 &&& (9223372036854775807 : Int64))), .second, .val (.int ((((p2).toUInt32 >>> ((2 : Int32) &&& 31).toUInt32).toInt32) &&& (3 : Int32))), .unset, .unset, .unset, .unset, .unset] []))
    exact (J26 _ _ (own_nn p0))
set_option maxRecDepth 65536 in
set_option maxHeartbeats 40000000 in
theorem comes_1 {Post : Tables → Env → Array Value → State → Outcome → State → Prop} (hpost : ∀ tb e args s v u, (limb_1_1.after args s (.returned v) u = true ∧ limb_1_2.after args s (.returned v) u = true ∧ True) → FrameEnd s (.returned v) u (Jvm.fieldLocs frame_1_writes args s ++ Jvm.arrayLocs frame_1_arrays args s ++ Jvm.staticLocs frame_1_statics s) 16 128 → Post tb e args s (.returned v) u) :
    ArmFor flags0 classFile x code maxLocals ret World_1 tables_1 room_1 Calls_1 rest_1 Pre_1 Post := by
  intro l hfl _ _ p e ha hc hk s m args below hf hA hF happ hP
  obtain ⟨hcalls, hrest, hpre⟩ := hP
  obtain ⟨-, -, -, hnamed, -, -, -, hat⟩ := (Spec.applies_iff hf).mp happ
  obtain ⟨hg, hn⟩ := and_e (Cond.before_iff.mp (show (Jvm.Cond.and given_1 narrow_1).before args s = true from hpre))
  obtain ⟨hg0, hg1⟩ := and_e hg
  obtain ⟨hv0, hr0⟩ := and_e hg1
  obtain ⟨hv1, hr1⟩ := and_e hr0
  obtain ⟨w0, w1, w2, rfl⟩ : ∃ w0 w1 w2 : Value, args = #[w0, w1, w2] := by
    have hs : args.size = 3 := by simpa [Cond.value, given_1] using hg0
    obtain ⟨L⟩ := args
    match L, hs with
    | [w0, w1, w2], _ => exact ⟨w0, w1, w2, rfl⟩
  have hw := fun d (hd : d ∈ tables_1) => atoms_spec (ws := Jvm.Cond.code x code maxLocals ret :: tables_1) hat d (List.mem_cons_of_mem _ hd)
  have hfit : Fit s := fun {y c} hc i hi => by
    obtain ⟨ha, rfl⟩ := Array.getElem?_eq_some_iff.mp hc
    have q := List.all_eq_true.mp ((Array.all_eq_true_iff_forall_mem.mp hF) _ (Array.getElem_mem ha)) i (List.mem_range.mpr hi)
    simpa [Array.getElem?_eq_getElem hi] using q
  obtain ⟨i0, ei0⟩ := isL_v hv0
  obtain rfl : w0 = (.long i0) := Option.some.inj ei0
  obtain ⟨i1, ei1⟩ := isL_v hv1
  obtain rfl : w1 = (.long i1) := Option.some.inj ei1
  obtain ⟨i2, ei2⟩ := is_v hr1
  obtain rfl : w2 = (.int i2) := Option.some.inj ei2
  obtain ⟨n, o, h1, h2, h3, _, L, rfl, ⟨rfl, N⟩, hq⟩ := rm_law l s _ hw tables_1 i0 i1 i2  s.heap s.heap.size (Nat.le_refl _)  p e ha hc hk s m _ below hf ((Spec.applies_iff_loose hf).mp happ).1 ⟨rfl, State.Warmed39.refl s, rfl⟩ trivial
  refine ⟨n, _, h1, h2, h3, hpost _ _ _ _ _ _ ⟨Cond.after_iff.mpr rfl, Cond.after_iff.mpr (eq_i res_at (Term.int_eval (1)) rfl), trivial⟩ ⟨hq.1, hq.2.1, (hq.2.2.sift fun y hy => Or.inr (N y hy)).mono (by decide) (by decide)⟩⟩
theorem main_1_1 : Claimed_1_1 := comes_1 fun _ _ _ _ _ _ h hF => ⟨h.1, hF⟩
theorem main_1_2 : Claimed_1_2 := comes_1 fun _ _ _ _ _ _ h hF => ⟨h.2.1, hF⟩
end Jvm.Pilot.@@N@@
namespace Jvm.Pilot.@@N@@
open Jvm Jvm.ClassFile Sem Op Lib Jvm.Free Jvm.Stand Jvm.Pilot.@@N@@.Jvm.D
/-! MADE BY PROGRAM (witnessworld.py) out of the Statement's table words and the real class files: 11 classes; the members and pool entries that the words name. The judged class is class 1, her method 1. -/
namespace start1
open Jvm.ClassFile
def u (s : String) : CpInfo := .utf8 (stringToUtf16 s)
/-- a pool by its gaps: so many unusable entries, then the entry; so many at the end -/
def gap : Nat → List CpInfo → List CpInfo
  | 0, r => r
  | n + 1, r => .unusable :: gap n r
def poolList (es : List (Nat × CpInfo)) (last : Nat) : List CpInfo := es.foldr (fun e r => gap e.1 (e.2 :: r)) (gap last [])
def pool (es : List (Nat × CpInfo)) (last : Nat) : Array CpInfo := ⟨poolList es last⟩
def fileOf (pool : Array CpInfo) (this : Nat) (attrs : Array Attribute := #[]) (ms : Array MethodInfo := #[]) (fl : Nat := 33) (sup : Nat := 0) (ifs : Array Nat := #[]) (fds : Array FieldInfo := #[]) : ClassFile where
  minorVersion := 0
  majorVersion := 65
  constantPool := pool
  accessFlags := fl
  thisClass := this
  superClass := sup
  interfaces := ifs
  fields := fds
  methods := ms
  attributes := attrs
def plain (name : String) (sup : Option ClassId) : Class where
  name := name
  kind := .ordinary
  loader := none
  accessFlags := 33
  super := sup
  interfaces := #[]
  cf := none
  fields := #[]
  methods := #[]
  instanceTypes := #[]
  staticTypes := #[]
  resolved := #[]
  callSites := []
  init := .initialized
  statics := none
  mirror := none

def pool0 : Array CpInfo := pool [(5, u "<init>"), (0, u "()V"), (1, .class_ 10), (1, u "java/lang/Object")] 113

def k0c0 : Code := { maxStack := 0, maxLocals := 1, code := object_method_1_code, exceptionTable := #[], attributes := #[] }
def k0m0 : Method := { name := "<init>", desc := "()V", sig := { parameters := [], returnType := none }, accessFlags := 1, code := some k0c0 }
/-- java/lang/Object -/
def k0 : Class := { plain "java/lang/Object" none with
  accessFlags := 33
  interfaces := #[]
  cf := some (fileOf pool0 8 #[] #[{ accessFlags := 1, nameIndex := 5, descriptorIndex := 6, attributes := #[] }] 33 0 #[] #[])
  fields := #[]
  methods := #[k0m0]
  instanceTypes := #[]
  staticTypes := #[]
  resolved := Array.replicate 124 none
  statics := none }

def pool1 : Array CpInfo := pool [(2, .class_ 4), (1, u "java/lang/Object"), (0, u "<init>"), (0, u "()V"), (2, .long 9223372036854775807), (1, .class_ 12), (0, u "com/example/pushmap/pushmap/simulate/CacheSize"), (0, .methodref 11 14), (0, .nameAndType 5 15), (0, u "(J)V"), (0, .methodref 11 17), (0, .nameAndType 18 19), (0, u "keeps"), (0, u "(J)Z"), (0, .methodref 21 22), (0, .class_ 23), (0, .nameAndType 24 25), (0, u "java/lang/Math"), (0, u "max"), (0, u "(JJ)J"), (0, .class_ 27), (0, u "com/example/pushmap/pushmap/simulate/CacheSizeKeepsPinLaw"), (2, u "law"), (0, u "(JJI)Z")] 3

def k1m0 : Method := { name := "<init>", desc := "()V", sig := { parameters := [], returnType := none }, accessFlags := 1, code := none }
def k1c1 : Code := { maxStack := 4, maxLocals := 13, code := code, exceptionTable := #[], attributes := #[] }
def k1m1 : Method := { name := "law", desc := "(JJI)Z", sig := { parameters := [.long, .long, .int], returnType := some .boolean }, accessFlags := 9, code := some k1c1 }
/-- com/example/pushmap/pushmap/simulate/CacheSizeKeepsPinLaw -/
def k1 : Class := { plain "com/example/pushmap/pushmap/simulate/CacheSizeKeepsPinLaw" (some 0) with
  accessFlags := 49
  interfaces := #[]
  cf := some (fileOf pool1 26 #[] #[{ accessFlags := 1, nameIndex := 5, descriptorIndex := 6, attributes := #[] }, { accessFlags := 9, nameIndex := 30, descriptorIndex := 31, attributes := #[] }] 49 2 #[] #[])
  fields := #[]
  methods := #[k1m0, k1m1]
  instanceTypes := #[]
  staticTypes := #[]
  resolved := Array.replicate 35 none
  statics := none }

def pool2 : Array CpInfo := pool [(1, .methodref 2 3), (0, .class_ 4), (0, .nameAndType 5 6), (0, u "java/lang/Object"), (0, u "<init>"), (0, u "()V"), (0, .class_ 8), (0, u "java/lang/Record")] 13

def k2c0 : Code := { maxStack := 1, maxLocals := 1, code := jdk_30_method_1_code, exceptionTable := #[], attributes := #[] }
def k2m0 : Method := { name := "<init>", desc := "()V", sig := { parameters := [], returnType := none }, accessFlags := 4, code := some k2c0 }
/-- java/lang/Record -/
def k2 : Class := { plain "java/lang/Record" (some 0) with
  accessFlags := 1057
  interfaces := #[]
  cf := some (fileOf pool2 7 #[] #[{ accessFlags := 4, nameIndex := 5, descriptorIndex := 6, attributes := #[] }] 1057 2 #[] #[])
  fields := #[]
  methods := #[k2m0]
  instanceTypes := #[]
  staticTypes := #[]
  resolved := Array.replicate 22 none
  statics := none }

def pool3 : Array CpInfo := pool [(1, .methodref 2 3), (0, .class_ 4), (0, .nameAndType 5 6), (0, u "java/lang/Record"), (0, u "<init>"), (0, u "()V"), (9, .fieldref 17 18), (0, .class_ 19), (0, .nameAndType 20 21), (0, u "com/example/pushmap/pushmap/simulate/CacheSize"), (0, u "bytes"), (0, u "J"), (12, u "(J)V"), (4, u "keeps"), (0, u "(J)Z")] 31

def k3c0 : Code := { maxStack := 4, maxLocals := 3, code := prog_81_method_1_code, exceptionTable := #[], attributes := #[] }
def k3m0 : Method := { name := "<init>", desc := "(J)V", sig := { parameters := [.long], returnType := none }, accessFlags := 1, code := some k3c0 }
def k3c1 : Code := { maxStack := 4, maxLocals := 3, code := prog_81_method_2_code, exceptionTable := #[], attributes := #[] }
def k3m1 : Method := { name := "keeps", desc := "(J)Z", sig := { parameters := [.long], returnType := some .boolean }, accessFlags := 0, code := some k3c1 }
/-- com/example/pushmap/pushmap/simulate/CacheSize -/
def k3 : Class := { plain "com/example/pushmap/pushmap/simulate/CacheSize" (some 2) with
  accessFlags := 49
  interfaces := #[]
  cf := some (fileOf pool3 17 #[] #[{ accessFlags := 1, nameIndex := 5, descriptorIndex := 34, attributes := #[] }, { accessFlags := 0, nameIndex := 39, descriptorIndex := 40, attributes := #[] }] 49 2 #[] #[{ accessFlags := 18, nameIndex := 20, descriptorIndex := 21, attributes := #[] }])
  fields := #[{ name := "bytes", type := .long, accessFlags := 18, slot := 0, constantValue := 0 }]
  methods := #[k3m0, k3m1]
  instanceTypes := #[.long]
  staticTypes := #[]
  resolved := Array.replicate 72 none
  statics := none }

def pool4 : Array CpInfo := pool [(1, .class_ 2), (0, u "java/lang/Math"), (1, .class_ 6), (1, u "java/lang/Object"), (0, u "<init>"), (0, u "()V"), (89, .class_ 100), (1, u "java/lang/Math$RandomNumberGeneratorHolder"), (20, u "(JJ)J"), (50, u "negativeZeroFloatBits"), (0, u "J"), (2, u "negativeZeroDoubleBits"), (21, u "max"), (46, u "$assertionsDisabled"), (0, u "Z"), (91, u "twoToTheDoubleScaleDown"), (0, u "D"), (4, u "twoToTheDoubleScaleUp"), (9, u "E"), (3, u "PI"), (2, u "TAU"), (2, u "DEGREES_TO_RADIANS"), (0, u "RADIANS_TO_DEGREES")] 94

def k4m0 : Method := { name := "<init>", desc := "()V", sig := { parameters := [], returnType := none }, accessFlags := 2, code := none }
def k4c1 : Code := { maxStack := 4, maxLocals := 4, code := jdk_29_method_66_code, exceptionTable := #[], attributes := #[] }
def k4m1 : Method := { name := "max", desc := "(JJ)J", sig := { parameters := [.long, .long], returnType := some .long }, accessFlags := 9, code := some k4c1 }
/-- java/lang/Math -/
def k4 : Class := { plain "java/lang/Math" (some 0) with
  accessFlags := 49
  interfaces := #[]
  cf := some (fileOf pool4 1 #[.nestMembers #[98]] #[{ accessFlags := 2, nameIndex := 7, descriptorIndex := 8, attributes := #[] }, { accessFlags := 9, nameIndex := 198, descriptorIndex := 121, attributes := #[] }] 49 4 #[] #[{ accessFlags := 25, nameIndex := 354, descriptorIndex := 339, attributes := #[] }, { accessFlags := 25, nameIndex := 358, descriptorIndex := 339, attributes := #[] }, { accessFlags := 25, nameIndex := 361, descriptorIndex := 339, attributes := #[] }, { accessFlags := 26, nameIndex := 364, descriptorIndex := 339, attributes := #[] }, { accessFlags := 26, nameIndex := 365, descriptorIndex := 339, attributes := #[] }, { accessFlags := 26, nameIndex := 172, descriptorIndex := 173, attributes := #[] }, { accessFlags := 26, nameIndex := 176, descriptorIndex := 173, attributes := #[] }, { accessFlags := 8, nameIndex := 344, descriptorIndex := 339, attributes := #[] }, { accessFlags := 8, nameIndex := 338, descriptorIndex := 339, attributes := #[] }, { accessFlags := 4120, nameIndex := 245, descriptorIndex := 246, attributes := #[] }])
  fields := #[{ name := "E", type := .double, accessFlags := 25, slot := 0, constantValue := 0 }, { name := "PI", type := .double, accessFlags := 25, slot := 1, constantValue := 0 }, { name := "TAU", type := .double, accessFlags := 25, slot := 2, constantValue := 0 }, { name := "DEGREES_TO_RADIANS", type := .double, accessFlags := 26, slot := 3, constantValue := 0 }, { name := "RADIANS_TO_DEGREES", type := .double, accessFlags := 26, slot := 4, constantValue := 0 }, { name := "negativeZeroFloatBits", type := .long, accessFlags := 26, slot := 5, constantValue := 0 }, { name := "negativeZeroDoubleBits", type := .long, accessFlags := 26, slot := 6, constantValue := 0 }, { name := "twoToTheDoubleScaleUp", type := .double, accessFlags := 8, slot := 7, constantValue := 0 }, { name := "twoToTheDoubleScaleDown", type := .double, accessFlags := 8, slot := 8, constantValue := 0 }, { name := "$assertionsDisabled", type := .boolean, accessFlags := 4120, slot := 9, constantValue := 0 }]
  methods := #[k4m0, k4m1]
  instanceTypes := #[]
  staticTypes := #[.double, .double, .double, .double, .double, .long, .long, .double, .double, .boolean]
  resolved := Array.replicate 460 none
  statics := none }

def pool5 : Array CpInfo := pool [(1, u "java/lang/Cloneable"), (0, .class_ 1), (0, u "java/lang/Object"), (0, .class_ 3)] 3

/-- java/lang/Cloneable -/
def k5 : Class := { plain "java/lang/Cloneable" (some 0) with
  accessFlags := 1537
  interfaces := #[]
  cf := some (fileOf pool5 2 #[] #[] 1537 4 #[] #[])
  fields := #[]
  methods := #[]
  instanceTypes := #[]
  staticTypes := #[]
  resolved := Array.replicate 8 none
  statics := none }

def pool6 : Array CpInfo := pool [(1, u "java/io/Serializable"), (0, .class_ 1), (0, u "java/lang/Object"), (0, .class_ 3)] 3

/-- java/io/Serializable -/
def k6 : Class := { plain "java/io/Serializable" (some 0) with
  accessFlags := 1537
  interfaces := #[]
  cf := some (fileOf pool6 2 #[] #[] 1537 4 #[] #[])
  fields := #[]
  methods := #[]
  instanceTypes := #[]
  staticTypes := #[]
  resolved := Array.replicate 8 none
  statics := none }

/-- the primitive byte -/
def k7 : Class := { plain "byte" none with kind := .primitive 'B', accessFlags := 0x411 }
/-- [B -/
def k8 : Class := { plain "[B" (some 0) with kind := .array 7 .byte, interfaces := #[5, 6], accessFlags := 1041 }

/-- the primitive int -/
def k9 : Class := { plain "int" none with kind := .primitive 'I', accessFlags := 0x411 }
/-- [I -/
def k10 : Class := { plain "[I" (some 0) with kind := .array 9 .int, interfaces := #[5, 6], accessFlags := 1041 }

def heap : Heap := #[]
def classes : Array Class := #[k0, k1, k2, k3, k4, k5, k6, k7, k8, k9, k10]
def interned : List (Array UInt16 × Addr) := []
def slotsUsed : Nat := 0
def theMethod : MethodId := ⟨1, 1⟩
def args0 : Array Value := #[.long 5, .long 3, .int 1]
def aboutOver (below : List Frame) : State where
  vm := { classes := classes, interned := interned.toArray }
  heap := heap
  slotsUsed := slotsUsed
  threads := #[{ frames := .invoking theMethod args0 :: below }]
def below0 : List Frame := [.native { method := ⟨0, 0⟩, args := #[] }]
def about1 : State := aboutOver below0
def p0 : Program := .bare "" "" ""
def e0 : Env := launch0.env 0 0 0
theorem w_frames : about1.frames = Frame.invoking theMethod args0 :: below0 := rfl
set_option maxRecDepth 65536 in
theorem w_args : argsFit about1.vm theMethod args0 = true := by decide +kernel
set_option maxRecDepth 65536 in
theorem w_heap : heapFits about1 = true := by decide +kernel
set_option maxRecDepth 65536 in
theorem w_runnable : about1.curStatus? = some .runnable := by decide +kernel
set_option maxRecDepth 65536 in
theorem w_alone : about1.alone = true := by decide +kernel
set_option maxRecDepth 65536 in
theorem w_named : about1.methodNamed? x = some theMethod := by decide +kernel
set_option maxRecDepth 65536 in
theorem w_hears : about1.hears theMethod below0 = true := by decide +kernel
set_option maxRecDepth 65536 in
theorem w_ripe : about1.ripe theMethod args0 below0 = true := by decide +kernel
theorem w_running : about1.status = .running := rfl
set_option maxRecDepth 65536 in
theorem w_room : about1.hasRoom e0.platform room_1 = true :=
  launch0.hasRoom_least _ room_1 (by decide +kernel) (by decide +kernel) (by decide +kernel) (by decide +kernel) (by decide +kernel) (by decide +kernel)
theorem allAtoms_all (ts : List Jvm.Cond) (a : Array Jvm.Value) (st : Jvm.State) : (allAtoms ts).before a st = ts.all (fun c => c.before a st) := by
  induction ts with
  | nil => rfl
  | cons c t ih =>
    show (Jvm.Cond.and c (allAtoms t)).before a st = _
    rw [Jvm.Cond.before_and, ih, List.all_cons]
def words1 : List Jvm.Cond := Jvm.Cond.code x code maxLocals ret :: tables_1
/-- a 'code' word, met by the world's own term for the bytes: nothing is compared byte by byte -/
theorem code_word {y : MethodName} {bytes : ByteArray} {mx : Nat} {rt : Option FieldType} {a : Array Value} {s : State} {m : MethodId} {meth : Method} {c : Code} (h1 : s.methodNamed? y = some m) (h2 : s.vm.method? m = some meth) (h3 : meth.code = some c) (h4 : c.code = bytes)
    (h5 : (c.maxLocals == mx && c.exceptionTable.isEmpty && decide (c.maxStack ≤ mostOperands) && decide (meth.sig.returnType = rt) && !meth.locks && decide (parseMethodDescriptor y.desc = some meth.sig)) = true) : (Jvm.Cond.code y bytes mx rt).before a s = true := by
  simp only [Bool.and_eq_true, beq_iff_eq, Bool.not_eq_true', decide_eq_true_eq] at h5
  obtain ⟨⟨⟨⟨⟨g1, g2⟩, g3⟩, g4⟩, g5⟩, g6⟩ := h5
  simp [Cond.before, Cond.holds, Cond.value, h1, h2, h3, h4, g1, g2, g3, g4, g5, g6]
def isCode : Jvm.Cond → Bool
  | .code _ _ _ _ => true
  | _ => false
theorem all_split {L : List Jvm.Cond} {P : Jvm.Cond → Bool} (h1 : L.all (fun c => isCode c || P c) = true) (h2 : ∀ c ∈ L.filter isCode, P c = true) : L.all P = true := by
  refine List.all_eq_true.mpr fun c hc => ?_
  have h := List.all_eq_true.mp h1 c hc
  rcases Bool.eq_false_or_eq_true (isCode c) with hi | hi
  · exact h2 c (List.mem_filter.mpr ⟨hc, hi⟩)
  · simpa [hi] using h
set_option maxRecDepth 65536 in
theorem w_c0 : (Jvm.Cond.code x code maxLocals ret).before args0 about1 = true := code_word (m := ⟨1, 1⟩) (meth := k1m1) (c := k1c1) (by decide +kernel) rfl rfl rfl (by decide +kernel)
set_option maxRecDepth 65536 in
theorem w_c1 : (Jvm.Cond.code ({ cls := "com/example/pushmap/pushmap/simulate/CacheSize", name := "<init>", desc := "(J)V" } : Jvm.MethodName) prog_81_method_1_code (3 : Nat) (Option.none : Option Jvm.ClassFile.FieldType)).before args0 about1 = true := code_word (m := ⟨3, 0⟩) (meth := k3m0) (c := k3c0) (by decide +kernel) rfl rfl rfl (by decide +kernel)
set_option maxRecDepth 65536 in
theorem w_c2 : (Jvm.Cond.code ({ cls := "java/lang/Record", name := "<init>", desc := "()V" } : Jvm.MethodName) jdk_30_method_1_code (1 : Nat) (Option.none : Option Jvm.ClassFile.FieldType)).before args0 about1 = true := code_word (m := ⟨2, 0⟩) (meth := k2m0) (c := k2c0) (by decide +kernel) rfl rfl rfl (by decide +kernel)
set_option maxRecDepth 65536 in
theorem w_c3 : (Jvm.Cond.code ({ cls := "java/lang/Object", name := "<init>", desc := "()V" } : Jvm.MethodName) object_method_1_code (1 : Nat) (Option.none : Option Jvm.ClassFile.FieldType)).before args0 about1 = true := code_word (m := ⟨0, 0⟩) (meth := k0m0) (c := k0c0) (by decide +kernel) rfl rfl rfl (by decide +kernel)
set_option maxRecDepth 65536 in
theorem w_c4 : (Jvm.Cond.code ({ cls := "com/example/pushmap/pushmap/simulate/CacheSize", name := "keeps", desc := "(J)Z" } : Jvm.MethodName) prog_81_method_2_code (3 : Nat) (Option.some Jvm.ClassFile.FieldType.boolean)).before args0 about1 = true := code_word (m := ⟨3, 1⟩) (meth := k3m1) (c := k3c1) (by decide +kernel) rfl rfl rfl (by decide +kernel)
set_option maxRecDepth 65536 in
theorem w_c5 : (Jvm.Cond.code ({ cls := "java/lang/Math", name := "max", desc := "(JJ)J" } : Jvm.MethodName) jdk_29_method_66_code (4 : Nat) (Option.some Jvm.ClassFile.FieldType.long)).before args0 about1 = true := code_word (m := ⟨4, 1⟩) (meth := k4m1) (c := k4c1) (by decide +kernel) rfl rfl rfl (by decide +kernel)
def codes1 : List Jvm.Cond := [Jvm.Cond.code x code maxLocals ret, Jvm.Cond.code ({ cls := "com/example/pushmap/pushmap/simulate/CacheSize", name := "<init>", desc := "(J)V" } : Jvm.MethodName) prog_81_method_1_code (3 : Nat) (Option.none : Option Jvm.ClassFile.FieldType), Jvm.Cond.code ({ cls := "java/lang/Record", name := "<init>", desc := "()V" } : Jvm.MethodName) jdk_30_method_1_code (1 : Nat) (Option.none : Option Jvm.ClassFile.FieldType), Jvm.Cond.code ({ cls := "java/lang/Object", name := "<init>", desc := "()V" } : Jvm.MethodName) object_method_1_code (1 : Nat) (Option.none : Option Jvm.ClassFile.FieldType), Jvm.Cond.code ({ cls := "com/example/pushmap/pushmap/simulate/CacheSize", name := "keeps", desc := "(J)Z" } : Jvm.MethodName) prog_81_method_2_code (3 : Nat) (Option.some Jvm.ClassFile.FieldType.boolean), Jvm.Cond.code ({ cls := "java/lang/Math", name := "max", desc := "(JJ)J" } : Jvm.MethodName) jdk_29_method_66_code (4 : Nat) (Option.some Jvm.ClassFile.FieldType.long)]
set_option maxRecDepth 65536 in
theorem codes_eq : words1.filter isCode = codes1 := rfl
theorem w_codes : ∀ c ∈ words1.filter isCode, c.before args0 about1 = true := by
  rw [codes_eq]
  intro c hc
  simp only [codes1, List.mem_cons, List.not_mem_nil, or_false] at hc
  rcases hc with rfl | rfl | rfl | rfl | rfl | rfl
  · exact w_c0
  · exact w_c1
  · exact w_c2
  · exact w_c3
  · exact w_c4
  · exact w_c5
set_option maxRecDepth 65536 in
theorem w_t1 : (words1.take 24).all (fun c => isCode c || c.before args0 about1) = true := by decide +kernel
set_option maxRecDepth 65536 in
theorem w_t2 : (words1.drop 24).all (fun c => isCode c || c.before args0 about1) = true := by decide +kernel
theorem w_tables : (allAtoms (Jvm.Cond.code x code maxLocals ret :: tables_1)).before args0 about1 = true := by
  rw [allAtoms_all]
  show words1.all (fun c => c.before args0 about1) = true
  refine all_split ?_ w_codes
  rw [← List.take_append_drop 24 words1, List.all_append, w_t1, w_t2]
  rfl
set_option maxRecDepth 65536 in
theorem w_case : (Jvm.Cond.and given_1 narrow_1).before args0 about1 = true := by decide +kernel
theorem w_applies : (headSpec (Jvm.Cond.code x code maxLocals ret :: tables_1) room_1).applies x e0.platform about1 = true :=
  (Spec.applies_iff w_frames).mpr ⟨w_running, w_runnable, w_alone, w_named, w_hears, w_ripe, w_room, w_tables⟩
theorem atStart : AtStart classFile x code maxLocals ret World_1 tables_1 room_1 Calls_1 rest_1 Pre_1 launch0 p0 e0 about1 theMethod args0 below0 :=
  ⟨lists_1, trivial, launch0.admits_env _ _ _, launch0.least_env, fairChoices_fair.cas, fairChoices_fair.clock, w_frames, w_args, w_heap, w_applies, trivial, trivial, w_case⟩
end start1
theorem witness_1 : WitnessClaimed_1 := ⟨start1.p0, start1.e0, start1.about1, start1.theMethod, start1.args0, start1.below0, start1.atStart⟩
end Jvm.Pilot.@@N@@
