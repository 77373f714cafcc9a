import JvmDerived
import JvmDerived.Pilot.@@N@@Statement
import JvmDerived.Pilot.@@N@@Code
set_option linter.unusedVariables false
set_option linter.unusedSimpArgs false
namespace Jvm.RoadKit
open Sem ClassFile Op Lib Jvm.Stand Jvm.Free Jvm.LawKit
/-- the walk that stands at S comes to an end of which P holds -/
def own_Goes (tb : Tables) (e : Env) (below : List Frame) (P : State → Outcome → Prop) (S : State) : Prop := ∃ t o, Steps tb e below S t ∧ P t o
theorem own_Goes.of {tb : Tables} {e : Env} {below : List Frame} {P : State → Outcome → Prop} {S : State} (k : own_Goes tb e below P S) : ∃ t o, Steps tb e below S t ∧ P t o := k
theorem own_Goes.nm {tb : Tables} {e : Env} {below : List Frame} {P : State → Outcome → Prop} {S : State} (k : ∀ P' : State → Outcome → Prop, (∀ t o, P t o → P' t o) → own_Goes tb e below P' S) : own_Goes tb e below P S := k P fun _ _ q => q
theorem own_Goes.st {tb : Tables} {e : Env} {below : List Frame} {P : State → Outcome → Prop} {S S' : State} (k : own_Goes tb e below P S') (h : ∀ t, Steps tb e below S' t → Steps tb e below S t) : own_Goes tb e below P S := by
  obtain ⟨t, o, h1, h2⟩ := k; exact ⟨t, o, h t h1, h2⟩
theorem own_Goes.tr {tb : Tables} {e : Env} {below : List Frame} {P : State → Outcome → Prop} {S S' : State} (h : Steps tb e below S S') (k : own_Goes tb e below P S') : own_Goes tb e below P S := by
  obtain ⟨t, o, h1, h2⟩ := k; exact ⟨t, o, h.trans h1, h2⟩
theorem own_Goes.fin {tb : Tables} {e : Env} {below : List Frame} {P : State → Outcome → Prop} {S : State} (t : State) (o : Outcome) (h : Steps tb e below S t) (k : P t o) : own_Goes tb e below P S := ⟨t, o, h, k⟩
end Jvm.RoadKit
namespace Jvm.Pilot.@@N@@
open Jvm Jvm.ClassFile Sem Op Lib Jvm.Free Jvm.Stand Jvm.LawKit Jvm.RoadKit Bundle Jvm.Pilot.@@N@@.Jvm.D
def own_sh (z : Int64) (k : Int32) : Int64 := ((z).toUInt64 >>> (k &&& 0x3f).toInt64.toUInt64).toInt64
def own_st (z : Int64) (k : Int32) (c : Int64) : Int64 := (z ^^^ own_sh z k) * c
def own_mix (z : Int64) : Int64 := own_st (own_st z 30 (-4658895280553007687)) 27 (-7723592293110705685) ^^^ own_sh (own_st (own_st z 30 (-4658895280553007687)) 27 (-7723592293110705685)) 31
theorem own_sh_bv (z : Int64) (k : Int32) (n : Nat) (hk : (k &&& 0x3f).toInt64.toUInt64 = UInt64.ofNat n) (hn : n < 64) : (own_sh z k).toBitVec = z.toBitVec >>> n := by
  rw [own_sh, hk]
  apply BitVec.eq_of_toNat_eq
  show ((z.toUInt64 >>> UInt64.ofNat n).toBitVec).toNat = (z.toBitVec >>> n).toNat
  rw [BitVec.toNat_ushiftRight]
  show (z.toUInt64 >>> UInt64.ofNat n).toNat = _
  rw [UInt64.toNat_shiftRight]
  have e : (UInt64.ofNat n).toNat = n := by rw [UInt64.toNat_ofNat_of_lt' (Nat.lt_of_lt_of_le hn (by decide))]
  rw [e, Nat.mod_eq_of_lt hn]; rfl
theorem own_xs_inj (x y : BitVec 64) (n : Nat) (h0 : 22 ≤ n) (h : x ^^^ (x >>> n) = y ^^^ (y >>> n)) : x = y := by
  have key : ∀ i, i < 64 → (x.getLsbD i ^^ x.getLsbD (n + i)) = (y.getLsbD i ^^ y.getLsbD (n + i)) := fun i hi => by
    have q := congrArg (fun v => BitVec.getLsbD v i) h
    simpa only [BitVec.getLsbD_xor, BitVec.getLsbD_ushiftRight] using q
  have hi : ∀ i, 64 - n ≤ i → i < 64 → x.getLsbD i = y.getLsbD i := fun i h1 h2 => by
    have q := key i h2
    rw [BitVec.getLsbD_of_ge x (n + i) (by omega), BitVec.getLsbD_of_ge y (n + i) (by omega)] at q
    simpa using q
  have mid : ∀ i, 64 - 2 * n ≤ i → i < 64 → x.getLsbD i = y.getLsbD i := fun i h1 h2 => by
    by_cases c : 64 - n ≤ i
    · exact hi i c h2
    · have q := key i h2
      rw [hi (n + i) (by omega) (by omega)] at q
      simpa using q
  have low : ∀ i, i < 64 → x.getLsbD i = y.getLsbD i := fun i h2 => by
    by_cases c : 64 - 2 * n ≤ i
    · exact mid i c h2
    · have q := key i h2
      rw [mid (n + i) (by omega) (by omega)] at q
      simpa using q
  exact BitVec.eq_of_getLsbD_eq low
theorem own_mul_inj (x y c d : Int64) (hc : c * d = 1) (h : x * c = y * c) : x = y := by
  have q := congrArg (· * d) h
  simpa only [Int64.mul_assoc, hc, Int64.mul_one] using q
theorem own_xsl (x y : Int64) (k : Int32) (n : Nat) (hk : (k &&& 0x3f).toInt64.toUInt64 = UInt64.ofNat n) (h0 : 22 ≤ n) (hn : n < 64) (h : x ^^^ own_sh x k = y ^^^ own_sh y k) : x = y := by
  apply Int64.toBitVec_inj.mp
  apply own_xs_inj _ _ n h0
  have q := congrArg Int64.toBitVec h
  rw [Int64.toBitVec_xor, Int64.toBitVec_xor, own_sh_bv x k n hk hn, own_sh_bv y k n hk hn] at q
  exact q
theorem own_mix_inj {x y : Int64} (h : own_mix x = own_mix y) : x = y := by
  have h1 := own_xsl _ _ 31 31 (by decide) (by decide) (by decide) h
  have h2 := own_mul_inj _ _ (-7723592293110705685) (3573116690164977347) (by decide) h1
  have h3 := own_xsl _ _ 27 27 (by decide) (by decide) (by decide) h2
  have h4 := own_mul_inj _ _ (-4658895280553007687) (-7575587736534282103) (by decide) h3
  exact own_xsl _ _ 30 30 (by decide) (by decide) (by decide) h4
theorem own_ne (s : Int64) : ¬ own_mix (s + (-7046029254386353131 : Int64)) = own_mix ((s + (-7046029254386353131 : Int64)) + (-7046029254386353131 : Int64)) := fun h => by
  have q := own_mix_inj h
  have a := c_ladd (s + (-7046029254386353131 : Int64)) (-7046029254386353131 : Int64)
  have k : (-7046029254386353131 : Int64).toInt = -7046029254386353131 := by decide
  have q' := congrArg Int64.toInt q
  rw [k] at a; omega
theorem own_ef_new (m : MethodId) (x0 : Addr) (x1 : Int64) : entryFrame m #[(.ref x0), (.long x1)] 3 = mkF m 0 #[.val (.ref x0), .val (.long x1), .second] [] := by first | (simp [entryFrame, mkF, argsToLocals, Value.category]; done) | rfl
theorem own_pn_com_example_pushmap_pushmap_benchmark_SplitMix64 : plainName "com/example/pushmap/pushmap/benchmark/SplitMix64" = true := by first | (simp [plainName, overriddenIn]; done) | decide +kernel
theorem own_d_prog_11_method_1_0 : decode prog_11_method_1_code 0 = .ok (.aload_n 0, 1) := by decide +kernel
theorem own_d_prog_11_method_1_1 : decode prog_11_method_1_code 1 = .ok (.invokespecial 1, 3) := by decide +kernel
theorem own_d_prog_11_method_1_4 : decode prog_11_method_1_code 4 = .ok (.aload_n 0, 1) := by decide +kernel
theorem own_d_prog_11_method_1_5 : decode prog_11_method_1_code 5 = .ok (.lload_n 1, 1) := by decide +kernel
theorem own_d_prog_11_method_1_6 : decode prog_11_method_1_code 6 = .ok (.putfield 7, 3) := by decide +kernel
theorem own_d_prog_11_method_1_9 : decode prog_11_method_1_code 9 = .ok (.return_, 1) := by decide +kernel
def Q_new (Z : State) (a : Addr) (b : Int64) (u1 : Value) (h0 : Heap) (n0 : Nat) (v : Option Value) (h : Heap) (L : List Loc) : Prop := v = none ∧ Fr n0 L ∧ Keep h0 h [a] ∧ (Exa Z h a "com/example/pushmap/pushmap/benchmark/SplitMix64") ∧ (Fld Z h a "com/example/pushmap/pushmap/benchmark/SplitMix64" "state" "J" (.long b))
set_option maxRecDepth 65536 in
set_option maxHeartbeats 40000000 in
theorem rm_new (l : Launch) (Z : State) (a0 : Array Value) (hw : ∀ d ∈ tables_1, d.before a0 Z = true) (ws : List Jvm.Cond) (a : Addr) (b : Int64) (u1 : Value) (h0 : Heap) (n0 : Nat) (Z0 : n0 ≤ h0.size) (pr0 : Exa Z h0 a "com/example/pushmap/pushmap/benchmark/SplitMix64") (pr1 : Fld Z h0 a "com/example/pushmap/pushmap/benchmark/SplitMix64" "state" "J" u1) (pr2 : n0 ≤ a) :
    MetFree l (⟨"com/example/pushmap/pushmap/benchmark/SplitMix64", "<init>", "(J)V"⟩ : MethodName) (head1 (Jvm.Cond.code (⟨"com/example/pushmap/pushmap/benchmark/SplitMix64", "<init>", "(J)V"⟩ : MethodName) prog_11_method_1_code 3 none :: ws) ({ frames := 1, cells := 0, slots := 0, locals := 12 } : Room)) (fun as_ U => as_ = #[(.ref a), (.long b)] ∧ Z.Warmed39 U.vm ∧ U.heap = h0) (fun _ _ _ _ _ => True) (fun _ U o U' => ∃ v L, o = .returned v ∧ Q_new Z a b u1 h0 n0 v U'.heap L ∧ FrameEnd U o U' L ({ frames := 1, cells := 0, slots := 0, locals := 12 } : Room).cells ({ frames := 1, cells := 0, slots := 0, locals := 12 } : Room).slots) := by
  refine MetFree.of_bodySF (plainFor_of_name own_pn_com_example_pushmap_pushmap_benchmark_SplitMix64) hisR ?_
  intro p e s m args below meth c s₁ Bd hml0 hP hK
  obtain ⟨rfl, hZ, hh⟩ := hP
  have hx := Bd.exec
  have hby := Bd.bytes
  have hml : c.maxLocals = 3 := hml0
  have hown : s.vm.findClass "com/example/pushmap/pushmap/benchmark/SplitMix64" = some m.cls := findClass_of_methodNamed Bd.named
  have hnm := (name_of_methodNamed Bd.named Bd.method).1
  have X0 : Stand p l e ({ frames := 1, cells := 0, slots := 0, locals := 12 } : Room) s m #[(.ref a), (.long b)] below meth c s₁ [] 0 0 := Stand.of_body Bd
  have e0 : s₁.heap = h0 := by rw [← hh, Bd.state]; rfl
  have N0 := Fr.nil n0
  refine own_Goes.of ?_
  refine own_Goes.nm (fun P hPP => ?_)
  refine own_Goes.st ?_ (fun _ k => castTop (own_ef_new m a b) k)
  have K0 : Keep h0 h0 [a] := Keep.refl _ _
  show own_Goes p.tables e below P (s₁.setTop (mkF m 0 #[.val (.ref a), .val (.long b), .second] []))
  refine own_Goes.st ?_ (fun _ k => XS.aloadN X0.here hx rfl (hb hby own_d_prog_11_method_1_0) rfl rfl k)
  show own_Goes p.tables e below P (s₁.setTop (mkF m 1 #[.val (.ref a), .val (.long b), .second] [(.ref a)]))
  obtain ⟨T1, X1, e1, st1⟩ := initO X0 hx hZ hown (hw _ (List.mem_of_getElem? (i := 6) rfl)) (hw _ (List.mem_of_getElem? (i := 7) rfl)) (hw _ (List.mem_of_getElem? (i := 8) rfl)) e0 (g := (mkF m 1 #[.val (.ref a), .val (.long b), .second] [(.ref a)])) rfl (by rw [hml]; rfl) rfl (hb hby own_d_prog_11_method_1_1) (by decide) (W := 0) (by show 2 * 0 + _ ≤ _; exact Nat.le_of_eq rfl) (by decide)
  refine own_Goes.st ?_ st1
  show own_Goes p.tables e below P (T1.setTop (mkF m 4 #[.val (.ref a), .val (.long b), .second] []))
  refine own_Goes.st ?_ (fun _ k => XS.aloadN X1.here hx rfl (hb hby own_d_prog_11_method_1_4) rfl rfl k)
  show own_Goes p.tables e below P (T1.setTop (mkF m 5 #[.val (.ref a), .val (.long b), .second] [(.ref a)]))
  refine own_Goes.st ?_ (fun _ k => XS.lloadN X1.here hx rfl (hb hby own_d_prog_11_method_1_5) rfl k)
  show own_Goes p.tables e below P (T1.setTop (mkF m 6 #[.val (.ref a), .val (.long b), .second] [(.long b), (.ref a)]))
  obtain ⟨T2, h2, X2, e2, W2, st2⟩ := putF X1 hx hZ hown (host := "") (Or.inl (hw _ (List.mem_of_getElem? (i := 9) rfl))) Via.refl e1 pr1 pr0 (Or.inl (hw _ (List.mem_of_getElem? (i := 10) rfl))) (hw _ (List.mem_of_getElem? (i := 1) rfl)) (ty := .long) (by decide) rfl rfl (g := (mkF m 6 #[.val (.ref a), .val (.long b), .second] [(.long b), (.ref a)])) rfl rfl (hb hby own_d_prog_11_method_1_6)
  refine own_Goes.st ?_ st2
  have F3 : Fld Z h2 a "com/example/pushmap/pushmap/benchmark/SplitMix64" "state" "J" (.long b) := pr1.same W2
  have Z4 : n0 ≤ h2.size := by rw [W2.size]; exact Z0
  have K5 := K0.wr W2 (Or.inl (List.mem_of_getElem? (i := 0) rfl))
  have N6 := Fr.snoc X2 N0 pr2
  show own_Goes p.tables e below P (T2.setTop (mkF m 9 #[.val (.ref a), .val (.long b), .second] []))
  obtain ⟨fs, hr, hrun, hended, hW, hsame⟩ := X2.leave (v := none) (fun _ => rfl)
  have F7 : Exa Z h2 a "com/example/pushmap/pushmap/benchmark/SplitMix64" := (pr0.wr W2)
  exact own_Goes.fin _ _ (X2.returnOut hx Bd.returns (hb hby own_d_prog_11_method_1_9) hr) (hPP _ _ ⟨hrun, hended, _, _, rfl, (by show Q_new Z a b u1 h0 n0 _ T2.heap _; rw [e2]; exact ⟨rfl, N6, K5, F7, F3⟩), ⟨_, rfl⟩, hW, hsame.mono (by decide) (by decide)⟩)
theorem own_ef_next (m : MethodId) (x0 : Addr) : entryFrame m #[(.ref x0)] 3 = mkF m 0 #[.val (.ref x0), .unset, .unset] [] := by first | (simp [entryFrame, mkF, argsToLocals, Value.category]; done) | rfl
theorem own_d_prog_11_method_2_0 : decode prog_11_method_2_code 0 = .ok (.aload_n 0, 1) := by decide +kernel
theorem own_d_prog_11_method_2_1 : decode prog_11_method_2_code 1 = .ok (.dup, 1) := by decide +kernel
theorem own_d_prog_11_method_2_2 : decode prog_11_method_2_code 2 = .ok (.getfield 7, 3) := by decide +kernel
theorem own_d_prog_11_method_2_5 : decode prog_11_method_2_code 5 = .ok (.ldc2_w 13, 3) := by decide +kernel
theorem own_d_prog_11_method_2_8 : decode prog_11_method_2_code 8 = .ok (.ladd, 1) := by decide +kernel
theorem own_d_prog_11_method_2_9 : decode prog_11_method_2_code 9 = .ok (.putfield 7, 3) := by decide +kernel
theorem own_d_prog_11_method_2_12 : decode prog_11_method_2_code 12 = .ok (.aload_n 0, 1) := by decide +kernel
theorem own_d_prog_11_method_2_13 : decode prog_11_method_2_code 13 = .ok (.getfield 7, 3) := by decide +kernel
theorem own_d_prog_11_method_2_16 : decode prog_11_method_2_code 16 = .ok (.lstore_n 1, 1) := by decide +kernel
theorem own_d_prog_11_method_2_17 : decode prog_11_method_2_code 17 = .ok (.lload_n 1, 1) := by decide +kernel
theorem own_d_prog_11_method_2_18 : decode prog_11_method_2_code 18 = .ok (.lload_n 1, 1) := by decide +kernel
theorem own_d_prog_11_method_2_19 : decode prog_11_method_2_code 19 = .ok (.bipush 30, 2) := by decide +kernel
theorem own_d_prog_11_method_2_21 : decode prog_11_method_2_code 21 = .ok (.lushr, 1) := by decide +kernel
theorem own_d_prog_11_method_2_22 : decode prog_11_method_2_code 22 = .ok (.lxor, 1) := by decide +kernel
theorem own_d_prog_11_method_2_23 : decode prog_11_method_2_code 23 = .ok (.ldc2_w 15, 3) := by decide +kernel
theorem own_d_prog_11_method_2_26 : decode prog_11_method_2_code 26 = .ok (.lmul, 1) := by decide +kernel
theorem own_d_prog_11_method_2_27 : decode prog_11_method_2_code 27 = .ok (.lstore_n 1, 1) := by decide +kernel
theorem own_d_prog_11_method_2_28 : decode prog_11_method_2_code 28 = .ok (.lload_n 1, 1) := by decide +kernel
theorem own_d_prog_11_method_2_29 : decode prog_11_method_2_code 29 = .ok (.lload_n 1, 1) := by decide +kernel
theorem own_d_prog_11_method_2_30 : decode prog_11_method_2_code 30 = .ok (.bipush 27, 2) := by decide +kernel
theorem own_d_prog_11_method_2_32 : decode prog_11_method_2_code 32 = .ok (.lushr, 1) := by decide +kernel
theorem own_d_prog_11_method_2_33 : decode prog_11_method_2_code 33 = .ok (.lxor, 1) := by decide +kernel
theorem own_d_prog_11_method_2_34 : decode prog_11_method_2_code 34 = .ok (.ldc2_w 17, 3) := by decide +kernel
theorem own_d_prog_11_method_2_37 : decode prog_11_method_2_code 37 = .ok (.lmul, 1) := by decide +kernel
theorem own_d_prog_11_method_2_38 : decode prog_11_method_2_code 38 = .ok (.lstore_n 1, 1) := by decide +kernel
theorem own_d_prog_11_method_2_39 : decode prog_11_method_2_code 39 = .ok (.lload_n 1, 1) := by decide +kernel
theorem own_d_prog_11_method_2_40 : decode prog_11_method_2_code 40 = .ok (.lload_n 1, 1) := by decide +kernel
theorem own_d_prog_11_method_2_41 : decode prog_11_method_2_code 41 = .ok (.bipush 31, 2) := by decide +kernel
theorem own_d_prog_11_method_2_43 : decode prog_11_method_2_code 43 = .ok (.lushr, 1) := by decide +kernel
theorem own_d_prog_11_method_2_44 : decode prog_11_method_2_code 44 = .ok (.lxor, 1) := by decide +kernel
theorem own_d_prog_11_method_2_45 : decode prog_11_method_2_code 45 = .ok (.lreturn, 1) := by decide +kernel
def Q_next (Z : State) (a : Addr) (b : Int64) (h0 : Heap) (n0 : Nat) (v : Option Value) (h : Heap) (L : List Loc) : Prop := v = some (.long (own_mix (b + (-7046029254386353131 : Int64)))) ∧ Fr n0 L ∧ Keep h0 h [a] ∧ (Exa Z h a "com/example/pushmap/pushmap/benchmark/SplitMix64") ∧ (Fld Z h a "com/example/pushmap/pushmap/benchmark/SplitMix64" "state" "J" (.long (b + (-7046029254386353131 : Int64))))
set_option maxRecDepth 65536 in
set_option maxHeartbeats 40000000 in
theorem rm_next (l : Launch) (Z : State) (a0 : Array Value) (hw : ∀ d ∈ tables_1, d.before a0 Z = true) (ws : List Jvm.Cond) (a : Addr) (b : Int64) (h0 : Heap) (n0 : Nat) (Z0 : n0 ≤ h0.size) (pr0 : Exa Z h0 a "com/example/pushmap/pushmap/benchmark/SplitMix64") (pr1 : Fld Z h0 a "com/example/pushmap/pushmap/benchmark/SplitMix64" "state" "J" (.long b)) (pr2 : n0 ≤ a) :
    MetFree l (⟨"com/example/pushmap/pushmap/benchmark/SplitMix64", "nextLong", "()J"⟩ : MethodName) (head1 (Jvm.Cond.code (⟨"com/example/pushmap/pushmap/benchmark/SplitMix64", "nextLong", "()J"⟩ : MethodName) prog_11_method_2_code 3 (some .long) :: ws) ({ frames := 0, cells := 0, slots := 0, locals := 0 } : Room)) (fun as_ U => as_ = #[(.ref a)] ∧ Z.Warmed39 U.vm ∧ U.heap = h0) (fun _ _ _ _ _ => True) (fun _ U o U' => ∃ v L, o = .returned v ∧ Q_next Z a b h0 n0 v U'.heap L ∧ FrameEnd U o U' L ({ frames := 0, cells := 0, slots := 0, locals := 0 } : Room).cells ({ frames := 0, cells := 0, slots := 0, locals := 0 } : Room).slots) := by
  refine MetFree.of_bodySF (plainFor_of_name own_pn_com_example_pushmap_pushmap_benchmark_SplitMix64) hisR ?_
  intro p e s m args below meth c s₁ Bd hml0 hP hK
  obtain ⟨rfl, hZ, hh⟩ := hP
  have hx := Bd.exec
  have hby := Bd.bytes
  have hml : c.maxLocals = 3 := hml0
  have hown : s.vm.findClass "com/example/pushmap/pushmap/benchmark/SplitMix64" = some m.cls := findClass_of_methodNamed Bd.named
  have hnm := (name_of_methodNamed Bd.named Bd.method).1
  have X0 : Stand p l e ({ frames := 0, cells := 0, slots := 0, locals := 0 } : Room) s m #[(.ref a)] below meth c s₁ [] 0 0 := Stand.of_body Bd
  have e0 : s₁.heap = h0 := by rw [← hh, Bd.state]; rfl
  have N0 := Fr.nil n0
  refine own_Goes.of ?_
  refine own_Goes.nm (fun P hPP => ?_)
  refine own_Goes.st ?_ (fun _ k => castTop (own_ef_next m a) k)
  have K0 : Keep h0 h0 [a] := Keep.refl _ _
  show own_Goes p.tables e below P (s₁.setTop (mkF m 0 #[.val (.ref a), .unset, .unset] []))
  refine own_Goes.st ?_ (fun _ k => XS.aloadN X0.here hx rfl (hb hby own_d_prog_11_method_2_0) rfl rfl k)
  show own_Goes p.tables e below P (s₁.setTop (mkF m 1 #[.val (.ref a), .unset, .unset] [(.ref a)]))
  refine own_Goes.st ?_ (fun _ k => XS.dup X0.here hx rfl (hb hby own_d_prog_11_method_2_1) rfl rfl k)
  show own_Goes p.tables e below P (s₁.setTop (mkF m 2 #[.val (.ref a), .unset, .unset] [(.ref a), (.ref a)]))
  obtain ⟨T1, X1, e1, st1⟩ := getF X0 hx hZ hown (host := "") (Or.inl (hw _ (List.mem_of_getElem? (i := 9) rfl))) Via.refl e0 pr1 (g := (mkF m 2 #[.val (.ref a), .unset, .unset] [(.ref a), (.ref a)])) rfl rfl (hb hby own_d_prog_11_method_2_2)
  refine own_Goes.st ?_ st1
  show own_Goes p.tables e below P (T1.setTop (mkF m 5 #[.val (.ref a), .unset, .unset] [(.long b), (.ref a)]))
  refine own_Goes.st ?_ (X1.ldc2Long hx hown (mvT hZ (hw _ (List.mem_of_getElem? (i := 16) rfl))) (g := (mkF m 5 #[.val (.ref a), .unset, .unset] [(.long b), (.ref a)])) rfl (hb hby own_d_prog_11_method_2_5))
  show own_Goes p.tables e below P (T1.setTop (mkF m 8 #[.val (.ref a), .unset, .unset] [(.long (-7046029254386353131 : Int64)), (.long b), (.ref a)]))
  refine own_Goes.st ?_ (fun _ k => XS.ladd X1.here hx rfl (hb hby own_d_prog_11_method_2_8) rfl k)
  show own_Goes p.tables e below P (T1.setTop (mkF m 9 #[.val (.ref a), .unset, .unset] [(.long (b + (-7046029254386353131 : Int64))), (.ref a)]))
  obtain ⟨T2, h2, X2, e2, W2, st2⟩ := putF X1 hx hZ hown (host := "") (Or.inl (hw _ (List.mem_of_getElem? (i := 9) rfl))) Via.refl e1 pr1 pr0 (Or.inl (hw _ (List.mem_of_getElem? (i := 10) rfl))) (hw _ (List.mem_of_getElem? (i := 1) rfl)) (ty := .long) (by decide) rfl rfl (g := (mkF m 9 #[.val (.ref a), .unset, .unset] [(.long (b + (-7046029254386353131 : Int64))), (.ref a)])) rfl rfl (hb hby own_d_prog_11_method_2_9)
  refine own_Goes.st ?_ st2
  have F3 : Fld Z h2 a "com/example/pushmap/pushmap/benchmark/SplitMix64" "state" "J" (.long (b + (-7046029254386353131 : Int64))) := pr1.same W2
  have Z4 : n0 ≤ h2.size := by rw [W2.size]; exact Z0
  have K5 := K0.wr W2 (Or.inl (List.mem_of_getElem? (i := 0) rfl))
  have N6 := Fr.snoc X2 N0 pr2
  show own_Goes p.tables e below P (T2.setTop (mkF m 12 #[.val (.ref a), .unset, .unset] []))
  refine own_Goes.st ?_ (fun _ k => XS.aloadN X2.here hx rfl (hb hby own_d_prog_11_method_2_12) rfl rfl k)
  show own_Goes p.tables e below P (T2.setTop (mkF m 13 #[.val (.ref a), .unset, .unset] [(.ref a)]))
  obtain ⟨T7, X7, e7, st7⟩ := getF X2 hx hZ hown (host := "") (Or.inl (hw _ (List.mem_of_getElem? (i := 9) rfl))) Via.refl e2 F3 (g := (mkF m 13 #[.val (.ref a), .unset, .unset] [(.ref a)])) rfl rfl (hb hby own_d_prog_11_method_2_13)
  refine own_Goes.st ?_ st7
  show own_Goes p.tables e below P (T7.setTop (mkF m 16 #[.val (.ref a), .unset, .unset] [(.long (b + (-7046029254386353131 : Int64)))]))
  refine own_Goes.st ?_ (fun _ k => XS.lstoreN X7.here hx rfl (hb hby own_d_prog_11_method_2_16) rfl (l' := #[.val (.ref a), .val (.long (b + (-7046029254386353131 : Int64))), .second]) rfl k)
  show own_Goes p.tables e below P (T7.setTop (mkF m 17 #[.val (.ref a), .val (.long (b + (-7046029254386353131 : Int64))), .second] []))
  generalize hz0 : (b + (-7046029254386353131 : Int64)) = z0
  show own_Goes p.tables e below P (T7.setTop (mkF m 17 #[.val (.ref a), .val (.long z0), .second] []))
  refine own_Goes.st ?_ (fun _ k => XS.lloadN X7.here hx rfl (hb hby own_d_prog_11_method_2_17) rfl k)
  show own_Goes p.tables e below P (T7.setTop (mkF m 18 #[.val (.ref a), .val (.long z0), .second] [(.long z0)]))
  refine own_Goes.st ?_ (fun _ k => XS.lloadN X7.here hx rfl (hb hby own_d_prog_11_method_2_18) rfl k)
  show own_Goes p.tables e below P (T7.setTop (mkF m 19 #[.val (.ref a), .val (.long z0), .second] [(.long z0), (.long z0)]))
  refine own_Goes.st ?_ (fun _ k => XS.bipush X7.here hx rfl (hb hby own_d_prog_11_method_2_19) k)
  show own_Goes p.tables e below P (T7.setTop (mkF m 21 #[.val (.ref a), .val (.long z0), .second] [(.int (30 : Int32)), (.long z0), (.long z0)]))
  refine own_Goes.st ?_ (fun _ k => XS.lushr X7.here hx rfl (hb hby own_d_prog_11_method_2_21) rfl k)
  show own_Goes p.tables e below P (T7.setTop (mkF m 22 #[.val (.ref a), .val (.long z0), .second] [(.long (((z0).toUInt64 >>> ((30 : Int32) &&& 0x3f).toInt64.toUInt64).toInt64)), (.long z0)]))
  refine own_Goes.st ?_ (fun _ k => XS.lxor X7.here hx rfl (hb hby own_d_prog_11_method_2_22) rfl k)
  show own_Goes p.tables e below P (T7.setTop (mkF m 23 #[.val (.ref a), .val (.long z0), .second] [(.long (z0 ^^^ (((z0).toUInt64 >>> ((30 : Int32) &&& 0x3f).toInt64.toUInt64).toInt64)))]))
  refine own_Goes.st ?_ (X7.ldc2Long hx hown (mvT hZ (hw _ (List.mem_of_getElem? (i := 17) rfl))) (g := (mkF m 23 #[.val (.ref a), .val (.long z0), .second] [(.long (z0 ^^^ (((z0).toUInt64 >>> ((30 : Int32) &&& 0x3f).toInt64.toUInt64).toInt64)))])) rfl (hb hby own_d_prog_11_method_2_23))
  show own_Goes p.tables e below P (T7.setTop (mkF m 26 #[.val (.ref a), .val (.long z0), .second] [(.long (-4658895280553007687 : Int64)), (.long (z0 ^^^ (((z0).toUInt64 >>> ((30 : Int32) &&& 0x3f).toInt64.toUInt64).toInt64)))]))
  refine own_Goes.st ?_ (fun _ k => XS.lmul X7.here hx rfl (hb hby own_d_prog_11_method_2_26) rfl k)
  show own_Goes p.tables e below P (T7.setTop (mkF m 27 #[.val (.ref a), .val (.long z0), .second] [(.long ((z0 ^^^ (((z0).toUInt64 >>> ((30 : Int32) &&& 0x3f).toInt64.toUInt64).toInt64)) * (-4658895280553007687 : Int64)))]))
  refine own_Goes.st ?_ (fun _ k => XS.lstoreN X7.here hx rfl (hb hby own_d_prog_11_method_2_27) rfl (l' := #[.val (.ref a), .val (.long ((z0 ^^^ (((z0).toUInt64 >>> ((30 : Int32) &&& 0x3f).toInt64.toUInt64).toInt64)) * (-4658895280553007687 : Int64))), .second]) rfl k)
  show own_Goes p.tables e below P (T7.setTop (mkF m 28 #[.val (.ref a), .val (.long ((z0 ^^^ (((z0).toUInt64 >>> ((30 : Int32) &&& 0x3f).toInt64.toUInt64).toInt64)) * (-4658895280553007687 : Int64))), .second] []))
  generalize hz1 : ((z0 ^^^ (((z0).toUInt64 >>> ((30 : Int32) &&& 0x3f).toInt64.toUInt64).toInt64)) * (-4658895280553007687 : Int64)) = z1
  show own_Goes p.tables e below P (T7.setTop (mkF m 28 #[.val (.ref a), .val (.long z1), .second] []))
  refine own_Goes.st ?_ (fun _ k => XS.lloadN X7.here hx rfl (hb hby own_d_prog_11_method_2_28) rfl k)
  show own_Goes p.tables e below P (T7.setTop (mkF m 29 #[.val (.ref a), .val (.long z1), .second] [(.long z1)]))
  refine own_Goes.st ?_ (fun _ k => XS.lloadN X7.here hx rfl (hb hby own_d_prog_11_method_2_29) rfl k)
  show own_Goes p.tables e below P (T7.setTop (mkF m 30 #[.val (.ref a), .val (.long z1), .second] [(.long z1), (.long z1)]))
  refine own_Goes.st ?_ (fun _ k => XS.bipush X7.here hx rfl (hb hby own_d_prog_11_method_2_30) k)
  show own_Goes p.tables e below P (T7.setTop (mkF m 32 #[.val (.ref a), .val (.long z1), .second] [(.int (27 : Int32)), (.long z1), (.long z1)]))
  refine own_Goes.st ?_ (fun _ k => XS.lushr X7.here hx rfl (hb hby own_d_prog_11_method_2_32) rfl k)
  show own_Goes p.tables e below P (T7.setTop (mkF m 33 #[.val (.ref a), .val (.long z1), .second] [(.long (((z1).toUInt64 >>> ((27 : Int32) &&& 0x3f).toInt64.toUInt64).toInt64)), (.long z1)]))
  refine own_Goes.st ?_ (fun _ k => XS.lxor X7.here hx rfl (hb hby own_d_prog_11_method_2_33) rfl k)
  show own_Goes p.tables e below P (T7.setTop (mkF m 34 #[.val (.ref a), .val (.long z1), .second] [(.long (z1 ^^^ (((z1).toUInt64 >>> ((27 : Int32) &&& 0x3f).toInt64.toUInt64).toInt64)))]))
  refine own_Goes.st ?_ (X7.ldc2Long hx hown (mvT hZ (hw _ (List.mem_of_getElem? (i := 18) rfl))) (g := (mkF m 34 #[.val (.ref a), .val (.long z1), .second] [(.long (z1 ^^^ (((z1).toUInt64 >>> ((27 : Int32) &&& 0x3f).toInt64.toUInt64).toInt64)))])) rfl (hb hby own_d_prog_11_method_2_34))
  show own_Goes p.tables e below P (T7.setTop (mkF m 37 #[.val (.ref a), .val (.long z1), .second] [(.long (-7723592293110705685 : Int64)), (.long (z1 ^^^ (((z1).toUInt64 >>> ((27 : Int32) &&& 0x3f).toInt64.toUInt64).toInt64)))]))
  refine own_Goes.st ?_ (fun _ k => XS.lmul X7.here hx rfl (hb hby own_d_prog_11_method_2_37) rfl k)
  show own_Goes p.tables e below P (T7.setTop (mkF m 38 #[.val (.ref a), .val (.long z1), .second] [(.long ((z1 ^^^ (((z1).toUInt64 >>> ((27 : Int32) &&& 0x3f).toInt64.toUInt64).toInt64)) * (-7723592293110705685 : Int64)))]))
  refine own_Goes.st ?_ (fun _ k => XS.lstoreN X7.here hx rfl (hb hby own_d_prog_11_method_2_38) rfl (l' := #[.val (.ref a), .val (.long ((z1 ^^^ (((z1).toUInt64 >>> ((27 : Int32) &&& 0x3f).toInt64.toUInt64).toInt64)) * (-7723592293110705685 : Int64))), .second]) rfl k)
  show own_Goes p.tables e below P (T7.setTop (mkF m 39 #[.val (.ref a), .val (.long ((z1 ^^^ (((z1).toUInt64 >>> ((27 : Int32) &&& 0x3f).toInt64.toUInt64).toInt64)) * (-7723592293110705685 : Int64))), .second] []))
  generalize hz2 : ((z1 ^^^ (((z1).toUInt64 >>> ((27 : Int32) &&& 0x3f).toInt64.toUInt64).toInt64)) * (-7723592293110705685 : Int64)) = z2
  show own_Goes p.tables e below P (T7.setTop (mkF m 39 #[.val (.ref a), .val (.long z2), .second] []))
  refine own_Goes.st ?_ (fun _ k => XS.lloadN X7.here hx rfl (hb hby own_d_prog_11_method_2_39) rfl k)
  show own_Goes p.tables e below P (T7.setTop (mkF m 40 #[.val (.ref a), .val (.long z2), .second] [(.long z2)]))
  refine own_Goes.st ?_ (fun _ k => XS.lloadN X7.here hx rfl (hb hby own_d_prog_11_method_2_40) rfl k)
  show own_Goes p.tables e below P (T7.setTop (mkF m 41 #[.val (.ref a), .val (.long z2), .second] [(.long z2), (.long z2)]))
  refine own_Goes.st ?_ (fun _ k => XS.bipush X7.here hx rfl (hb hby own_d_prog_11_method_2_41) k)
  show own_Goes p.tables e below P (T7.setTop (mkF m 43 #[.val (.ref a), .val (.long z2), .second] [(.int (31 : Int32)), (.long z2), (.long z2)]))
  refine own_Goes.st ?_ (fun _ k => XS.lushr X7.here hx rfl (hb hby own_d_prog_11_method_2_43) rfl k)
  show own_Goes p.tables e below P (T7.setTop (mkF m 44 #[.val (.ref a), .val (.long z2), .second] [(.long (((z2).toUInt64 >>> ((31 : Int32) &&& 0x3f).toInt64.toUInt64).toInt64)), (.long z2)]))
  refine own_Goes.st ?_ (fun _ k => XS.lxor X7.here hx rfl (hb hby own_d_prog_11_method_2_44) rfl k)
  show own_Goes p.tables e below P (T7.setTop (mkF m 45 #[.val (.ref a), .val (.long z2), .second] [(.long (z2 ^^^ (((z2).toUInt64 >>> ((31 : Int32) &&& 0x3f).toInt64.toUInt64).toInt64)))]))
  obtain ⟨fs, hr, hrun, hended, hW, hsame⟩ := X7.leave (v := some (.long (z2 ^^^ (((z2).toUInt64 >>> ((31 : Int32) &&& 0x3f).toInt64.toUInt64).toInt64)))) (fun h => by rw [Bd.returns] at h; cases h)
  have F8 : Exa Z h2 a "com/example/pushmap/pushmap/benchmark/SplitMix64" := (pr0.wr W2)
  exact own_Goes.fin _ _ (retOut X7 hx (t := .long) Bd.returns rfl (Or.inr (Or.inl ⟨rfl, rfl, _, rfl⟩)) (hb hby own_d_prog_11_method_2_45) hr) (hPP _ _ ⟨hrun, hended, _, _, rfl, (by show Q_next Z a b h0 n0 _ T7.heap _; rw [e7]; exact ⟨(by subst hz2; subst hz1; rw [hz0]; rfl), N6, K5, F8, F3⟩), ⟨_, rfl⟩, hW, hsame.mono (by decide) (by decide)⟩)
theorem own_ef_law (m : MethodId) (x0 : Int64) : entryFrame m #[(.long x0)] maxLocals = mkF m 0 #[.val (.long x0), .second, .unset, .unset, .unset, .unset, .unset, .unset, .unset, .unset, .unset, .unset, .unset, .unset, .unset, .unset, .unset, .unset, .unset] [] := by first | (simp [entryFrame, mkF, argsToLocals, Value.category, maxLocals]; done) | rfl
theorem own_pn_com_example_pushmap_pushmap_benchmark_SplitMix64NextLongPinLaw : plainName "com/example/pushmap/pushmap/benchmark/SplitMix64NextLongPinLaw" = true := by first | (simp [plainName, overriddenIn]; done) | decide +kernel
theorem own_pd__28_J_29_V : parseMethodDescriptor "(J)V" = some ⟨[.long], none⟩ := by decide +kernel
theorem own_pd__28__29_J : parseMethodDescriptor "()J" = some ⟨[], some .long⟩ := by decide +kernel
def Q_law (n0 : Nat) (v : Option Value) (L : List Loc) : Prop := v = some (.int 1) ∧ Fr n0 L
set_option maxRecDepth 65536 in
set_option maxHeartbeats 40000000 in
theorem rm_law (l : Launch) (Z : State) (a0 : Array Value) (hw : ∀ d ∈ tables_1, d.before a0 Z = true) (ws : List Jvm.Cond) (p0 : Int64) (h0 : Heap) (n0 : Nat) (Z0 : n0 ≤ h0.size) :
    MetFree l x (head1 (Jvm.Cond.code x code maxLocals ret :: ws) room_1) (fun as_ U => as_ = #[(.long p0)] ∧ Z.Warmed39 U.vm ∧ U.heap = h0) (fun _ _ _ _ _ => True) (fun _ U o U' => ∃ v L, o = .returned v ∧ Q_law n0 v L ∧ FrameEnd U o U' L 16 128) := by
  refine MetFree.of_bodySF (plainFor_of_name own_pn_com_example_pushmap_pushmap_benchmark_SplitMix64NextLongPinLaw) hisR ?_
  intro p e s m args below meth c s₁ Bd hml0 hP hK
  obtain ⟨rfl, hZ, hh⟩ := hP
  have hx := Bd.exec
  have hby := Bd.bytes
  have hml : c.maxLocals = 19 := hml0
  have hown : s.vm.findClass "com/example/pushmap/pushmap/benchmark/SplitMix64NextLongPinLaw" = some m.cls := findClass_of_methodNamed Bd.named
  have hnm := (name_of_methodNamed Bd.named Bd.method).1
  have X0 : Stand p l e room_1 s m #[(.long p0)] below meth c s₁ [] 0 0 := Stand.of_body Bd
  have e0 : s₁.heap = h0 := by rw [← hh, Bd.state]; rfl
  have N0 := Fr.nil n0
  refine own_Goes.of ?_
  refine own_Goes.nm (fun P hPP => ?_)
  refine own_Goes.st ?_ (fun _ k => castTop (own_ef_law m p0) k)
  show own_Goes p.tables e below P (s₁.setTop (mkF m 0 #[.val (.long p0), .second, .unset, .unset, .unset, .unset, .unset, .unset, .unset, .unset, .unset, .unset, .unset, .unset, .unset, .unset, .unset, .unset, .unset] []))
  obtain ⟨T1, h1, X1, e1, E1, A1, D1, -, st1⟩ := newO X0 hx hZ hown (hw _ (List.mem_of_getElem? (i := 0) rfl)) (hw _ (List.mem_of_getElem? (i := 1) rfl)) (hw _ (List.mem_of_getElem? (i := 2) rfl)) e0 (g := (mkF m 0 #[.val (.long p0), .second, .unset, .unset, .unset, .unset, .unset, .unset, .unset, .unset, .unset, .unset, .unset, .unset, .unset, .unset, .unset, .unset, .unset] [])) rfl (hb hby at_0) (by decide) (by decide)
  obtain ⟨a1, g1⟩ : ∃ z, z = h0.size := ⟨_, rfl⟩
  rw [← g1] at A1 D1 st1
  have ge_a1 : n0 ≤ a1 := Nat.le_trans Z0 (Nat.le_of_eq g1.symm)
  refine own_Goes.st ?_ st1
  have Z2 : n0 ≤ h1.size := Nat.le_trans Z0 E1.1
  have F3 : Fld Z h1 a1 "com/example/pushmap/pushmap/benchmark/SplitMix64" "state" "J" (.long (0 : Int64)) := D1 (Or.inl (hw _ (List.mem_of_getElem? (i := 10) rfl))) (ty := .long) (by decide)
  show own_Goes p.tables e below P (T1.setTop (mkF m 3 #[.val (.long p0), .second, .unset, .unset, .unset, .unset, .unset, .unset, .unset, .unset, .unset, .unset, .unset, .unset, .unset, .unset, .unset, .unset, .unset] [(.ref a1)]))
  refine own_Goes.st ?_ (fun _ k => XS.dup X1.here hx rfl (hb hby at_3) rfl rfl k)
  show own_Goes p.tables e below P (T1.setTop (mkF m 4 #[.val (.long p0), .second, .unset, .unset, .unset, .unset, .unset, .unset, .unset, .unset, .unset, .unset, .unset, .unset, .unset, .unset, .unset, .unset, .unset] [(.ref a1), (.ref a1)]))
  refine own_Goes.st ?_ (fun _ k => XS.lloadN X1.here hx rfl (hb hby at_4) rfl k)
  show own_Goes p.tables e below P (T1.setTop (mkF m 5 #[.val (.long p0), .second, .unset, .unset, .unset, .unset, .unset, .unset, .unset, .unset, .unset, .unset, .unset, .unset, .unset, .unset, .unset, .unset, .unset] [(.long p0), (.ref a1), (.ref a1)]))
  obtain ⟨_, _, ⟨T4, L4, k4, n4⟩, -, X4, ⟨Lc4, hQ4, l4, y4, z4⟩, st4⟩ := X1.specialBack hx (y := (⟨"com/example/pushmap/pushmap/benchmark/SplitMix64", "<init>", "(J)V"⟩ : MethodName)) rfl hown (mvT hZ (hw _ (List.mem_of_getElem? (i := 3) rfl))) (mvT hZ (hw _ (List.mem_of_getElem? (i := 4) rfl))) (mvT hZ (hw _ (List.mem_of_getElem? (i := 5) rfl))) (by decide) (backOf (W := 1) (rm_new l Z a0 hw [] a1 p0 (.long (0 : Int64)) h1 n0 Z2 A1 F3 ge_a1) hZ (hw _ (List.mem_of_getElem? (i := 5) rfl)) (hw _ (List.mem_of_getElem? (i := 2) rfl)) (by decide) (by decide)) (g := (mkF m 5 #[.val (.long p0), .second, .unset, .unset, .unset, .unset, .unset, .unset, .unset, .unset, .unset, .unset, .unset, .unset, .unset, .unset, .unset, .unset, .unset] [(.long p0), (.ref a1), (.ref a1)])) rfl (by rw [hml]; rfl) (Steps.refl _) (a := a1) (argsL := [(.long p0)]) (rest := [(.ref a1)]) (lenOf own_pd__28_J_29_V rfl) rfl (by show 2 * 0 + _ ≤ _; exact Nat.le_of_eq rfl) (hb hby at_5) (fun _ _ => ⟨rfl, e1, (by decide : 1 + 0 ≤ _), (by decide : 1 + 0 ≤ _)⟩)
  dsimp only [Pt.U, Pt.locs, Pt.cells, Pt.slots] at X4 l4 y4 z4 st4 hQ4
  subst l4 y4 z4
  obtain ⟨rfl, Nq4, K4, f5, f6⟩ := hQ4
  have N4 := Fr.app N0 Nq4
  refine own_Goes.tr st4 ?_
  have Z7 : n0 ≤ T4.heap.size := Nat.le_trans Z2 K4.1
  show own_Goes p.tables e below P (T4.setTop (mkF m 8 #[.val (.long p0), .second, .unset, .unset, .unset, .unset, .unset, .unset, .unset, .unset, .unset, .unset, .unset, .unset, .unset, .unset, .unset, .unset, .unset] [(.ref a1)]))
  refine own_Goes.st ?_ (fun _ k => XS.astoreN X4.here hx rfl (hb hby at_8) rfl rfl (l' := #[.val (.long p0), .second, .val (.ref a1), .unset, .unset, .unset, .unset, .unset, .unset, .unset, .unset, .unset, .unset, .unset, .unset, .unset, .unset, .unset, .unset]) rfl k)
  show own_Goes p.tables e below P (T4.setTop (mkF m 9 #[.val (.long p0), .second, .val (.ref a1), .unset, .unset, .unset, .unset, .unset, .unset, .unset, .unset, .unset, .unset, .unset, .unset, .unset, .unset, .unset, .unset] []))
  refine own_Goes.st ?_ (fun _ k => XS.aloadN X4.here hx rfl (hb hby at_9) rfl rfl k)
  show own_Goes p.tables e below P (T4.setTop (mkF m 10 #[.val (.long p0), .second, .val (.ref a1), .unset, .unset, .unset, .unset, .unset, .unset, .unset, .unset, .unset, .unset, .unset, .unset, .unset, .unset, .unset, .unset] [(.ref a1)]))
  obtain ⟨cq8, kq8, q8a, q8b, q8c⟩ := isOf hZ rfl f5
  obtain ⟨_, _, ⟨T8, L8, k8, n8⟩, -, X8, ⟨Lc8, hQ8, l8, y8, z8⟩, st8⟩ := X4.virtualBack hx (y := (⟨"com/example/pushmap/pushmap/benchmark/SplitMix64", "nextLong", "()J"⟩ : MethodName)) (z := (⟨"com/example/pushmap/pushmap/benchmark/SplitMix64", "nextLong", "()J"⟩ : MethodName)) hown (mvT hZ (hw _ (List.mem_of_getElem? (i := 11) rfl))) (mvT hZ (hw _ (List.mem_of_getElem? (i := 12) rfl))) (notFace_of_selects (args := #[]) (mvT hZ (hw _ (List.mem_of_getElem? (i := 14) rfl)))) (mvT hZ (hw _ (List.mem_of_getElem? (i := 14) rfl))) (mvT hZ (hw _ (List.mem_of_getElem? (i := 13) rfl))) (by decide) (backOf (W := 0) (rm_next l Z a0 hw [] a1 p0 T4.heap n0 Z7 f5 f6 ge_a1) hZ (hw _ (List.mem_of_getElem? (i := 15) rfl)) (hw _ (List.mem_of_getElem? (i := 2) rfl)) (by decide) (by decide)) q8a q8c (g := (mkF m 10 #[.val (.long p0), .second, .val (.ref a1), .unset, .unset, .unset, .unset, .unset, .unset, .unset, .unset, .unset, .unset, .unset, .unset, .unset, .unset, .unset, .unset] [(.ref a1)])) rfl (by rw [hml]; rfl) (Steps.refl _) (argsL := []) (rest := []) (lenOf own_pd__28__29_J rfl) rfl (by show 2 * 0 + _ ≤ _; exact Nat.le_of_eq rfl) (hb hby at_10) (fun _ _ => ⟨rfl, rfl, (by decide : 1 + 0 ≤ _), (by decide : 1 + 0 ≤ _)⟩)
  dsimp only [Pt.U, Pt.locs, Pt.cells, Pt.slots] at X8 l8 y8 z8 st8 hQ8
  subst l8 y8 z8
  obtain ⟨rfl, Nq8, K8, f9, f10⟩ := hQ8
  have N8 := Fr.app N4 Nq8
  refine own_Goes.tr st8 ?_
  have Z11 : n0 ≤ T8.heap.size := Nat.le_trans Z7 K8.1
  show own_Goes p.tables e below P (T8.setTop (mkF m 13 #[.val (.long p0), .second, .val (.ref a1), .unset, .unset, .unset, .unset, .unset, .unset, .unset, .unset, .unset, .unset, .unset, .unset, .unset, .unset, .unset, .unset] [(.long (own_mix (p0 + (-7046029254386353131 : Int64))))]))
  refine own_Goes.st ?_ (fun _ k => XS.lstoreN X8.here hx rfl (hb hby at_13) rfl (l' := #[.val (.long p0), .second, .val (.ref a1), .val (.long (own_mix (p0 + (-7046029254386353131 : Int64)))), .second, .unset, .unset, .unset, .unset, .unset, .unset, .unset, .unset, .unset, .unset, .unset, .unset, .unset, .unset]) rfl k)
  show own_Goes p.tables e below P (T8.setTop (mkF m 14 #[.val (.long p0), .second, .val (.ref a1), .val (.long (own_mix (p0 + (-7046029254386353131 : Int64)))), .second, .unset, .unset, .unset, .unset, .unset, .unset, .unset, .unset, .unset, .unset, .unset, .unset, .unset, .unset] []))
  refine own_Goes.st ?_ (fun _ k => XS.aloadN X8.here hx rfl (hb hby at_14) rfl rfl k)
  show own_Goes p.tables e below P (T8.setTop (mkF m 15 #[.val (.long p0), .second, .val (.ref a1), .val (.long (own_mix (p0 + (-7046029254386353131 : Int64)))), .second, .unset, .unset, .unset, .unset, .unset, .unset, .unset, .unset, .unset, .unset, .unset, .unset, .unset, .unset] [(.ref a1)]))
  obtain ⟨cq12, kq12, q12a, q12b, q12c⟩ := isOf hZ rfl f9
  obtain ⟨_, _, ⟨T12, L12, k12, n12⟩, -, X12, ⟨Lc12, hQ12, l12, y12, z12⟩, st12⟩ := X8.virtualBack hx (y := (⟨"com/example/pushmap/pushmap/benchmark/SplitMix64", "nextLong", "()J"⟩ : MethodName)) (z := (⟨"com/example/pushmap/pushmap/benchmark/SplitMix64", "nextLong", "()J"⟩ : MethodName)) hown (mvT hZ (hw _ (List.mem_of_getElem? (i := 11) rfl))) (mvT hZ (hw _ (List.mem_of_getElem? (i := 12) rfl))) (notFace_of_selects (args := #[]) (mvT hZ (hw _ (List.mem_of_getElem? (i := 14) rfl)))) (mvT hZ (hw _ (List.mem_of_getElem? (i := 14) rfl))) (mvT hZ (hw _ (List.mem_of_getElem? (i := 13) rfl))) (by decide) (backOf (W := 0) (rm_next l Z a0 hw [] a1 (p0 + (-7046029254386353131 : Int64)) T8.heap n0 Z11 f9 f10 ge_a1) hZ (hw _ (List.mem_of_getElem? (i := 15) rfl)) (hw _ (List.mem_of_getElem? (i := 2) rfl)) (by decide) (by decide)) q12a q12c (g := (mkF m 15 #[.val (.long p0), .second, .val (.ref a1), .val (.long (own_mix (p0 + (-7046029254386353131 : Int64)))), .second, .unset, .unset, .unset, .unset, .unset, .unset, .unset, .unset, .unset, .unset, .unset, .unset, .unset, .unset] [(.ref a1)])) rfl (by rw [hml]; rfl) (Steps.refl _) (argsL := []) (rest := []) (lenOf own_pd__28__29_J rfl) rfl (by show 2 * 0 + _ ≤ _; exact Nat.le_of_eq rfl) (hb hby at_15) (fun _ _ => ⟨rfl, rfl, (by decide : 1 + 0 ≤ _), (by decide : 1 + 0 ≤ _)⟩)
  dsimp only [Pt.U, Pt.locs, Pt.cells, Pt.slots] at X12 l12 y12 z12 st12 hQ12
  subst l12 y12 z12
  obtain ⟨rfl, Nq12, K12, f13, f14⟩ := hQ12
  have N12 := Fr.app N8 Nq12
  refine own_Goes.tr st12 ?_
  have Z15 : n0 ≤ T12.heap.size := Nat.le_trans Z11 K12.1
  show own_Goes p.tables e below P (T12.setTop (mkF m 18 #[.val (.long p0), .second, .val (.ref a1), .val (.long (own_mix (p0 + (-7046029254386353131 : Int64)))), .second, .unset, .unset, .unset, .unset, .unset, .unset, .unset, .unset, .unset, .unset, .unset, .unset, .unset, .unset] [(.long (own_mix ((p0 + (-7046029254386353131 : Int64)) + (-7046029254386353131 : Int64))))]))
  refine own_Goes.st ?_ (fun _ k => XS.lstore X12.here hx rfl (hb hby at_18) rfl (l' := #[.val (.long p0), .second, .val (.ref a1), .val (.long (own_mix (p0 + (-7046029254386353131 : Int64)))), .second, .val (.long (own_mix ((p0 + (-7046029254386353131 : Int64)) + (-7046029254386353131 : Int64)))), .second, .unset, .unset, .unset, .unset, .unset, .unset, .unset, .unset, .unset, .unset, .unset, .unset]) rfl k)
  show own_Goes p.tables e below P (T12.setTop (mkF m 20 #[.val (.long p0), .second, .val (.ref a1), .val (.long (own_mix (p0 + (-7046029254386353131 : Int64)))), .second, .val (.long (own_mix ((p0 + (-7046029254386353131 : Int64)) + (-7046029254386353131 : Int64)))), .second, .unset, .unset, .unset, .unset, .unset, .unset, .unset, .unset, .unset, .unset, .unset, .unset] []))
  obtain ⟨T16, h16, X16, e16, E16, A16, D16, -, st16⟩ := newO X12 hx hZ hown (hw _ (List.mem_of_getElem? (i := 0) rfl)) (hw _ (List.mem_of_getElem? (i := 1) rfl)) (hw _ (List.mem_of_getElem? (i := 2) rfl)) rfl (g := (mkF m 20 #[.val (.long p0), .second, .val (.ref a1), .val (.long (own_mix (p0 + (-7046029254386353131 : Int64)))), .second, .val (.long (own_mix ((p0 + (-7046029254386353131 : Int64)) + (-7046029254386353131 : Int64)))), .second, .unset, .unset, .unset, .unset, .unset, .unset, .unset, .unset, .unset, .unset, .unset, .unset] [])) rfl (hb hby at_20) (by decide) (by decide)
  obtain ⟨a16, g16⟩ : ∃ z, z = T12.heap.size := ⟨_, rfl⟩
  rw [← g16] at A16 D16 st16
  have ne17 : a1 ≠ a16 := Nat.ne_of_lt (Nat.lt_of_lt_of_eq f13.lt g16.symm)
  have ge_a16 : n0 ≤ a16 := Nat.le_trans Z15 (Nat.le_of_eq g16.symm)
  refine own_Goes.st ?_ st16
  have Z18 : n0 ≤ h16.size := Nat.le_trans Z15 E16.1
  have F19 : Fld Z h16 a16 "com/example/pushmap/pushmap/benchmark/SplitMix64" "state" "J" (.long (0 : Int64)) := D16 (Or.inl (hw _ (List.mem_of_getElem? (i := 10) rfl))) (ty := .long) (by decide)
  show own_Goes p.tables e below P (T16.setTop (mkF m 23 #[.val (.long p0), .second, .val (.ref a1), .val (.long (own_mix (p0 + (-7046029254386353131 : Int64)))), .second, .val (.long (own_mix ((p0 + (-7046029254386353131 : Int64)) + (-7046029254386353131 : Int64)))), .second, .unset, .unset, .unset, .unset, .unset, .unset, .unset, .unset, .unset, .unset, .unset, .unset] [(.ref a16)]))
  refine own_Goes.st ?_ (fun _ k => XS.dup X16.here hx rfl (hb hby at_23) rfl rfl k)
  show own_Goes p.tables e below P (T16.setTop (mkF m 24 #[.val (.long p0), .second, .val (.ref a1), .val (.long (own_mix (p0 + (-7046029254386353131 : Int64)))), .second, .val (.long (own_mix ((p0 + (-7046029254386353131 : Int64)) + (-7046029254386353131 : Int64)))), .second, .unset, .unset, .unset, .unset, .unset, .unset, .unset, .unset, .unset, .unset, .unset, .unset] [(.ref a16), (.ref a16)]))
  refine own_Goes.st ?_ (fun _ k => XS.lloadN X16.here hx rfl (hb hby at_24) rfl k)
  show own_Goes p.tables e below P (T16.setTop (mkF m 25 #[.val (.long p0), .second, .val (.ref a1), .val (.long (own_mix (p0 + (-7046029254386353131 : Int64)))), .second, .val (.long (own_mix ((p0 + (-7046029254386353131 : Int64)) + (-7046029254386353131 : Int64)))), .second, .unset, .unset, .unset, .unset, .unset, .unset, .unset, .unset, .unset, .unset, .unset, .unset] [(.long p0), (.ref a16), (.ref a16)]))
  refine own_Goes.st ?_ (X16.ldc2Long hx hown (mvT hZ (hw _ (List.mem_of_getElem? (i := 19) rfl))) (g := (mkF m 25 #[.val (.long p0), .second, .val (.ref a1), .val (.long (own_mix (p0 + (-7046029254386353131 : Int64)))), .second, .val (.long (own_mix ((p0 + (-7046029254386353131 : Int64)) + (-7046029254386353131 : Int64)))), .second, .unset, .unset, .unset, .unset, .unset, .unset, .unset, .unset, .unset, .unset, .unset, .unset] [(.long p0), (.ref a16), (.ref a16)])) rfl (hb hby at_25))
  show own_Goes p.tables e below P (T16.setTop (mkF m 28 #[.val (.long p0), .second, .val (.ref a1), .val (.long (own_mix (p0 + (-7046029254386353131 : Int64)))), .second, .val (.long (own_mix ((p0 + (-7046029254386353131 : Int64)) + (-7046029254386353131 : Int64)))), .second, .unset, .unset, .unset, .unset, .unset, .unset, .unset, .unset, .unset, .unset, .unset, .unset] [(.long (-7046029254386353131 : Int64)), (.long p0), (.ref a16), (.ref a16)]))
  refine own_Goes.st ?_ (fun _ k => XS.ladd X16.here hx rfl (hb hby at_28) rfl k)
  show own_Goes p.tables e below P (T16.setTop (mkF m 29 #[.val (.long p0), .second, .val (.ref a1), .val (.long (own_mix (p0 + (-7046029254386353131 : Int64)))), .second, .val (.long (own_mix ((p0 + (-7046029254386353131 : Int64)) + (-7046029254386353131 : Int64)))), .second, .unset, .unset, .unset, .unset, .unset, .unset, .unset, .unset, .unset, .unset, .unset, .unset] [(.long (p0 + (-7046029254386353131 : Int64))), (.ref a16), (.ref a16)]))
  obtain ⟨_, _, ⟨T20, L20, k20, n20⟩, -, X20, ⟨Lc20, hQ20, l20, y20, z20⟩, st20⟩ := X16.specialBack hx (y := (⟨"com/example/pushmap/pushmap/benchmark/SplitMix64", "<init>", "(J)V"⟩ : MethodName)) rfl hown (mvT hZ (hw _ (List.mem_of_getElem? (i := 3) rfl))) (mvT hZ (hw _ (List.mem_of_getElem? (i := 4) rfl))) (mvT hZ (hw _ (List.mem_of_getElem? (i := 5) rfl))) (by decide) (backOf (W := 1) (rm_new l Z a0 hw [] a16 (p0 + (-7046029254386353131 : Int64)) (.long (0 : Int64)) h16 n0 Z18 A16 F19 ge_a16) hZ (hw _ (List.mem_of_getElem? (i := 5) rfl)) (hw _ (List.mem_of_getElem? (i := 2) rfl)) (by decide) (by decide)) (g := (mkF m 29 #[.val (.long p0), .second, .val (.ref a1), .val (.long (own_mix (p0 + (-7046029254386353131 : Int64)))), .second, .val (.long (own_mix ((p0 + (-7046029254386353131 : Int64)) + (-7046029254386353131 : Int64)))), .second, .unset, .unset, .unset, .unset, .unset, .unset, .unset, .unset, .unset, .unset, .unset, .unset] [(.long (p0 + (-7046029254386353131 : Int64))), (.ref a16), (.ref a16)])) rfl (by rw [hml]; rfl) (Steps.refl _) (a := a16) (argsL := [(.long (p0 + (-7046029254386353131 : Int64)))]) (rest := [(.ref a16)]) (lenOf own_pd__28_J_29_V rfl) rfl (by show 2 * 0 + _ ≤ _; exact Nat.le_of_eq rfl) (hb hby at_29) (fun _ _ => ⟨rfl, e16, (by decide : 2 + 0 ≤ _), (by decide : 2 + 0 ≤ _)⟩)
  dsimp only [Pt.U, Pt.locs, Pt.cells, Pt.slots] at X20 l20 y20 z20 st20 hQ20
  subst l20 y20 z20
  obtain ⟨rfl, Nq20, K20, f21, f22⟩ := hQ20
  have N20 := Fr.app N12 Nq20
  refine own_Goes.tr st20 ?_
  have Z23 : n0 ≤ T20.heap.size := Nat.le_trans Z18 K20.1
  show own_Goes p.tables e below P (T20.setTop (mkF m 32 #[.val (.long p0), .second, .val (.ref a1), .val (.long (own_mix (p0 + (-7046029254386353131 : Int64)))), .second, .val (.long (own_mix ((p0 + (-7046029254386353131 : Int64)) + (-7046029254386353131 : Int64)))), .second, .unset, .unset, .unset, .unset, .unset, .unset, .unset, .unset, .unset, .unset, .unset, .unset] [(.ref a16)]))
  refine own_Goes.st ?_ (fun _ k => XS.astore X20.here hx rfl (hb hby at_32) rfl rfl (l' := #[.val (.long p0), .second, .val (.ref a1), .val (.long (own_mix (p0 + (-7046029254386353131 : Int64)))), .second, .val (.long (own_mix ((p0 + (-7046029254386353131 : Int64)) + (-7046029254386353131 : Int64)))), .second, .val (.ref a16), .unset, .unset, .unset, .unset, .unset, .unset, .unset, .unset, .unset, .unset, .unset]) rfl k)
  show own_Goes p.tables e below P (T20.setTop (mkF m 34 #[.val (.long p0), .second, .val (.ref a1), .val (.long (own_mix (p0 + (-7046029254386353131 : Int64)))), .second, .val (.long (own_mix ((p0 + (-7046029254386353131 : Int64)) + (-7046029254386353131 : Int64)))), .second, .val (.ref a16), .unset, .unset, .unset, .unset, .unset, .unset, .unset, .unset, .unset, .unset, .unset] []))
  refine own_Goes.st ?_ (fun _ k => XS.aload X20.here hx rfl (hb hby at_34) rfl rfl k)
  show own_Goes p.tables e below P (T20.setTop (mkF m 36 #[.val (.long p0), .second, .val (.ref a1), .val (.long (own_mix (p0 + (-7046029254386353131 : Int64)))), .second, .val (.long (own_mix ((p0 + (-7046029254386353131 : Int64)) + (-7046029254386353131 : Int64)))), .second, .val (.ref a16), .unset, .unset, .unset, .unset, .unset, .unset, .unset, .unset, .unset, .unset, .unset] [(.ref a16)]))
  obtain ⟨cq24, kq24, q24a, q24b, q24c⟩ := isOf hZ rfl f21
  obtain ⟨_, _, ⟨T24, L24, k24, n24⟩, -, X24, ⟨Lc24, hQ24, l24, y24, z24⟩, st24⟩ := X20.virtualBack hx (y := (⟨"com/example/pushmap/pushmap/benchmark/SplitMix64", "nextLong", "()J"⟩ : MethodName)) (z := (⟨"com/example/pushmap/pushmap/benchmark/SplitMix64", "nextLong", "()J"⟩ : MethodName)) hown (mvT hZ (hw _ (List.mem_of_getElem? (i := 11) rfl))) (mvT hZ (hw _ (List.mem_of_getElem? (i := 12) rfl))) (notFace_of_selects (args := #[]) (mvT hZ (hw _ (List.mem_of_getElem? (i := 14) rfl)))) (mvT hZ (hw _ (List.mem_of_getElem? (i := 14) rfl))) (mvT hZ (hw _ (List.mem_of_getElem? (i := 13) rfl))) (by decide) (backOf (W := 0) (rm_next l Z a0 hw [] a16 (p0 + (-7046029254386353131 : Int64)) T20.heap n0 Z23 f21 f22 ge_a16) hZ (hw _ (List.mem_of_getElem? (i := 15) rfl)) (hw _ (List.mem_of_getElem? (i := 2) rfl)) (by decide) (by decide)) q24a q24c (g := (mkF m 36 #[.val (.long p0), .second, .val (.ref a1), .val (.long (own_mix (p0 + (-7046029254386353131 : Int64)))), .second, .val (.long (own_mix ((p0 + (-7046029254386353131 : Int64)) + (-7046029254386353131 : Int64)))), .second, .val (.ref a16), .unset, .unset, .unset, .unset, .unset, .unset, .unset, .unset, .unset, .unset, .unset] [(.ref a16)])) rfl (by rw [hml]; rfl) (Steps.refl _) (argsL := []) (rest := []) (lenOf own_pd__28__29_J rfl) rfl (by show 2 * 0 + _ ≤ _; exact Nat.le_of_eq rfl) (hb hby at_36) (fun _ _ => ⟨rfl, rfl, (by decide : 2 + 0 ≤ _), (by decide : 2 + 0 ≤ _)⟩)
  dsimp only [Pt.U, Pt.locs, Pt.cells, Pt.slots] at X24 l24 y24 z24 st24 hQ24
  subst l24 y24 z24
  obtain ⟨rfl, Nq24, K24, f25, f26⟩ := hQ24
  have N24 := Fr.app N20 Nq24
  refine own_Goes.tr st24 ?_
  have Z27 : n0 ≤ T24.heap.size := Nat.le_trans Z23 K24.1
  show own_Goes p.tables e below P (T24.setTop (mkF m 39 #[.val (.long p0), .second, .val (.ref a1), .val (.long (own_mix (p0 + (-7046029254386353131 : Int64)))), .second, .val (.long (own_mix ((p0 + (-7046029254386353131 : Int64)) + (-7046029254386353131 : Int64)))), .second, .val (.ref a16), .unset, .unset, .unset, .unset, .unset, .unset, .unset, .unset, .unset, .unset, .unset] [(.long (own_mix ((p0 + (-7046029254386353131 : Int64)) + (-7046029254386353131 : Int64))))]))
  refine own_Goes.st ?_ (fun _ k => XS.lstore X24.here hx rfl (hb hby at_39) rfl (l' := #[.val (.long p0), .second, .val (.ref a1), .val (.long (own_mix (p0 + (-7046029254386353131 : Int64)))), .second, .val (.long (own_mix ((p0 + (-7046029254386353131 : Int64)) + (-7046029254386353131 : Int64)))), .second, .val (.ref a16), .val (.long (own_mix ((p0 + (-7046029254386353131 : Int64)) + (-7046029254386353131 : Int64)))), .second, .unset, .unset, .unset, .unset, .unset, .unset, .unset, .unset, .unset]) rfl k)
  show own_Goes p.tables e below P (T24.setTop (mkF m 41 #[.val (.long p0), .second, .val (.ref a1), .val (.long (own_mix (p0 + (-7046029254386353131 : Int64)))), .second, .val (.long (own_mix ((p0 + (-7046029254386353131 : Int64)) + (-7046029254386353131 : Int64)))), .second, .val (.ref a16), .val (.long (own_mix ((p0 + (-7046029254386353131 : Int64)) + (-7046029254386353131 : Int64)))), .second, .unset, .unset, .unset, .unset, .unset, .unset, .unset, .unset, .unset] []))
  obtain ⟨T28, h28, X28, e28, E28, A28, D28, -, st28⟩ := newO X24 hx hZ hown (hw _ (List.mem_of_getElem? (i := 0) rfl)) (hw _ (List.mem_of_getElem? (i := 1) rfl)) (hw _ (List.mem_of_getElem? (i := 2) rfl)) rfl (g := (mkF m 41 #[.val (.long p0), .second, .val (.ref a1), .val (.long (own_mix (p0 + (-7046029254386353131 : Int64)))), .second, .val (.long (own_mix ((p0 + (-7046029254386353131 : Int64)) + (-7046029254386353131 : Int64)))), .second, .val (.ref a16), .val (.long (own_mix ((p0 + (-7046029254386353131 : Int64)) + (-7046029254386353131 : Int64)))), .second, .unset, .unset, .unset, .unset, .unset, .unset, .unset, .unset, .unset] [])) rfl (hb hby at_41) (by decide) (by decide)
  obtain ⟨a28, g28⟩ : ∃ z, z = T24.heap.size := ⟨_, rfl⟩
  rw [← g28] at A28 D28 st28
  have F29 : Exa Z T24.heap a1 "com/example/pushmap/pushmap/benchmark/SplitMix64" := (((f13.ext E16).keep K20).keep K24)
  have ne30 : a1 ≠ a28 := Nat.ne_of_lt (Nat.lt_of_lt_of_eq F29.lt g28.symm)
  have ne31 : a16 ≠ a28 := Nat.ne_of_lt (Nat.lt_of_lt_of_eq f25.lt g28.symm)
  have ge_a28 : n0 ≤ a28 := Nat.le_trans Z27 (Nat.le_of_eq g28.symm)
  refine own_Goes.st ?_ st28
  have Z32 : n0 ≤ h28.size := Nat.le_trans Z27 E28.1
  have F33 : Fld Z h28 a28 "com/example/pushmap/pushmap/benchmark/SplitMix64" "state" "J" (.long (0 : Int64)) := D28 (Or.inl (hw _ (List.mem_of_getElem? (i := 10) rfl))) (ty := .long) (by decide)
  show own_Goes p.tables e below P (T28.setTop (mkF m 44 #[.val (.long p0), .second, .val (.ref a1), .val (.long (own_mix (p0 + (-7046029254386353131 : Int64)))), .second, .val (.long (own_mix ((p0 + (-7046029254386353131 : Int64)) + (-7046029254386353131 : Int64)))), .second, .val (.ref a16), .val (.long (own_mix ((p0 + (-7046029254386353131 : Int64)) + (-7046029254386353131 : Int64)))), .second, .unset, .unset, .unset, .unset, .unset, .unset, .unset, .unset, .unset] [(.ref a28)]))
  refine own_Goes.st ?_ (fun _ k => XS.dup X28.here hx rfl (hb hby at_44) rfl rfl k)
  show own_Goes p.tables e below P (T28.setTop (mkF m 45 #[.val (.long p0), .second, .val (.ref a1), .val (.long (own_mix (p0 + (-7046029254386353131 : Int64)))), .second, .val (.long (own_mix ((p0 + (-7046029254386353131 : Int64)) + (-7046029254386353131 : Int64)))), .second, .val (.ref a16), .val (.long (own_mix ((p0 + (-7046029254386353131 : Int64)) + (-7046029254386353131 : Int64)))), .second, .unset, .unset, .unset, .unset, .unset, .unset, .unset, .unset, .unset] [(.ref a28), (.ref a28)]))
  refine own_Goes.st ?_ (fun _ k => XS.lconst X28.here hx rfl (hb hby at_45) k)
  show own_Goes p.tables e below P (T28.setTop (mkF m 46 #[.val (.long p0), .second, .val (.ref a1), .val (.long (own_mix (p0 + (-7046029254386353131 : Int64)))), .second, .val (.long (own_mix ((p0 + (-7046029254386353131 : Int64)) + (-7046029254386353131 : Int64)))), .second, .val (.ref a16), .val (.long (own_mix ((p0 + (-7046029254386353131 : Int64)) + (-7046029254386353131 : Int64)))), .second, .unset, .unset, .unset, .unset, .unset, .unset, .unset, .unset, .unset] [(.long (0 : Int64)), (.ref a28), (.ref a28)]))
  obtain ⟨_, _, ⟨T34, L34, k34, n34⟩, -, X34, ⟨Lc34, hQ34, l34, y34, z34⟩, st34⟩ := X28.specialBack hx (y := (⟨"com/example/pushmap/pushmap/benchmark/SplitMix64", "<init>", "(J)V"⟩ : MethodName)) rfl hown (mvT hZ (hw _ (List.mem_of_getElem? (i := 3) rfl))) (mvT hZ (hw _ (List.mem_of_getElem? (i := 4) rfl))) (mvT hZ (hw _ (List.mem_of_getElem? (i := 5) rfl))) (by decide) (backOf (W := 1) (rm_new l Z a0 hw [] a28 (0 : Int64) (.long (0 : Int64)) h28 n0 Z32 A28 F33 ge_a28) hZ (hw _ (List.mem_of_getElem? (i := 5) rfl)) (hw _ (List.mem_of_getElem? (i := 2) rfl)) (by decide) (by decide)) (g := (mkF m 46 #[.val (.long p0), .second, .val (.ref a1), .val (.long (own_mix (p0 + (-7046029254386353131 : Int64)))), .second, .val (.long (own_mix ((p0 + (-7046029254386353131 : Int64)) + (-7046029254386353131 : Int64)))), .second, .val (.ref a16), .val (.long (own_mix ((p0 + (-7046029254386353131 : Int64)) + (-7046029254386353131 : Int64)))), .second, .unset, .unset, .unset, .unset, .unset, .unset, .unset, .unset, .unset] [(.long (0 : Int64)), (.ref a28), (.ref a28)])) rfl (by rw [hml]; rfl) (Steps.refl _) (a := a28) (argsL := [(.long (0 : Int64))]) (rest := [(.ref a28)]) (lenOf own_pd__28_J_29_V rfl) rfl (by show 2 * 0 + _ ≤ _; exact Nat.le_of_eq rfl) (hb hby at_46) (fun _ _ => ⟨rfl, e28, (by decide : 3 + 0 ≤ _), (by decide : 3 + 0 ≤ _)⟩)
  dsimp only [Pt.U, Pt.locs, Pt.cells, Pt.slots] at X34 l34 y34 z34 st34 hQ34
  subst l34 y34 z34
  obtain ⟨rfl, Nq34, K34, f35, f36⟩ := hQ34
  have N34 := Fr.app N24 Nq34
  refine own_Goes.tr st34 ?_
  have Z37 : n0 ≤ T34.heap.size := Nat.le_trans Z32 K34.1
  show own_Goes p.tables e below P (T34.setTop (mkF m 49 #[.val (.long p0), .second, .val (.ref a1), .val (.long (own_mix (p0 + (-7046029254386353131 : Int64)))), .second, .val (.long (own_mix ((p0 + (-7046029254386353131 : Int64)) + (-7046029254386353131 : Int64)))), .second, .val (.ref a16), .val (.long (own_mix ((p0 + (-7046029254386353131 : Int64)) + (-7046029254386353131 : Int64)))), .second, .unset, .unset, .unset, .unset, .unset, .unset, .unset, .unset, .unset] [(.ref a28)]))
  refine own_Goes.st ?_ (fun _ k => XS.astore X34.here hx rfl (hb hby at_49) rfl rfl (l' := #[.val (.long p0), .second, .val (.ref a1), .val (.long (own_mix (p0 + (-7046029254386353131 : Int64)))), .second, .val (.long (own_mix ((p0 + (-7046029254386353131 : Int64)) + (-7046029254386353131 : Int64)))), .second, .val (.ref a16), .val (.long (own_mix ((p0 + (-7046029254386353131 : Int64)) + (-7046029254386353131 : Int64)))), .second, .val (.ref a28), .unset, .unset, .unset, .unset, .unset, .unset, .unset, .unset]) rfl k)
  show own_Goes p.tables e below P (T34.setTop (mkF m 51 #[.val (.long p0), .second, .val (.ref a1), .val (.long (own_mix (p0 + (-7046029254386353131 : Int64)))), .second, .val (.long (own_mix ((p0 + (-7046029254386353131 : Int64)) + (-7046029254386353131 : Int64)))), .second, .val (.ref a16), .val (.long (own_mix ((p0 + (-7046029254386353131 : Int64)) + (-7046029254386353131 : Int64)))), .second, .val (.ref a28), .unset, .unset, .unset, .unset, .unset, .unset, .unset, .unset] []))
  refine own_Goes.st ?_ (fun _ k => XS.aload X34.here hx rfl (hb hby at_51) rfl rfl k)
  show own_Goes p.tables e below P (T34.setTop (mkF m 53 #[.val (.long p0), .second, .val (.ref a1), .val (.long (own_mix (p0 + (-7046029254386353131 : Int64)))), .second, .val (.long (own_mix ((p0 + (-7046029254386353131 : Int64)) + (-7046029254386353131 : Int64)))), .second, .val (.ref a16), .val (.long (own_mix ((p0 + (-7046029254386353131 : Int64)) + (-7046029254386353131 : Int64)))), .second, .val (.ref a28), .unset, .unset, .unset, .unset, .unset, .unset, .unset, .unset] [(.ref a28)]))
  obtain ⟨cq38, kq38, q38a, q38b, q38c⟩ := isOf hZ rfl f35
  obtain ⟨_, _, ⟨T38, L38, k38, n38⟩, -, X38, ⟨Lc38, hQ38, l38, y38, z38⟩, st38⟩ := X34.virtualBack hx (y := (⟨"com/example/pushmap/pushmap/benchmark/SplitMix64", "nextLong", "()J"⟩ : MethodName)) (z := (⟨"com/example/pushmap/pushmap/benchmark/SplitMix64", "nextLong", "()J"⟩ : MethodName)) hown (mvT hZ (hw _ (List.mem_of_getElem? (i := 11) rfl))) (mvT hZ (hw _ (List.mem_of_getElem? (i := 12) rfl))) (notFace_of_selects (args := #[]) (mvT hZ (hw _ (List.mem_of_getElem? (i := 14) rfl)))) (mvT hZ (hw _ (List.mem_of_getElem? (i := 14) rfl))) (mvT hZ (hw _ (List.mem_of_getElem? (i := 13) rfl))) (by decide) (backOf (W := 0) (rm_next l Z a0 hw [] a28 (0 : Int64) T34.heap n0 Z37 f35 f36 ge_a28) hZ (hw _ (List.mem_of_getElem? (i := 15) rfl)) (hw _ (List.mem_of_getElem? (i := 2) rfl)) (by decide) (by decide)) q38a q38c (g := (mkF m 53 #[.val (.long p0), .second, .val (.ref a1), .val (.long (own_mix (p0 + (-7046029254386353131 : Int64)))), .second, .val (.long (own_mix ((p0 + (-7046029254386353131 : Int64)) + (-7046029254386353131 : Int64)))), .second, .val (.ref a16), .val (.long (own_mix ((p0 + (-7046029254386353131 : Int64)) + (-7046029254386353131 : Int64)))), .second, .val (.ref a28), .unset, .unset, .unset, .unset, .unset, .unset, .unset, .unset] [(.ref a28)])) rfl (by rw [hml]; rfl) (Steps.refl _) (argsL := []) (rest := []) (lenOf own_pd__28__29_J rfl) rfl (by show 2 * 0 + _ ≤ _; exact Nat.le_of_eq rfl) (hb hby at_53) (fun _ _ => ⟨rfl, rfl, (by decide : 3 + 0 ≤ _), (by decide : 3 + 0 ≤ _)⟩)
  dsimp only [Pt.U, Pt.locs, Pt.cells, Pt.slots] at X38 l38 y38 z38 st38 hQ38
  subst l38 y38 z38
  obtain ⟨rfl, Nq38, K38, f39, f40⟩ := hQ38
  have N38 := Fr.app N34 Nq38
  refine own_Goes.tr st38 ?_
  have Z41 : n0 ≤ T38.heap.size := Nat.le_trans Z37 K38.1
  show own_Goes p.tables e below P (T38.setTop (mkF m 56 #[.val (.long p0), .second, .val (.ref a1), .val (.long (own_mix (p0 + (-7046029254386353131 : Int64)))), .second, .val (.long (own_mix ((p0 + (-7046029254386353131 : Int64)) + (-7046029254386353131 : Int64)))), .second, .val (.ref a16), .val (.long (own_mix ((p0 + (-7046029254386353131 : Int64)) + (-7046029254386353131 : Int64)))), .second, .val (.ref a28), .unset, .unset, .unset, .unset, .unset, .unset, .unset, .unset] [(.long (own_mix ((0 : Int64) + (-7046029254386353131 : Int64))))]))
  refine own_Goes.st ?_ (fun _ k => XS.lstore X38.here hx rfl (hb hby at_56) rfl (l' := #[.val (.long p0), .second, .val (.ref a1), .val (.long (own_mix (p0 + (-7046029254386353131 : Int64)))), .second, .val (.long (own_mix ((p0 + (-7046029254386353131 : Int64)) + (-7046029254386353131 : Int64)))), .second, .val (.ref a16), .val (.long (own_mix ((p0 + (-7046029254386353131 : Int64)) + (-7046029254386353131 : Int64)))), .second, .val (.ref a28), .val (.long (own_mix ((0 : Int64) + (-7046029254386353131 : Int64)))), .second, .unset, .unset, .unset, .unset, .unset, .unset]) rfl k)
  show own_Goes p.tables e below P (T38.setTop (mkF m 58 #[.val (.long p0), .second, .val (.ref a1), .val (.long (own_mix (p0 + (-7046029254386353131 : Int64)))), .second, .val (.long (own_mix ((p0 + (-7046029254386353131 : Int64)) + (-7046029254386353131 : Int64)))), .second, .val (.ref a16), .val (.long (own_mix ((p0 + (-7046029254386353131 : Int64)) + (-7046029254386353131 : Int64)))), .second, .val (.ref a28), .val (.long (own_mix ((0 : Int64) + (-7046029254386353131 : Int64)))), .second, .unset, .unset, .unset, .unset, .unset, .unset] []))
  refine own_Goes.st ?_ (fun _ k => XS.aload X38.here hx rfl (hb hby at_58) rfl rfl k)
  show own_Goes p.tables e below P (T38.setTop (mkF m 60 #[.val (.long p0), .second, .val (.ref a1), .val (.long (own_mix (p0 + (-7046029254386353131 : Int64)))), .second, .val (.long (own_mix ((p0 + (-7046029254386353131 : Int64)) + (-7046029254386353131 : Int64)))), .second, .val (.ref a16), .val (.long (own_mix ((p0 + (-7046029254386353131 : Int64)) + (-7046029254386353131 : Int64)))), .second, .val (.ref a28), .val (.long (own_mix ((0 : Int64) + (-7046029254386353131 : Int64)))), .second, .unset, .unset, .unset, .unset, .unset, .unset] [(.ref a28)]))
  obtain ⟨cq42, kq42, q42a, q42b, q42c⟩ := isOf hZ rfl f39
  obtain ⟨_, _, ⟨T42, L42, k42, n42⟩, -, X42, ⟨Lc42, hQ42, l42, y42, z42⟩, st42⟩ := X38.virtualBack hx (y := (⟨"com/example/pushmap/pushmap/benchmark/SplitMix64", "nextLong", "()J"⟩ : MethodName)) (z := (⟨"com/example/pushmap/pushmap/benchmark/SplitMix64", "nextLong", "()J"⟩ : MethodName)) hown (mvT hZ (hw _ (List.mem_of_getElem? (i := 11) rfl))) (mvT hZ (hw _ (List.mem_of_getElem? (i := 12) rfl))) (notFace_of_selects (args := #[]) (mvT hZ (hw _ (List.mem_of_getElem? (i := 14) rfl)))) (mvT hZ (hw _ (List.mem_of_getElem? (i := 14) rfl))) (mvT hZ (hw _ (List.mem_of_getElem? (i := 13) rfl))) (by decide) (backOf (W := 0) (rm_next l Z a0 hw [] a28 ((0 : Int64) + (-7046029254386353131 : Int64)) T38.heap n0 Z41 f39 f40 ge_a28) hZ (hw _ (List.mem_of_getElem? (i := 15) rfl)) (hw _ (List.mem_of_getElem? (i := 2) rfl)) (by decide) (by decide)) q42a q42c (g := (mkF m 60 #[.val (.long p0), .second, .val (.ref a1), .val (.long (own_mix (p0 + (-7046029254386353131 : Int64)))), .second, .val (.long (own_mix ((p0 + (-7046029254386353131 : Int64)) + (-7046029254386353131 : Int64)))), .second, .val (.ref a16), .val (.long (own_mix ((p0 + (-7046029254386353131 : Int64)) + (-7046029254386353131 : Int64)))), .second, .val (.ref a28), .val (.long (own_mix ((0 : Int64) + (-7046029254386353131 : Int64)))), .second, .unset, .unset, .unset, .unset, .unset, .unset] [(.ref a28)])) rfl (by rw [hml]; rfl) (Steps.refl _) (argsL := []) (rest := []) (lenOf own_pd__28__29_J rfl) rfl (by show 2 * 0 + _ ≤ _; exact Nat.le_of_eq rfl) (hb hby at_60) (fun _ _ => ⟨rfl, rfl, (by decide : 3 + 0 ≤ _), (by decide : 3 + 0 ≤ _)⟩)
  dsimp only [Pt.U, Pt.locs, Pt.cells, Pt.slots] at X42 l42 y42 z42 st42 hQ42
  subst l42 y42 z42
  obtain ⟨rfl, Nq42, K42, f43, f44⟩ := hQ42
  have N42 := Fr.app N38 Nq42
  refine own_Goes.tr st42 ?_
  have Z45 : n0 ≤ T42.heap.size := Nat.le_trans Z41 K42.1
  show own_Goes p.tables e below P (T42.setTop (mkF m 63 #[.val (.long p0), .second, .val (.ref a1), .val (.long (own_mix (p0 + (-7046029254386353131 : Int64)))), .second, .val (.long (own_mix ((p0 + (-7046029254386353131 : Int64)) + (-7046029254386353131 : Int64)))), .second, .val (.ref a16), .val (.long (own_mix ((p0 + (-7046029254386353131 : Int64)) + (-7046029254386353131 : Int64)))), .second, .val (.ref a28), .val (.long (own_mix ((0 : Int64) + (-7046029254386353131 : Int64)))), .second, .unset, .unset, .unset, .unset, .unset, .unset] [(.long (own_mix (((0 : Int64) + (-7046029254386353131 : Int64)) + (-7046029254386353131 : Int64))))]))
  refine own_Goes.st ?_ (fun _ k => XS.lstore X42.here hx rfl (hb hby at_63) rfl (l' := #[.val (.long p0), .second, .val (.ref a1), .val (.long (own_mix (p0 + (-7046029254386353131 : Int64)))), .second, .val (.long (own_mix ((p0 + (-7046029254386353131 : Int64)) + (-7046029254386353131 : Int64)))), .second, .val (.ref a16), .val (.long (own_mix ((p0 + (-7046029254386353131 : Int64)) + (-7046029254386353131 : Int64)))), .second, .val (.ref a28), .val (.long (own_mix ((0 : Int64) + (-7046029254386353131 : Int64)))), .second, .val (.long (own_mix (((0 : Int64) + (-7046029254386353131 : Int64)) + (-7046029254386353131 : Int64)))), .second, .unset, .unset, .unset, .unset]) rfl k)
  show own_Goes p.tables e below P (T42.setTop (mkF m 65 #[.val (.long p0), .second, .val (.ref a1), .val (.long (own_mix (p0 + (-7046029254386353131 : Int64)))), .second, .val (.long (own_mix ((p0 + (-7046029254386353131 : Int64)) + (-7046029254386353131 : Int64)))), .second, .val (.ref a16), .val (.long (own_mix ((p0 + (-7046029254386353131 : Int64)) + (-7046029254386353131 : Int64)))), .second, .val (.ref a28), .val (.long (own_mix ((0 : Int64) + (-7046029254386353131 : Int64)))), .second, .val (.long (own_mix (((0 : Int64) + (-7046029254386353131 : Int64)) + (-7046029254386353131 : Int64)))), .second, .unset, .unset, .unset, .unset] []))
  refine own_Goes.st ?_ (fun _ k => XS.aload X42.here hx rfl (hb hby at_65) rfl rfl k)
  show own_Goes p.tables e below P (T42.setTop (mkF m 67 #[.val (.long p0), .second, .val (.ref a1), .val (.long (own_mix (p0 + (-7046029254386353131 : Int64)))), .second, .val (.long (own_mix ((p0 + (-7046029254386353131 : Int64)) + (-7046029254386353131 : Int64)))), .second, .val (.ref a16), .val (.long (own_mix ((p0 + (-7046029254386353131 : Int64)) + (-7046029254386353131 : Int64)))), .second, .val (.ref a28), .val (.long (own_mix ((0 : Int64) + (-7046029254386353131 : Int64)))), .second, .val (.long (own_mix (((0 : Int64) + (-7046029254386353131 : Int64)) + (-7046029254386353131 : Int64)))), .second, .unset, .unset, .unset, .unset] [(.ref a28)]))
  obtain ⟨cq46, kq46, q46a, q46b, q46c⟩ := isOf hZ rfl f43
  obtain ⟨_, _, ⟨T46, L46, k46, n46⟩, -, X46, ⟨Lc46, hQ46, l46, y46, z46⟩, st46⟩ := X42.virtualBack hx (y := (⟨"com/example/pushmap/pushmap/benchmark/SplitMix64", "nextLong", "()J"⟩ : MethodName)) (z := (⟨"com/example/pushmap/pushmap/benchmark/SplitMix64", "nextLong", "()J"⟩ : MethodName)) hown (mvT hZ (hw _ (List.mem_of_getElem? (i := 11) rfl))) (mvT hZ (hw _ (List.mem_of_getElem? (i := 12) rfl))) (notFace_of_selects (args := #[]) (mvT hZ (hw _ (List.mem_of_getElem? (i := 14) rfl)))) (mvT hZ (hw _ (List.mem_of_getElem? (i := 14) rfl))) (mvT hZ (hw _ (List.mem_of_getElem? (i := 13) rfl))) (by decide) (backOf (W := 0) (rm_next l Z a0 hw [] a28 (((0 : Int64) + (-7046029254386353131 : Int64)) + (-7046029254386353131 : Int64)) T42.heap n0 Z45 f43 f44 ge_a28) hZ (hw _ (List.mem_of_getElem? (i := 15) rfl)) (hw _ (List.mem_of_getElem? (i := 2) rfl)) (by decide) (by decide)) q46a q46c (g := (mkF m 67 #[.val (.long p0), .second, .val (.ref a1), .val (.long (own_mix (p0 + (-7046029254386353131 : Int64)))), .second, .val (.long (own_mix ((p0 + (-7046029254386353131 : Int64)) + (-7046029254386353131 : Int64)))), .second, .val (.ref a16), .val (.long (own_mix ((p0 + (-7046029254386353131 : Int64)) + (-7046029254386353131 : Int64)))), .second, .val (.ref a28), .val (.long (own_mix ((0 : Int64) + (-7046029254386353131 : Int64)))), .second, .val (.long (own_mix (((0 : Int64) + (-7046029254386353131 : Int64)) + (-7046029254386353131 : Int64)))), .second, .unset, .unset, .unset, .unset] [(.ref a28)])) rfl (by rw [hml]; rfl) (Steps.refl _) (argsL := []) (rest := []) (lenOf own_pd__28__29_J rfl) rfl (by show 2 * 0 + _ ≤ _; exact Nat.le_of_eq rfl) (hb hby at_67) (fun _ _ => ⟨rfl, rfl, (by decide : 3 + 0 ≤ _), (by decide : 3 + 0 ≤ _)⟩)
  dsimp only [Pt.U, Pt.locs, Pt.cells, Pt.slots] at X46 l46 y46 z46 st46 hQ46
  subst l46 y46 z46
  obtain ⟨rfl, Nq46, K46, f47, f48⟩ := hQ46
  have N46 := Fr.app N42 Nq46
  refine own_Goes.tr st46 ?_
  have Z49 : n0 ≤ T46.heap.size := Nat.le_trans Z45 K46.1
  show own_Goes p.tables e below P (T46.setTop (mkF m 70 #[.val (.long p0), .second, .val (.ref a1), .val (.long (own_mix (p0 + (-7046029254386353131 : Int64)))), .second, .val (.long (own_mix ((p0 + (-7046029254386353131 : Int64)) + (-7046029254386353131 : Int64)))), .second, .val (.ref a16), .val (.long (own_mix ((p0 + (-7046029254386353131 : Int64)) + (-7046029254386353131 : Int64)))), .second, .val (.ref a28), .val (.long (own_mix ((0 : Int64) + (-7046029254386353131 : Int64)))), .second, .val (.long (own_mix (((0 : Int64) + (-7046029254386353131 : Int64)) + (-7046029254386353131 : Int64)))), .second, .unset, .unset, .unset, .unset] [(.long (own_mix ((((0 : Int64) + (-7046029254386353131 : Int64)) + (-7046029254386353131 : Int64)) + (-7046029254386353131 : Int64))))]))
  refine own_Goes.st ?_ (fun _ k => XS.lstore X46.here hx rfl (hb hby at_70) rfl (l' := #[.val (.long p0), .second, .val (.ref a1), .val (.long (own_mix (p0 + (-7046029254386353131 : Int64)))), .second, .val (.long (own_mix ((p0 + (-7046029254386353131 : Int64)) + (-7046029254386353131 : Int64)))), .second, .val (.ref a16), .val (.long (own_mix ((p0 + (-7046029254386353131 : Int64)) + (-7046029254386353131 : Int64)))), .second, .val (.ref a28), .val (.long (own_mix ((0 : Int64) + (-7046029254386353131 : Int64)))), .second, .val (.long (own_mix (((0 : Int64) + (-7046029254386353131 : Int64)) + (-7046029254386353131 : Int64)))), .second, .val (.long (own_mix ((((0 : Int64) + (-7046029254386353131 : Int64)) + (-7046029254386353131 : Int64)) + (-7046029254386353131 : Int64)))), .second, .unset, .unset]) rfl k)
  show own_Goes p.tables e below P (T46.setTop (mkF m 72 #[.val (.long p0), .second, .val (.ref a1), .val (.long (own_mix (p0 + (-7046029254386353131 : Int64)))), .second, .val (.long (own_mix ((p0 + (-7046029254386353131 : Int64)) + (-7046029254386353131 : Int64)))), .second, .val (.ref a16), .val (.long (own_mix ((p0 + (-7046029254386353131 : Int64)) + (-7046029254386353131 : Int64)))), .second, .val (.ref a28), .val (.long (own_mix ((0 : Int64) + (-7046029254386353131 : Int64)))), .second, .val (.long (own_mix (((0 : Int64) + (-7046029254386353131 : Int64)) + (-7046029254386353131 : Int64)))), .second, .val (.long (own_mix ((((0 : Int64) + (-7046029254386353131 : Int64)) + (-7046029254386353131 : Int64)) + (-7046029254386353131 : Int64)))), .second, .unset, .unset] []))
  refine own_Goes.st ?_ (fun _ k => XS.lload X46.here hx rfl (hb hby at_72) rfl k)
  show own_Goes p.tables e below P (T46.setTop (mkF m 74 #[.val (.long p0), .second, .val (.ref a1), .val (.long (own_mix (p0 + (-7046029254386353131 : Int64)))), .second, .val (.long (own_mix ((p0 + (-7046029254386353131 : Int64)) + (-7046029254386353131 : Int64)))), .second, .val (.ref a16), .val (.long (own_mix ((p0 + (-7046029254386353131 : Int64)) + (-7046029254386353131 : Int64)))), .second, .val (.ref a28), .val (.long (own_mix ((0 : Int64) + (-7046029254386353131 : Int64)))), .second, .val (.long (own_mix (((0 : Int64) + (-7046029254386353131 : Int64)) + (-7046029254386353131 : Int64)))), .second, .val (.long (own_mix ((((0 : Int64) + (-7046029254386353131 : Int64)) + (-7046029254386353131 : Int64)) + (-7046029254386353131 : Int64)))), .second, .unset, .unset] [(.long (own_mix ((p0 + (-7046029254386353131 : Int64)) + (-7046029254386353131 : Int64))))]))
  refine own_Goes.st ?_ (fun _ k => XS.lload X46.here hx rfl (hb hby at_74) rfl k)
  show own_Goes p.tables e below P (T46.setTop (mkF m 76 #[.val (.long p0), .second, .val (.ref a1), .val (.long (own_mix (p0 + (-7046029254386353131 : Int64)))), .second, .val (.long (own_mix ((p0 + (-7046029254386353131 : Int64)) + (-7046029254386353131 : Int64)))), .second, .val (.ref a16), .val (.long (own_mix ((p0 + (-7046029254386353131 : Int64)) + (-7046029254386353131 : Int64)))), .second, .val (.ref a28), .val (.long (own_mix ((0 : Int64) + (-7046029254386353131 : Int64)))), .second, .val (.long (own_mix (((0 : Int64) + (-7046029254386353131 : Int64)) + (-7046029254386353131 : Int64)))), .second, .val (.long (own_mix ((((0 : Int64) + (-7046029254386353131 : Int64)) + (-7046029254386353131 : Int64)) + (-7046029254386353131 : Int64)))), .second, .unset, .unset] [(.long (own_mix ((p0 + (-7046029254386353131 : Int64)) + (-7046029254386353131 : Int64)))), (.long (own_mix ((p0 + (-7046029254386353131 : Int64)) + (-7046029254386353131 : Int64))))]))
  refine own_Goes.st ?_ (fun _ k => XS.lcmp X46.here hx rfl (hb hby at_76) rfl k)
  show own_Goes p.tables e below P (T46.setTop (mkF m 77 #[.val (.long p0), .second, .val (.ref a1), .val (.long (own_mix (p0 + (-7046029254386353131 : Int64)))), .second, .val (.long (own_mix ((p0 + (-7046029254386353131 : Int64)) + (-7046029254386353131 : Int64)))), .second, .val (.ref a16), .val (.long (own_mix ((p0 + (-7046029254386353131 : Int64)) + (-7046029254386353131 : Int64)))), .second, .val (.ref a28), .val (.long (own_mix ((0 : Int64) + (-7046029254386353131 : Int64)))), .second, .val (.long (own_mix (((0 : Int64) + (-7046029254386353131 : Int64)) + (-7046029254386353131 : Int64)))), .second, .val (.long (own_mix ((((0 : Int64) + (-7046029254386353131 : Int64)) + (-7046029254386353131 : Int64)) + (-7046029254386353131 : Int64)))), .second, .unset, .unset] [(.int (lcmpW (own_mix ((p0 + (-7046029254386353131 : Int64)) + (-7046029254386353131 : Int64))) (own_mix ((p0 + (-7046029254386353131 : Int64)) + (-7046029254386353131 : Int64)))))]))
  refine own_Goes.st ?_ (fun _ k => XS.ifNo X46.here hx rfl (hb hby at_77) rfl ((if0 _ _).trans (teq ((lw_eq _ _).mpr rfl)).2) k)
  show own_Goes p.tables e below P (T46.setTop (mkF m 80 #[.val (.long p0), .second, .val (.ref a1), .val (.long (own_mix (p0 + (-7046029254386353131 : Int64)))), .second, .val (.long (own_mix ((p0 + (-7046029254386353131 : Int64)) + (-7046029254386353131 : Int64)))), .second, .val (.ref a16), .val (.long (own_mix ((p0 + (-7046029254386353131 : Int64)) + (-7046029254386353131 : Int64)))), .second, .val (.ref a28), .val (.long (own_mix ((0 : Int64) + (-7046029254386353131 : Int64)))), .second, .val (.long (own_mix (((0 : Int64) + (-7046029254386353131 : Int64)) + (-7046029254386353131 : Int64)))), .second, .val (.long (own_mix ((((0 : Int64) + (-7046029254386353131 : Int64)) + (-7046029254386353131 : Int64)) + (-7046029254386353131 : Int64)))), .second, .unset, .unset] []))
  refine own_Goes.st ?_ (fun _ k => XS.lloadN X46.here hx rfl (hb hby at_80) rfl k)
  show own_Goes p.tables e below P (T46.setTop (mkF m 81 #[.val (.long p0), .second, .val (.ref a1), .val (.long (own_mix (p0 + (-7046029254386353131 : Int64)))), .second, .val (.long (own_mix ((p0 + (-7046029254386353131 : Int64)) + (-7046029254386353131 : Int64)))), .second, .val (.ref a16), .val (.long (own_mix ((p0 + (-7046029254386353131 : Int64)) + (-7046029254386353131 : Int64)))), .second, .val (.ref a28), .val (.long (own_mix ((0 : Int64) + (-7046029254386353131 : Int64)))), .second, .val (.long (own_mix (((0 : Int64) + (-7046029254386353131 : Int64)) + (-7046029254386353131 : Int64)))), .second, .val (.long (own_mix ((((0 : Int64) + (-7046029254386353131 : Int64)) + (-7046029254386353131 : Int64)) + (-7046029254386353131 : Int64)))), .second, .unset, .unset] [(.long (own_mix (p0 + (-7046029254386353131 : Int64))))]))
  refine own_Goes.st ?_ (fun _ k => XS.lload X46.here hx rfl (hb hby at_81) rfl k)
  show own_Goes p.tables e below P (T46.setTop (mkF m 83 #[.val (.long p0), .second, .val (.ref a1), .val (.long (own_mix (p0 + (-7046029254386353131 : Int64)))), .second, .val (.long (own_mix ((p0 + (-7046029254386353131 : Int64)) + (-7046029254386353131 : Int64)))), .second, .val (.ref a16), .val (.long (own_mix ((p0 + (-7046029254386353131 : Int64)) + (-7046029254386353131 : Int64)))), .second, .val (.ref a28), .val (.long (own_mix ((0 : Int64) + (-7046029254386353131 : Int64)))), .second, .val (.long (own_mix (((0 : Int64) + (-7046029254386353131 : Int64)) + (-7046029254386353131 : Int64)))), .second, .val (.long (own_mix ((((0 : Int64) + (-7046029254386353131 : Int64)) + (-7046029254386353131 : Int64)) + (-7046029254386353131 : Int64)))), .second, .unset, .unset] [(.long (own_mix ((p0 + (-7046029254386353131 : Int64)) + (-7046029254386353131 : Int64)))), (.long (own_mix (p0 + (-7046029254386353131 : Int64))))]))
  refine own_Goes.st ?_ (fun _ k => XS.lcmp X46.here hx rfl (hb hby at_83) rfl k)
  show own_Goes p.tables e below P (T46.setTop (mkF m 84 #[.val (.long p0), .second, .val (.ref a1), .val (.long (own_mix (p0 + (-7046029254386353131 : Int64)))), .second, .val (.long (own_mix ((p0 + (-7046029254386353131 : Int64)) + (-7046029254386353131 : Int64)))), .second, .val (.ref a16), .val (.long (own_mix ((p0 + (-7046029254386353131 : Int64)) + (-7046029254386353131 : Int64)))), .second, .val (.ref a28), .val (.long (own_mix ((0 : Int64) + (-7046029254386353131 : Int64)))), .second, .val (.long (own_mix (((0 : Int64) + (-7046029254386353131 : Int64)) + (-7046029254386353131 : Int64)))), .second, .val (.long (own_mix ((((0 : Int64) + (-7046029254386353131 : Int64)) + (-7046029254386353131 : Int64)) + (-7046029254386353131 : Int64)))), .second, .unset, .unset] [(.int (lcmpW (own_mix (p0 + (-7046029254386353131 : Int64))) (own_mix ((p0 + (-7046029254386353131 : Int64)) + (-7046029254386353131 : Int64)))))]))
  refine own_Goes.st ?_ (fun _ k => XS.ifNo X46.here hx rfl (hb hby at_84) rfl ((if0 _ _).trans (feq (fun q => (own_ne p0) ((lw_eq _ _).mp q))).1) k)
  show own_Goes p.tables e below P (T46.setTop (mkF m 87 #[.val (.long p0), .second, .val (.ref a1), .val (.long (own_mix (p0 + (-7046029254386353131 : Int64)))), .second, .val (.long (own_mix ((p0 + (-7046029254386353131 : Int64)) + (-7046029254386353131 : Int64)))), .second, .val (.ref a16), .val (.long (own_mix ((p0 + (-7046029254386353131 : Int64)) + (-7046029254386353131 : Int64)))), .second, .val (.ref a28), .val (.long (own_mix ((0 : Int64) + (-7046029254386353131 : Int64)))), .second, .val (.long (own_mix (((0 : Int64) + (-7046029254386353131 : Int64)) + (-7046029254386353131 : Int64)))), .second, .val (.long (own_mix ((((0 : Int64) + (-7046029254386353131 : Int64)) + (-7046029254386353131 : Int64)) + (-7046029254386353131 : Int64)))), .second, .unset, .unset] []))
  refine own_Goes.st ?_ (fun _ k => XS.iconst X46.here hx rfl (hb hby at_87) k)
  show own_Goes p.tables e below P (T46.setTop (mkF m 88 #[.val (.long p0), .second, .val (.ref a1), .val (.long (own_mix (p0 + (-7046029254386353131 : Int64)))), .second, .val (.long (own_mix ((p0 + (-7046029254386353131 : Int64)) + (-7046029254386353131 : Int64)))), .second, .val (.ref a16), .val (.long (own_mix ((p0 + (-7046029254386353131 : Int64)) + (-7046029254386353131 : Int64)))), .second, .val (.ref a28), .val (.long (own_mix ((0 : Int64) + (-7046029254386353131 : Int64)))), .second, .val (.long (own_mix (((0 : Int64) + (-7046029254386353131 : Int64)) + (-7046029254386353131 : Int64)))), .second, .val (.long (own_mix ((((0 : Int64) + (-7046029254386353131 : Int64)) + (-7046029254386353131 : Int64)) + (-7046029254386353131 : Int64)))), .second, .unset, .unset] [(.int (1 : Int32))]))
  refine own_Goes.st ?_ (fun _ k => XS.goto X46.here hx rfl (pc0 := 88) (pc' := 92) rfl (hb hby at_88) (by decide) (by decide) k)
  show own_Goes p.tables e below P (T46.setTop (mkF m 92 #[.val (.long p0), .second, .val (.ref a1), .val (.long (own_mix (p0 + (-7046029254386353131 : Int64)))), .second, .val (.long (own_mix ((p0 + (-7046029254386353131 : Int64)) + (-7046029254386353131 : Int64)))), .second, .val (.ref a16), .val (.long (own_mix ((p0 + (-7046029254386353131 : Int64)) + (-7046029254386353131 : Int64)))), .second, .val (.ref a28), .val (.long (own_mix ((0 : Int64) + (-7046029254386353131 : Int64)))), .second, .val (.long (own_mix (((0 : Int64) + (-7046029254386353131 : Int64)) + (-7046029254386353131 : Int64)))), .second, .val (.long (own_mix ((((0 : Int64) + (-7046029254386353131 : Int64)) + (-7046029254386353131 : Int64)) + (-7046029254386353131 : Int64)))), .second, .unset, .unset] [(.int (1 : Int32))]))
  refine own_Goes.st ?_ (fun _ k => XS.istore X46.here hx rfl (hb hby at_92) rfl (l' := #[.val (.long p0), .second, .val (.ref a1), .val (.long (own_mix (p0 + (-7046029254386353131 : Int64)))), .second, .val (.long (own_mix ((p0 + (-7046029254386353131 : Int64)) + (-7046029254386353131 : Int64)))), .second, .val (.ref a16), .val (.long (own_mix ((p0 + (-7046029254386353131 : Int64)) + (-7046029254386353131 : Int64)))), .second, .val (.ref a28), .val (.long (own_mix ((0 : Int64) + (-7046029254386353131 : Int64)))), .second, .val (.long (own_mix (((0 : Int64) + (-7046029254386353131 : Int64)) + (-7046029254386353131 : Int64)))), .second, .val (.long (own_mix ((((0 : Int64) + (-7046029254386353131 : Int64)) + (-7046029254386353131 : Int64)) + (-7046029254386353131 : Int64)))), .second, .val (.int (1 : Int32)), .unset]) rfl k)
  show own_Goes p.tables e below P (T46.setTop (mkF m 94 #[.val (.long p0), .second, .val (.ref a1), .val (.long (own_mix (p0 + (-7046029254386353131 : Int64)))), .second, .val (.long (own_mix ((p0 + (-7046029254386353131 : Int64)) + (-7046029254386353131 : Int64)))), .second, .val (.ref a16), .val (.long (own_mix ((p0 + (-7046029254386353131 : Int64)) + (-7046029254386353131 : Int64)))), .second, .val (.ref a28), .val (.long (own_mix ((0 : Int64) + (-7046029254386353131 : Int64)))), .second, .val (.long (own_mix (((0 : Int64) + (-7046029254386353131 : Int64)) + (-7046029254386353131 : Int64)))), .second, .val (.long (own_mix ((((0 : Int64) + (-7046029254386353131 : Int64)) + (-7046029254386353131 : Int64)) + (-7046029254386353131 : Int64)))), .second, .val (.int (1 : Int32)), .unset] []))
  refine own_Goes.st ?_ (fun _ k => XS.lload X46.here hx rfl (hb hby at_94) rfl k)
  show own_Goes p.tables e below P (T46.setTop (mkF m 96 #[.val (.long p0), .second, .val (.ref a1), .val (.long (own_mix (p0 + (-7046029254386353131 : Int64)))), .second, .val (.long (own_mix ((p0 + (-7046029254386353131 : Int64)) + (-7046029254386353131 : Int64)))), .second, .val (.ref a16), .val (.long (own_mix ((p0 + (-7046029254386353131 : Int64)) + (-7046029254386353131 : Int64)))), .second, .val (.ref a28), .val (.long (own_mix ((0 : Int64) + (-7046029254386353131 : Int64)))), .second, .val (.long (own_mix (((0 : Int64) + (-7046029254386353131 : Int64)) + (-7046029254386353131 : Int64)))), .second, .val (.long (own_mix ((((0 : Int64) + (-7046029254386353131 : Int64)) + (-7046029254386353131 : Int64)) + (-7046029254386353131 : Int64)))), .second, .val (.int (1 : Int32)), .unset] [(.long (own_mix ((0 : Int64) + (-7046029254386353131 : Int64))))]))
  refine own_Goes.st ?_ (X46.ldc2Long hx hown (mvT hZ (hw _ (List.mem_of_getElem? (i := 20) rfl))) (g := (mkF m 96 #[.val (.long p0), .second, .val (.ref a1), .val (.long (own_mix (p0 + (-7046029254386353131 : Int64)))), .second, .val (.long (own_mix ((p0 + (-7046029254386353131 : Int64)) + (-7046029254386353131 : Int64)))), .second, .val (.ref a16), .val (.long (own_mix ((p0 + (-7046029254386353131 : Int64)) + (-7046029254386353131 : Int64)))), .second, .val (.ref a28), .val (.long (own_mix ((0 : Int64) + (-7046029254386353131 : Int64)))), .second, .val (.long (own_mix (((0 : Int64) + (-7046029254386353131 : Int64)) + (-7046029254386353131 : Int64)))), .second, .val (.long (own_mix ((((0 : Int64) + (-7046029254386353131 : Int64)) + (-7046029254386353131 : Int64)) + (-7046029254386353131 : Int64)))), .second, .val (.int (1 : Int32)), .unset] [(.long (own_mix ((0 : Int64) + (-7046029254386353131 : Int64))))])) rfl (hb hby at_96))
  show own_Goes p.tables e below P (T46.setTop (mkF m 99 #[.val (.long p0), .second, .val (.ref a1), .val (.long (own_mix (p0 + (-7046029254386353131 : Int64)))), .second, .val (.long (own_mix ((p0 + (-7046029254386353131 : Int64)) + (-7046029254386353131 : Int64)))), .second, .val (.ref a16), .val (.long (own_mix ((p0 + (-7046029254386353131 : Int64)) + (-7046029254386353131 : Int64)))), .second, .val (.ref a28), .val (.long (own_mix ((0 : Int64) + (-7046029254386353131 : Int64)))), .second, .val (.long (own_mix (((0 : Int64) + (-7046029254386353131 : Int64)) + (-7046029254386353131 : Int64)))), .second, .val (.long (own_mix ((((0 : Int64) + (-7046029254386353131 : Int64)) + (-7046029254386353131 : Int64)) + (-7046029254386353131 : Int64)))), .second, .val (.int (1 : Int32)), .unset] [(.long (-2152535657050944081 : Int64)), (.long (own_mix ((0 : Int64) + (-7046029254386353131 : Int64))))]))
  refine own_Goes.st ?_ (fun _ k => XS.lcmp X46.here hx rfl (hb hby at_99) rfl k)
  show own_Goes p.tables e below P (T46.setTop (mkF m 100 #[.val (.long p0), .second, .val (.ref a1), .val (.long (own_mix (p0 + (-7046029254386353131 : Int64)))), .second, .val (.long (own_mix ((p0 + (-7046029254386353131 : Int64)) + (-7046029254386353131 : Int64)))), .second, .val (.ref a16), .val (.long (own_mix ((p0 + (-7046029254386353131 : Int64)) + (-7046029254386353131 : Int64)))), .second, .val (.ref a28), .val (.long (own_mix ((0 : Int64) + (-7046029254386353131 : Int64)))), .second, .val (.long (own_mix (((0 : Int64) + (-7046029254386353131 : Int64)) + (-7046029254386353131 : Int64)))), .second, .val (.long (own_mix ((((0 : Int64) + (-7046029254386353131 : Int64)) + (-7046029254386353131 : Int64)) + (-7046029254386353131 : Int64)))), .second, .val (.int (1 : Int32)), .unset] [(.int (lcmpW (own_mix ((0 : Int64) + (-7046029254386353131 : Int64))) (-2152535657050944081 : Int64)))]))
  refine own_Goes.st ?_ (fun _ k => XS.ifNo X46.here hx rfl (hb hby at_100) rfl ((if0 _ _).trans (teq ((lw_eq _ _).mpr (by decide +kernel))).2) k)
  show own_Goes p.tables e below P (T46.setTop (mkF m 103 #[.val (.long p0), .second, .val (.ref a1), .val (.long (own_mix (p0 + (-7046029254386353131 : Int64)))), .second, .val (.long (own_mix ((p0 + (-7046029254386353131 : Int64)) + (-7046029254386353131 : Int64)))), .second, .val (.ref a16), .val (.long (own_mix ((p0 + (-7046029254386353131 : Int64)) + (-7046029254386353131 : Int64)))), .second, .val (.ref a28), .val (.long (own_mix ((0 : Int64) + (-7046029254386353131 : Int64)))), .second, .val (.long (own_mix (((0 : Int64) + (-7046029254386353131 : Int64)) + (-7046029254386353131 : Int64)))), .second, .val (.long (own_mix ((((0 : Int64) + (-7046029254386353131 : Int64)) + (-7046029254386353131 : Int64)) + (-7046029254386353131 : Int64)))), .second, .val (.int (1 : Int32)), .unset] []))
  refine own_Goes.st ?_ (fun _ k => XS.lload X46.here hx rfl (hb hby at_103) rfl k)
  show own_Goes p.tables e below P (T46.setTop (mkF m 105 #[.val (.long p0), .second, .val (.ref a1), .val (.long (own_mix (p0 + (-7046029254386353131 : Int64)))), .second, .val (.long (own_mix ((p0 + (-7046029254386353131 : Int64)) + (-7046029254386353131 : Int64)))), .second, .val (.ref a16), .val (.long (own_mix ((p0 + (-7046029254386353131 : Int64)) + (-7046029254386353131 : Int64)))), .second, .val (.ref a28), .val (.long (own_mix ((0 : Int64) + (-7046029254386353131 : Int64)))), .second, .val (.long (own_mix (((0 : Int64) + (-7046029254386353131 : Int64)) + (-7046029254386353131 : Int64)))), .second, .val (.long (own_mix ((((0 : Int64) + (-7046029254386353131 : Int64)) + (-7046029254386353131 : Int64)) + (-7046029254386353131 : Int64)))), .second, .val (.int (1 : Int32)), .unset] [(.long (own_mix (((0 : Int64) + (-7046029254386353131 : Int64)) + (-7046029254386353131 : Int64))))]))
  refine own_Goes.st ?_ (X46.ldc2Long hx hown (mvT hZ (hw _ (List.mem_of_getElem? (i := 21) rfl))) (g := (mkF m 105 #[.val (.long p0), .second, .val (.ref a1), .val (.long (own_mix (p0 + (-7046029254386353131 : Int64)))), .second, .val (.long (own_mix ((p0 + (-7046029254386353131 : Int64)) + (-7046029254386353131 : Int64)))), .second, .val (.ref a16), .val (.long (own_mix ((p0 + (-7046029254386353131 : Int64)) + (-7046029254386353131 : Int64)))), .second, .val (.ref a28), .val (.long (own_mix ((0 : Int64) + (-7046029254386353131 : Int64)))), .second, .val (.long (own_mix (((0 : Int64) + (-7046029254386353131 : Int64)) + (-7046029254386353131 : Int64)))), .second, .val (.long (own_mix ((((0 : Int64) + (-7046029254386353131 : Int64)) + (-7046029254386353131 : Int64)) + (-7046029254386353131 : Int64)))), .second, .val (.int (1 : Int32)), .unset] [(.long (own_mix (((0 : Int64) + (-7046029254386353131 : Int64)) + (-7046029254386353131 : Int64))))])) rfl (hb hby at_105))
  show own_Goes p.tables e below P (T46.setTop (mkF m 108 #[.val (.long p0), .second, .val (.ref a1), .val (.long (own_mix (p0 + (-7046029254386353131 : Int64)))), .second, .val (.long (own_mix ((p0 + (-7046029254386353131 : Int64)) + (-7046029254386353131 : Int64)))), .second, .val (.ref a16), .val (.long (own_mix ((p0 + (-7046029254386353131 : Int64)) + (-7046029254386353131 : Int64)))), .second, .val (.ref a28), .val (.long (own_mix ((0 : Int64) + (-7046029254386353131 : Int64)))), .second, .val (.long (own_mix (((0 : Int64) + (-7046029254386353131 : Int64)) + (-7046029254386353131 : Int64)))), .second, .val (.long (own_mix ((((0 : Int64) + (-7046029254386353131 : Int64)) + (-7046029254386353131 : Int64)) + (-7046029254386353131 : Int64)))), .second, .val (.int (1 : Int32)), .unset] [(.long (7960286522194355700 : Int64)), (.long (own_mix (((0 : Int64) + (-7046029254386353131 : Int64)) + (-7046029254386353131 : Int64))))]))
  refine own_Goes.st ?_ (fun _ k => XS.lcmp X46.here hx rfl (hb hby at_108) rfl k)
  show own_Goes p.tables e below P (T46.setTop (mkF m 109 #[.val (.long p0), .second, .val (.ref a1), .val (.long (own_mix (p0 + (-7046029254386353131 : Int64)))), .second, .val (.long (own_mix ((p0 + (-7046029254386353131 : Int64)) + (-7046029254386353131 : Int64)))), .second, .val (.ref a16), .val (.long (own_mix ((p0 + (-7046029254386353131 : Int64)) + (-7046029254386353131 : Int64)))), .second, .val (.ref a28), .val (.long (own_mix ((0 : Int64) + (-7046029254386353131 : Int64)))), .second, .val (.long (own_mix (((0 : Int64) + (-7046029254386353131 : Int64)) + (-7046029254386353131 : Int64)))), .second, .val (.long (own_mix ((((0 : Int64) + (-7046029254386353131 : Int64)) + (-7046029254386353131 : Int64)) + (-7046029254386353131 : Int64)))), .second, .val (.int (1 : Int32)), .unset] [(.int (lcmpW (own_mix (((0 : Int64) + (-7046029254386353131 : Int64)) + (-7046029254386353131 : Int64))) (7960286522194355700 : Int64)))]))
  refine own_Goes.st ?_ (fun _ k => XS.ifNo X46.here hx rfl (hb hby at_109) rfl ((if0 _ _).trans (teq ((lw_eq _ _).mpr (by decide +kernel))).2) k)
  show own_Goes p.tables e below P (T46.setTop (mkF m 112 #[.val (.long p0), .second, .val (.ref a1), .val (.long (own_mix (p0 + (-7046029254386353131 : Int64)))), .second, .val (.long (own_mix ((p0 + (-7046029254386353131 : Int64)) + (-7046029254386353131 : Int64)))), .second, .val (.ref a16), .val (.long (own_mix ((p0 + (-7046029254386353131 : Int64)) + (-7046029254386353131 : Int64)))), .second, .val (.ref a28), .val (.long (own_mix ((0 : Int64) + (-7046029254386353131 : Int64)))), .second, .val (.long (own_mix (((0 : Int64) + (-7046029254386353131 : Int64)) + (-7046029254386353131 : Int64)))), .second, .val (.long (own_mix ((((0 : Int64) + (-7046029254386353131 : Int64)) + (-7046029254386353131 : Int64)) + (-7046029254386353131 : Int64)))), .second, .val (.int (1 : Int32)), .unset] []))
  refine own_Goes.st ?_ (fun _ k => XS.lload X46.here hx rfl (hb hby at_112) rfl k)
  show own_Goes p.tables e below P (T46.setTop (mkF m 114 #[.val (.long p0), .second, .val (.ref a1), .val (.long (own_mix (p0 + (-7046029254386353131 : Int64)))), .second, .val (.long (own_mix ((p0 + (-7046029254386353131 : Int64)) + (-7046029254386353131 : Int64)))), .second, .val (.ref a16), .val (.long (own_mix ((p0 + (-7046029254386353131 : Int64)) + (-7046029254386353131 : Int64)))), .second, .val (.ref a28), .val (.long (own_mix ((0 : Int64) + (-7046029254386353131 : Int64)))), .second, .val (.long (own_mix (((0 : Int64) + (-7046029254386353131 : Int64)) + (-7046029254386353131 : Int64)))), .second, .val (.long (own_mix ((((0 : Int64) + (-7046029254386353131 : Int64)) + (-7046029254386353131 : Int64)) + (-7046029254386353131 : Int64)))), .second, .val (.int (1 : Int32)), .unset] [(.long (own_mix ((((0 : Int64) + (-7046029254386353131 : Int64)) + (-7046029254386353131 : Int64)) + (-7046029254386353131 : Int64))))]))
  refine own_Goes.st ?_ (X46.ldc2Long hx hown (mvT hZ (hw _ (List.mem_of_getElem? (i := 22) rfl))) (g := (mkF m 114 #[.val (.long p0), .second, .val (.ref a1), .val (.long (own_mix (p0 + (-7046029254386353131 : Int64)))), .second, .val (.long (own_mix ((p0 + (-7046029254386353131 : Int64)) + (-7046029254386353131 : Int64)))), .second, .val (.ref a16), .val (.long (own_mix ((p0 + (-7046029254386353131 : Int64)) + (-7046029254386353131 : Int64)))), .second, .val (.ref a28), .val (.long (own_mix ((0 : Int64) + (-7046029254386353131 : Int64)))), .second, .val (.long (own_mix (((0 : Int64) + (-7046029254386353131 : Int64)) + (-7046029254386353131 : Int64)))), .second, .val (.long (own_mix ((((0 : Int64) + (-7046029254386353131 : Int64)) + (-7046029254386353131 : Int64)) + (-7046029254386353131 : Int64)))), .second, .val (.int (1 : Int32)), .unset] [(.long (own_mix ((((0 : Int64) + (-7046029254386353131 : Int64)) + (-7046029254386353131 : Int64)) + (-7046029254386353131 : Int64))))])) rfl (hb hby at_114))
  show own_Goes p.tables e below P (T46.setTop (mkF m 117 #[.val (.long p0), .second, .val (.ref a1), .val (.long (own_mix (p0 + (-7046029254386353131 : Int64)))), .second, .val (.long (own_mix ((p0 + (-7046029254386353131 : Int64)) + (-7046029254386353131 : Int64)))), .second, .val (.ref a16), .val (.long (own_mix ((p0 + (-7046029254386353131 : Int64)) + (-7046029254386353131 : Int64)))), .second, .val (.ref a28), .val (.long (own_mix ((0 : Int64) + (-7046029254386353131 : Int64)))), .second, .val (.long (own_mix (((0 : Int64) + (-7046029254386353131 : Int64)) + (-7046029254386353131 : Int64)))), .second, .val (.long (own_mix ((((0 : Int64) + (-7046029254386353131 : Int64)) + (-7046029254386353131 : Int64)) + (-7046029254386353131 : Int64)))), .second, .val (.int (1 : Int32)), .unset] [(.long (487617019471545679 : Int64)), (.long (own_mix ((((0 : Int64) + (-7046029254386353131 : Int64)) + (-7046029254386353131 : Int64)) + (-7046029254386353131 : Int64))))]))
  refine own_Goes.st ?_ (fun _ k => XS.lcmp X46.here hx rfl (hb hby at_117) rfl k)
  show own_Goes p.tables e below P (T46.setTop (mkF m 118 #[.val (.long p0), .second, .val (.ref a1), .val (.long (own_mix (p0 + (-7046029254386353131 : Int64)))), .second, .val (.long (own_mix ((p0 + (-7046029254386353131 : Int64)) + (-7046029254386353131 : Int64)))), .second, .val (.ref a16), .val (.long (own_mix ((p0 + (-7046029254386353131 : Int64)) + (-7046029254386353131 : Int64)))), .second, .val (.ref a28), .val (.long (own_mix ((0 : Int64) + (-7046029254386353131 : Int64)))), .second, .val (.long (own_mix (((0 : Int64) + (-7046029254386353131 : Int64)) + (-7046029254386353131 : Int64)))), .second, .val (.long (own_mix ((((0 : Int64) + (-7046029254386353131 : Int64)) + (-7046029254386353131 : Int64)) + (-7046029254386353131 : Int64)))), .second, .val (.int (1 : Int32)), .unset] [(.int (lcmpW (own_mix ((((0 : Int64) + (-7046029254386353131 : Int64)) + (-7046029254386353131 : Int64)) + (-7046029254386353131 : Int64))) (487617019471545679 : Int64)))]))
  refine own_Goes.st ?_ (fun _ k => XS.ifNo X46.here hx rfl (hb hby at_118) rfl ((if0 _ _).trans (teq ((lw_eq _ _).mpr (by decide +kernel))).2) k)
  show own_Goes p.tables e below P (T46.setTop (mkF m 121 #[.val (.long p0), .second, .val (.ref a1), .val (.long (own_mix (p0 + (-7046029254386353131 : Int64)))), .second, .val (.long (own_mix ((p0 + (-7046029254386353131 : Int64)) + (-7046029254386353131 : Int64)))), .second, .val (.ref a16), .val (.long (own_mix ((p0 + (-7046029254386353131 : Int64)) + (-7046029254386353131 : Int64)))), .second, .val (.ref a28), .val (.long (own_mix ((0 : Int64) + (-7046029254386353131 : Int64)))), .second, .val (.long (own_mix (((0 : Int64) + (-7046029254386353131 : Int64)) + (-7046029254386353131 : Int64)))), .second, .val (.long (own_mix ((((0 : Int64) + (-7046029254386353131 : Int64)) + (-7046029254386353131 : Int64)) + (-7046029254386353131 : Int64)))), .second, .val (.int (1 : Int32)), .unset] []))
  refine own_Goes.st ?_ (fun _ k => XS.iconst X46.here hx rfl (hb hby at_121) k)
  show own_Goes p.tables e below P (T46.setTop (mkF m 122 #[.val (.long p0), .second, .val (.ref a1), .val (.long (own_mix (p0 + (-7046029254386353131 : Int64)))), .second, .val (.long (own_mix ((p0 + (-7046029254386353131 : Int64)) + (-7046029254386353131 : Int64)))), .second, .val (.ref a16), .val (.long (own_mix ((p0 + (-7046029254386353131 : Int64)) + (-7046029254386353131 : Int64)))), .second, .val (.ref a28), .val (.long (own_mix ((0 : Int64) + (-7046029254386353131 : Int64)))), .second, .val (.long (own_mix (((0 : Int64) + (-7046029254386353131 : Int64)) + (-7046029254386353131 : Int64)))), .second, .val (.long (own_mix ((((0 : Int64) + (-7046029254386353131 : Int64)) + (-7046029254386353131 : Int64)) + (-7046029254386353131 : Int64)))), .second, .val (.int (1 : Int32)), .unset] [(.int (1 : Int32))]))
  refine own_Goes.st ?_ (fun _ k => XS.goto X46.here hx rfl (pc0 := 122) (pc' := 126) rfl (hb hby at_122) (by decide) (by decide) k)
  show own_Goes p.tables e below P (T46.setTop (mkF m 126 #[.val (.long p0), .second, .val (.ref a1), .val (.long (own_mix (p0 + (-7046029254386353131 : Int64)))), .second, .val (.long (own_mix ((p0 + (-7046029254386353131 : Int64)) + (-7046029254386353131 : Int64)))), .second, .val (.ref a16), .val (.long (own_mix ((p0 + (-7046029254386353131 : Int64)) + (-7046029254386353131 : Int64)))), .second, .val (.ref a28), .val (.long (own_mix ((0 : Int64) + (-7046029254386353131 : Int64)))), .second, .val (.long (own_mix (((0 : Int64) + (-7046029254386353131 : Int64)) + (-7046029254386353131 : Int64)))), .second, .val (.long (own_mix ((((0 : Int64) + (-7046029254386353131 : Int64)) + (-7046029254386353131 : Int64)) + (-7046029254386353131 : Int64)))), .second, .val (.int (1 : Int32)), .unset] [(.int (1 : Int32))]))
  refine own_Goes.st ?_ (fun _ k => XS.istore X46.here hx rfl (hb hby at_126) rfl (l' := #[.val (.long p0), .second, .val (.ref a1), .val (.long (own_mix (p0 + (-7046029254386353131 : Int64)))), .second, .val (.long (own_mix ((p0 + (-7046029254386353131 : Int64)) + (-7046029254386353131 : Int64)))), .second, .val (.ref a16), .val (.long (own_mix ((p0 + (-7046029254386353131 : Int64)) + (-7046029254386353131 : Int64)))), .second, .val (.ref a28), .val (.long (own_mix ((0 : Int64) + (-7046029254386353131 : Int64)))), .second, .val (.long (own_mix (((0 : Int64) + (-7046029254386353131 : Int64)) + (-7046029254386353131 : Int64)))), .second, .val (.long (own_mix ((((0 : Int64) + (-7046029254386353131 : Int64)) + (-7046029254386353131 : Int64)) + (-7046029254386353131 : Int64)))), .second, .val (.int (1 : Int32)), .val (.int (1 : Int32))]) rfl k)
  show own_Goes p.tables e below P (T46.setTop (mkF m 128 #[.val (.long p0), .second, .val (.ref a1), .val (.long (own_mix (p0 + (-7046029254386353131 : Int64)))), .second, .val (.long (own_mix ((p0 + (-7046029254386353131 : Int64)) + (-7046029254386353131 : Int64)))), .second, .val (.ref a16), .val (.long (own_mix ((p0 + (-7046029254386353131 : Int64)) + (-7046029254386353131 : Int64)))), .second, .val (.ref a28), .val (.long (own_mix ((0 : Int64) + (-7046029254386353131 : Int64)))), .second, .val (.long (own_mix (((0 : Int64) + (-7046029254386353131 : Int64)) + (-7046029254386353131 : Int64)))), .second, .val (.long (own_mix ((((0 : Int64) + (-7046029254386353131 : Int64)) + (-7046029254386353131 : Int64)) + (-7046029254386353131 : Int64)))), .second, .val (.int (1 : Int32)), .val (.int (1 : Int32))] []))
  refine own_Goes.st ?_ (fun _ k => XS.iload X46.here hx rfl (hb hby at_128) rfl k)
  show own_Goes p.tables e below P (T46.setTop (mkF m 130 #[.val (.long p0), .second, .val (.ref a1), .val (.long (own_mix (p0 + (-7046029254386353131 : Int64)))), .second, .val (.long (own_mix ((p0 + (-7046029254386353131 : Int64)) + (-7046029254386353131 : Int64)))), .second, .val (.ref a16), .val (.long (own_mix ((p0 + (-7046029254386353131 : Int64)) + (-7046029254386353131 : Int64)))), .second, .val (.ref a28), .val (.long (own_mix ((0 : Int64) + (-7046029254386353131 : Int64)))), .second, .val (.long (own_mix (((0 : Int64) + (-7046029254386353131 : Int64)) + (-7046029254386353131 : Int64)))), .second, .val (.long (own_mix ((((0 : Int64) + (-7046029254386353131 : Int64)) + (-7046029254386353131 : Int64)) + (-7046029254386353131 : Int64)))), .second, .val (.int (1 : Int32)), .val (.int (1 : Int32))] [(.int (1 : Int32))]))
  refine own_Goes.st ?_ (fun _ k => XS.ifNo X46.here hx rfl (hb hby at_130) rfl ((if0 _ _).trans (feq (by decide : ¬ ((1 : Int32) = (0 : Int32)))).1) k)
  show own_Goes p.tables e below P (T46.setTop (mkF m 133 #[.val (.long p0), .second, .val (.ref a1), .val (.long (own_mix (p0 + (-7046029254386353131 : Int64)))), .second, .val (.long (own_mix ((p0 + (-7046029254386353131 : Int64)) + (-7046029254386353131 : Int64)))), .second, .val (.ref a16), .val (.long (own_mix ((p0 + (-7046029254386353131 : Int64)) + (-7046029254386353131 : Int64)))), .second, .val (.ref a28), .val (.long (own_mix ((0 : Int64) + (-7046029254386353131 : Int64)))), .second, .val (.long (own_mix (((0 : Int64) + (-7046029254386353131 : Int64)) + (-7046029254386353131 : Int64)))), .second, .val (.long (own_mix ((((0 : Int64) + (-7046029254386353131 : Int64)) + (-7046029254386353131 : Int64)) + (-7046029254386353131 : Int64)))), .second, .val (.int (1 : Int32)), .val (.int (1 : Int32))] []))
  refine own_Goes.st ?_ (fun _ k => XS.iload X46.here hx rfl (hb hby at_133) rfl k)
  show own_Goes p.tables e below P (T46.setTop (mkF m 135 #[.val (.long p0), .second, .val (.ref a1), .val (.long (own_mix (p0 + (-7046029254386353131 : Int64)))), .second, .val (.long (own_mix ((p0 + (-7046029254386353131 : Int64)) + (-7046029254386353131 : Int64)))), .second, .val (.ref a16), .val (.long (own_mix ((p0 + (-7046029254386353131 : Int64)) + (-7046029254386353131 : Int64)))), .second, .val (.ref a28), .val (.long (own_mix ((0 : Int64) + (-7046029254386353131 : Int64)))), .second, .val (.long (own_mix (((0 : Int64) + (-7046029254386353131 : Int64)) + (-7046029254386353131 : Int64)))), .second, .val (.long (own_mix ((((0 : Int64) + (-7046029254386353131 : Int64)) + (-7046029254386353131 : Int64)) + (-7046029254386353131 : Int64)))), .second, .val (.int (1 : Int32)), .val (.int (1 : Int32))] [(.int (1 : Int32))]))
  refine own_Goes.st ?_ (fun _ k => XS.ifNo X46.here hx rfl (hb hby at_135) rfl ((if0 _ _).trans (feq (by decide : ¬ ((1 : Int32) = (0 : Int32)))).1) k)
  show own_Goes p.tables e below P (T46.setTop (mkF m 138 #[.val (.long p0), .second, .val (.ref a1), .val (.long (own_mix (p0 + (-7046029254386353131 : Int64)))), .second, .val (.long (own_mix ((p0 + (-7046029254386353131 : Int64)) + (-7046029254386353131 : Int64)))), .second, .val (.ref a16), .val (.long (own_mix ((p0 + (-7046029254386353131 : Int64)) + (-7046029254386353131 : Int64)))), .second, .val (.ref a28), .val (.long (own_mix ((0 : Int64) + (-7046029254386353131 : Int64)))), .second, .val (.long (own_mix (((0 : Int64) + (-7046029254386353131 : Int64)) + (-7046029254386353131 : Int64)))), .second, .val (.long (own_mix ((((0 : Int64) + (-7046029254386353131 : Int64)) + (-7046029254386353131 : Int64)) + (-7046029254386353131 : Int64)))), .second, .val (.int (1 : Int32)), .val (.int (1 : Int32))] []))
  refine own_Goes.st ?_ (fun _ k => XS.iconst X46.here hx rfl (hb hby at_138) k)
  show own_Goes p.tables e below P (T46.setTop (mkF m 139 #[.val (.long p0), .second, .val (.ref a1), .val (.long (own_mix (p0 + (-7046029254386353131 : Int64)))), .second, .val (.long (own_mix ((p0 + (-7046029254386353131 : Int64)) + (-7046029254386353131 : Int64)))), .second, .val (.ref a16), .val (.long (own_mix ((p0 + (-7046029254386353131 : Int64)) + (-7046029254386353131 : Int64)))), .second, .val (.ref a28), .val (.long (own_mix ((0 : Int64) + (-7046029254386353131 : Int64)))), .second, .val (.long (own_mix (((0 : Int64) + (-7046029254386353131 : Int64)) + (-7046029254386353131 : Int64)))), .second, .val (.long (own_mix ((((0 : Int64) + (-7046029254386353131 : Int64)) + (-7046029254386353131 : Int64)) + (-7046029254386353131 : Int64)))), .second, .val (.int (1 : Int32)), .val (.int (1 : Int32))] [(.int (1 : Int32))]))
  refine own_Goes.st ?_ (fun _ k => XS.goto X46.here hx rfl (pc0 := 139) (pc' := 143) rfl (hb hby at_139) (by decide) (by decide) k)
  show own_Goes p.tables e below P (T46.setTop (mkF m 143 #[.val (.long p0), .second, .val (.ref a1), .val (.long (own_mix (p0 + (-7046029254386353131 : Int64)))), .second, .val (.long (own_mix ((p0 + (-7046029254386353131 : Int64)) + (-7046029254386353131 : Int64)))), .second, .val (.ref a16), .val (.long (own_mix ((p0 + (-7046029254386353131 : Int64)) + (-7046029254386353131 : Int64)))), .second, .val (.ref a28), .val (.long (own_mix ((0 : Int64) + (-7046029254386353131 : Int64)))), .second, .val (.long (own_mix (((0 : Int64) + (-7046029254386353131 : Int64)) + (-7046029254386353131 : Int64)))), .second, .val (.long (own_mix ((((0 : Int64) + (-7046029254386353131 : Int64)) + (-7046029254386353131 : Int64)) + (-7046029254386353131 : Int64)))), .second, .val (.int (1 : Int32)), .val (.int (1 : Int32))] [(.int (1 : Int32))]))
  obtain ⟨fs, hr, hrun, hended, hW, hsame⟩ := X46.leave (v := some (.int (1 : Int32))) (fun h => by rw [Bd.returns] at h; cases h)
  exact own_Goes.fin _ _ (retOut X46 hx (t := .boolean) Bd.returns rfl (Or.inl ⟨rfl, Or.inr (Or.inl rfl), _, rfl⟩) (hb hby at_143) hr) (hPP _ _ ⟨hrun, hended, _, _, rfl, (by show Q_law n0 _ _; exact ⟨rfl, N46⟩), ⟨_, rfl⟩, hW, hsame.mono (by decide) (by decide)⟩)
set_option maxRecDepth 65536 in
set_option maxHeartbeats 40000000 in
theorem comes_1 {Post : Tables → Env → Array Value → State → Outcome → State → Prop} (hpost : ∀ tb e args s v u, (limb_1_1.after args s (.returned v) u = true ∧ limb_1_2.after args s (.returned v) u = true ∧ True) → FrameEnd s (.returned v) u (Jvm.fieldLocs frame_1_writes args s ++ Jvm.arrayLocs frame_1_arrays args s ++ Jvm.staticLocs frame_1_statics s) 16 128 → Post tb e args s (.returned v) u) :
    ArmFor flags0 classFile x code maxLocals ret World_1 tables_1 room_1 Calls_1 rest_1 Pre_1 Post := by
  intro l hfl _ _ p e ha hc hk s m args below hf hA hF happ hP
  obtain ⟨hcalls, hrest, hpre⟩ := hP
  obtain ⟨-, -, -, hnamed, -, -, -, hat⟩ := (Spec.applies_iff hf).mp happ
  obtain ⟨hg, hn⟩ := and_e (Cond.before_iff.mp (show (Jvm.Cond.and given_1 narrow_1).before args s = true from hpre))
  obtain ⟨hg0, hg1⟩ := and_e hg
  obtain ⟨w0, rfl⟩ : ∃ w0 : Value, args = #[w0] := by
    have hs : args.size = 1 := by simpa [Cond.value, given_1] using hg0
    obtain ⟨L⟩ := args
    match L, hs with
    | [w0], _ => exact ⟨w0, rfl⟩
  have hw := fun d (hd : d ∈ tables_1) => atoms_spec (ws := Jvm.Cond.code x code maxLocals ret :: tables_1) hat d (List.mem_cons_of_mem _ hd)
  have hfit : Fit s := fun {y c} hc i hi => by
    obtain ⟨ha, rfl⟩ := Array.getElem?_eq_some_iff.mp hc
    have q := List.all_eq_true.mp ((Array.all_eq_true_iff_forall_mem.mp hF) _ (Array.getElem_mem ha)) i (List.mem_range.mpr hi)
    simpa [Array.getElem?_eq_getElem hi] using q
  obtain ⟨i0, ei0⟩ := isL_v hg1
  obtain rfl : w0 = (.long i0) := Option.some.inj ei0
  obtain ⟨n, o, h1, h2, h3, _, L, rfl, ⟨rfl, N⟩, hq⟩ := rm_law l s _ hw tables_1 i0  s.heap s.heap.size (Nat.le_refl _)  p e ha hc hk s m _ below hf ((Spec.applies_iff_loose hf).mp happ).1 ⟨rfl, State.Warmed39.refl s, rfl⟩ trivial
  refine ⟨n, _, h1, h2, h3, hpost _ _ _ _ _ _ ⟨Cond.after_iff.mpr rfl, Cond.after_iff.mpr (eq_i res_at (Term.int_eval (1)) rfl), trivial⟩ ⟨hq.1, hq.2.1, (hq.2.2.sift fun y hy => Or.inr (N y hy)).mono (by decide) (by decide)⟩⟩
theorem main_1_1 : Claimed_1_1 := comes_1 fun _ _ _ _ _ _ h hF => ⟨h.1, hF⟩
theorem main_1_2 : Claimed_1_2 := comes_1 fun _ _ _ _ _ _ h hF => ⟨h.2.1, hF⟩
end Jvm.Pilot.@@N@@
namespace Jvm.Pilot.@@N@@
open Jvm Jvm.ClassFile Sem Op Lib Jvm.Free Jvm.Stand Jvm.Pilot.@@N@@.Jvm.D
/-! MADE BY PROGRAM (witnessworld.py) out of the Statement's table words and the real class files: 9 classes; the members and pool entries that the words name. The judged class is class 1, her method 1. -/
namespace start1
open Jvm.ClassFile
def u (s : String) : CpInfo := .utf8 (stringToUtf16 s)
/-- a pool by its gaps: so many unusable entries, then the entry; so many at the end -/
def gap : Nat → List CpInfo → List CpInfo
  | 0, r => r
  | n + 1, r => .unusable :: gap n r
def poolList (es : List (Nat × CpInfo)) (last : Nat) : List CpInfo := es.foldr (fun e r => gap e.1 (e.2 :: r)) (gap last [])
def pool (es : List (Nat × CpInfo)) (last : Nat) : Array CpInfo := ⟨poolList es last⟩
def fileOf (pool : Array CpInfo) (this : Nat) (attrs : Array Attribute := #[]) (ms : Array MethodInfo := #[]) (fl : Nat := 33) (sup : Nat := 0) (ifs : Array Nat := #[]) (fds : Array FieldInfo := #[]) : ClassFile where
  minorVersion := 0
  majorVersion := 65
  constantPool := pool
  accessFlags := fl
  thisClass := this
  superClass := sup
  interfaces := ifs
  fields := fds
  methods := ms
  attributes := attrs
def plain (name : String) (sup : Option ClassId) : Class where
  name := name
  kind := .ordinary
  loader := none
  accessFlags := 33
  super := sup
  interfaces := #[]
  cf := none
  fields := #[]
  methods := #[]
  instanceTypes := #[]
  staticTypes := #[]
  resolved := #[]
  callSites := []
  init := .initialized
  statics := none
  mirror := none

def pool0 : Array CpInfo := pool [(5, u "<init>"), (0, u "()V"), (1, .class_ 10), (1, u "java/lang/Object")] 113

def k0c0 : Code := { maxStack := 0, maxLocals := 1, code := object_method_1_code, exceptionTable := #[], attributes := #[] }
def k0m0 : Method := { name := "<init>", desc := "()V", sig := { parameters := [], returnType := none }, accessFlags := 1, code := some k0c0 }
/-- java/lang/Object -/
def k0 : Class := { plain "java/lang/Object" none with
  accessFlags := 33
  interfaces := #[]
  cf := some (fileOf pool0 8 #[] #[{ accessFlags := 1, nameIndex := 5, descriptorIndex := 6, attributes := #[] }] 33 0 #[] #[])
  fields := #[]
  methods := #[k0m0]
  instanceTypes := #[]
  staticTypes := #[]
  resolved := Array.replicate 124 none
  statics := none }

def pool1 : Array CpInfo := pool [(2, .class_ 4), (1, u "java/lang/Object"), (0, u "<init>"), (0, u "()V"), (0, .class_ 8), (0, u "com/example/pushmap/pushmap/benchmark/SplitMix64"), (0, .methodref 7 10), (0, .nameAndType 5 11), (0, u "(J)V"), (0, .methodref 7 13), (0, .nameAndType 14 15), (0, u "nextLong"), (0, u "()J"), (0, .long 11400714819323198485), (1, .long 16294208416658607535), (1, .long 7960286522194355700), (1, .long 487617019471545679), (1, .class_ 25), (0, u "com/example/pushmap/pushmap/benchmark/SplitMix64NextLongPinLaw"), (2, u "law"), (0, u "(J)Z")] 3

def k1m0 : Method := { name := "<init>", desc := "()V", sig := { parameters := [], returnType := none }, accessFlags := 1, code := none }
def k1c1 : Code := { maxStack := 6, maxLocals := 19, code := code, exceptionTable := #[], attributes := #[] }
def k1m1 : Method := { name := "law", desc := "(J)Z", sig := { parameters := [.long], returnType := some .boolean }, accessFlags := 9, code := some k1c1 }
/-- com/example/pushmap/pushmap/benchmark/SplitMix64NextLongPinLaw -/
def k1 : Class := { plain "com/example/pushmap/pushmap/benchmark/SplitMix64NextLongPinLaw" (some 0) with
  accessFlags := 49
  interfaces := #[]
  cf := some (fileOf pool1 24 #[] #[{ accessFlags := 1, nameIndex := 5, descriptorIndex := 6, attributes := #[] }, { accessFlags := 9, nameIndex := 28, descriptorIndex := 29, attributes := #[] }] 49 2 #[] #[])
  fields := #[]
  methods := #[k1m0, k1m1]
  instanceTypes := #[]
  staticTypes := #[]
  resolved := Array.replicate 33 none
  statics := none }

def pool2 : Array CpInfo := pool [(1, .methodref 2 3), (0, .class_ 4), (0, .nameAndType 5 6), (0, u "java/lang/Object"), (0, u "<init>"), (0, u "()V"), (0, .fieldref 8 9), (0, .class_ 10), (0, .nameAndType 11 12), (0, u "com/example/pushmap/pushmap/benchmark/SplitMix64"), (0, u "state"), (0, u "J"), (0, .long 11400714819323198485), (1, .long 13787848793156543929), (1, .long 10723151780598845931), (18, u "nextLong"), (0, u "()J"), (6, u "GAMMA"), (1, u "(J)V")] 24

def k2c0 : Code := { maxStack := 3, maxLocals := 3, code := prog_11_method_1_code, exceptionTable := #[], attributes := #[] }
def k2m0 : Method := { name := "<init>", desc := "(J)V", sig := { parameters := [.long], returnType := none }, accessFlags := 0, code := some k2c0 }
def k2c1 : Code := { maxStack := 5, maxLocals := 3, code := prog_11_method_2_code, exceptionTable := #[], attributes := #[] }
def k2m1 : Method := { name := "nextLong", desc := "()J", sig := { parameters := [], returnType := some .long }, accessFlags := 0, code := some k2c1 }
/-- com/example/pushmap/pushmap/benchmark/SplitMix64 -/
def k2 : Class := { plain "com/example/pushmap/pushmap/benchmark/SplitMix64" (some 0) with
  accessFlags := 48
  interfaces := #[]
  cf := some (fileOf pool2 8 #[] #[{ accessFlags := 0, nameIndex := 5, descriptorIndex := 46, attributes := #[] }, { accessFlags := 0, nameIndex := 36, descriptorIndex := 37, attributes := #[] }] 48 2 #[] #[{ accessFlags := 26, nameIndex := 44, descriptorIndex := 12, attributes := #[] }, { accessFlags := 2, nameIndex := 11, descriptorIndex := 12, attributes := #[] }])
  fields := #[{ name := "GAMMA", type := .long, accessFlags := 26, slot := 0, constantValue := 0 }, { name := "state", type := .long, accessFlags := 2, slot := 0, constantValue := 0 }]
  methods := #[k2m0, k2m1]
  instanceTypes := #[.long]
  staticTypes := #[.long]
  resolved := Array.replicate 71 none
  statics := none }

def pool3 : Array CpInfo := pool [(1, u "java/lang/Cloneable"), (0, .class_ 1), (0, u "java/lang/Object"), (0, .class_ 3)] 3

/-- java/lang/Cloneable -/
def k3 : Class := { plain "java/lang/Cloneable" (some 0) with
  accessFlags := 1537
  interfaces := #[]
  cf := some (fileOf pool3 2 #[] #[] 1537 4 #[] #[])
  fields := #[]
  methods := #[]
  instanceTypes := #[]
  staticTypes := #[]
  resolved := Array.replicate 8 none
  statics := none }

def pool4 : Array CpInfo := pool [(1, u "java/io/Serializable"), (0, .class_ 1), (0, u "java/lang/Object"), (0, .class_ 3)] 3

/-- java/io/Serializable -/
def k4 : Class := { plain "java/io/Serializable" (some 0) with
  accessFlags := 1537
  interfaces := #[]
  cf := some (fileOf pool4 2 #[] #[] 1537 4 #[] #[])
  fields := #[]
  methods := #[]
  instanceTypes := #[]
  staticTypes := #[]
  resolved := Array.replicate 8 none
  statics := none }

/-- the primitive byte -/
def k5 : Class := { plain "byte" none with kind := .primitive 'B', accessFlags := 0x411 }
/-- [B -/
def k6 : Class := { plain "[B" (some 0) with kind := .array 5 .byte, interfaces := #[3, 4], accessFlags := 1041 }

/-- the primitive int -/
def k7 : Class := { plain "int" none with kind := .primitive 'I', accessFlags := 0x411 }
/-- [I -/
def k8 : Class := { plain "[I" (some 0) with kind := .array 7 .int, interfaces := #[3, 4], accessFlags := 1041 }

def heap : Heap := #[]
def classes : Array Class := #[k0, k1, k2, k3, k4, k5, k6, k7, k8]
def interned : List (Array UInt16 × Addr) := []
def slotsUsed : Nat := 0
def theMethod : MethodId := ⟨1, 1⟩
def args0 : Array Value := #[.long 5]
def aboutOver (below : List Frame) : State where
  vm := { classes := classes, interned := interned.toArray }
  heap := heap
  slotsUsed := slotsUsed
  threads := #[{ frames := .invoking theMethod args0 :: below }]
def below0 : List Frame := [.native { method := ⟨0, 0⟩, args := #[] }]
def about1 : State := aboutOver below0
def p0 : Program := .bare "" "" ""
def e0 : Env := launch0.env 0 0 0
theorem w_frames : about1.frames = Frame.invoking theMethod args0 :: below0 := rfl
set_option maxRecDepth 65536 in
theorem w_args : argsFit about1.vm theMethod args0 = true := by decide +kernel
set_option maxRecDepth 65536 in
theorem w_heap : heapFits about1 = true := by decide +kernel
set_option maxRecDepth 65536 in
theorem w_runnable : about1.curStatus? = some .runnable := by decide +kernel
set_option maxRecDepth 65536 in
theorem w_alone : about1.alone = true := by decide +kernel
set_option maxRecDepth 65536 in
theorem w_named : about1.methodNamed? x = some theMethod := by decide +kernel
set_option maxRecDepth 65536 in
theorem w_hears : about1.hears theMethod below0 = true := by decide +kernel
set_option maxRecDepth 65536 in
theorem w_ripe : about1.ripe theMethod args0 below0 = true := by decide +kernel
theorem w_running : about1.status = .running := rfl
set_option maxRecDepth 65536 in
theorem w_room : about1.hasRoom e0.platform room_1 = true :=
  launch0.hasRoom_least _ room_1 (by decide +kernel) (by decide +kernel) (by decide +kernel) (by decide +kernel) (by decide +kernel) (by decide +kernel)
theorem allAtoms_all (ts : List Jvm.Cond) (a : Array Jvm.Value) (st : Jvm.State) : (allAtoms ts).before a st = ts.all (fun c => c.before a st) := by
  induction ts with
  | nil => rfl
  | cons c t ih =>
    show (Jvm.Cond.and c (allAtoms t)).before a st = _
    rw [Jvm.Cond.before_and, ih, List.all_cons]
def words1 : List Jvm.Cond := Jvm.Cond.code x code maxLocals ret :: tables_1
/-- a 'code' word, met by the world's own term for the bytes: nothing is compared byte by byte -/
theorem code_word {y : MethodName} {bytes : ByteArray} {mx : Nat} {rt : Option FieldType} {a : Array Value} {s : State} {m : MethodId} {meth : Method} {c : Code} (h1 : s.methodNamed? y = some m) (h2 : s.vm.method? m = some meth) (h3 : meth.code = some c) (h4 : c.code = bytes)
    (h5 : (c.maxLocals == mx && c.exceptionTable.isEmpty && decide (c.maxStack ≤ mostOperands) && decide (meth.sig.returnType = rt) && !meth.locks && decide (parseMethodDescriptor y.desc = some meth.sig)) = true) : (Jvm.Cond.code y bytes mx rt).before a s = true := by
  simp only [Bool.and_eq_true, beq_iff_eq, Bool.not_eq_true', decide_eq_true_eq] at h5
  obtain ⟨⟨⟨⟨⟨g1, g2⟩, g3⟩, g4⟩, g5⟩, g6⟩ := h5
  simp [Cond.before, Cond.holds, Cond.value, h1, h2, h3, h4, g1, g2, g3, g4, g5, g6]
def isCode : Jvm.Cond → Bool
  | .code _ _ _ _ => true
  | _ => false
theorem all_split {L : List Jvm.Cond} {P : Jvm.Cond → Bool} (h1 : L.all (fun c => isCode c || P c) = true) (h2 : ∀ c ∈ L.filter isCode, P c = true) : L.all P = true := by
  refine List.all_eq_true.mpr fun c hc => ?_
  have h := List.all_eq_true.mp h1 c hc
  rcases Bool.eq_false_or_eq_true (isCode c) with hi | hi
  · exact h2 c (List.mem_filter.mpr ⟨hc, hi⟩)
  · simpa [hi] using h
set_option maxRecDepth 65536 in
theorem w_c0 : (Jvm.Cond.code x code maxLocals ret).before args0 about1 = true := code_word (m := ⟨1, 1⟩) (meth := k1m1) (c := k1c1) (by decide +kernel) rfl rfl rfl (by decide +kernel)
set_option maxRecDepth 65536 in
theorem w_c1 : (Jvm.Cond.code ({ cls := "com/example/pushmap/pushmap/benchmark/SplitMix64", name := "<init>", desc := "(J)V" } : Jvm.MethodName) prog_11_method_1_code (3 : Nat) (Option.none : Option Jvm.ClassFile.FieldType)).before args0 about1 = true := code_word (m := ⟨2, 0⟩) (meth := k2m0) (c := k2c0) (by decide +kernel) rfl rfl rfl (by decide +kernel)
set_option maxRecDepth 65536 in
theorem w_c2 : (Jvm.Cond.code ({ cls := "java/lang/Object", name := "<init>", desc := "()V" } : Jvm.MethodName) object_method_1_code (1 : Nat) (Option.none : Option Jvm.ClassFile.FieldType)).before args0 about1 = true := code_word (m := ⟨0, 0⟩) (meth := k0m0) (c := k0c0) (by decide +kernel) rfl rfl rfl (by decide +kernel)
set_option maxRecDepth 65536 in
theorem w_c3 : (Jvm.Cond.code ({ cls := "com/example/pushmap/pushmap/benchmark/SplitMix64", name := "nextLong", desc := "()J" } : Jvm.MethodName) prog_11_method_2_code (3 : Nat) (Option.some Jvm.ClassFile.FieldType.long)).before args0 about1 = true := code_word (m := ⟨2, 1⟩) (meth := k2m1) (c := k2c1) (by decide +kernel) rfl rfl rfl (by decide +kernel)
def codes1 : List Jvm.Cond := [Jvm.Cond.code x code maxLocals ret, Jvm.Cond.code ({ cls := "com/example/pushmap/pushmap/benchmark/SplitMix64", name := "<init>", desc := "(J)V" } : Jvm.MethodName) prog_11_method_1_code (3 : Nat) (Option.none : Option Jvm.ClassFile.FieldType), Jvm.Cond.code ({ cls := "java/lang/Object", name := "<init>", desc := "()V" } : Jvm.MethodName) object_method_1_code (1 : Nat) (Option.none : Option Jvm.ClassFile.FieldType), Jvm.Cond.code ({ cls := "com/example/pushmap/pushmap/benchmark/SplitMix64", name := "nextLong", desc := "()J" } : Jvm.MethodName) prog_11_method_2_code (3 : Nat) (Option.some Jvm.ClassFile.FieldType.long)]
set_option maxRecDepth 65536 in
theorem codes_eq : words1.filter isCode = codes1 := rfl
theorem w_codes : ∀ c ∈ words1.filter isCode, c.before args0 about1 = true := by
  rw [codes_eq]
  intro c hc
  simp only [codes1, List.mem_cons, List.not_mem_nil, or_false] at hc
  rcases hc with rfl | rfl | rfl | rfl
  · exact w_c0
  · exact w_c1
  · exact w_c2
  · exact w_c3
set_option maxRecDepth 65536 in
theorem w_t1 : words1.all (fun c => isCode c || c.before args0 about1) = true := by decide +kernel
theorem w_tables : (allAtoms (Jvm.Cond.code x code maxLocals ret :: tables_1)).before args0 about1 = true := by
  rw [allAtoms_all]
  show words1.all (fun c => c.before args0 about1) = true
  refine all_split ?_ w_codes
  rw [w_t1]
set_option maxRecDepth 65536 in
theorem w_case : (Jvm.Cond.and given_1 narrow_1).before args0 about1 = true := by decide +kernel
theorem w_applies : (headSpec (Jvm.Cond.code x code maxLocals ret :: tables_1) room_1).applies x e0.platform about1 = true :=
  (Spec.applies_iff w_frames).mpr ⟨w_running, w_runnable, w_alone, w_named, w_hears, w_ripe, w_room, w_tables⟩
theorem atStart : AtStart classFile x code maxLocals ret World_1 tables_1 room_1 Calls_1 rest_1 Pre_1 launch0 p0 e0 about1 theMethod args0 below0 :=
  ⟨lists_1, trivial, launch0.admits_env _ _ _, launch0.least_env, fairChoices_fair.cas, fairChoices_fair.clock, w_frames, w_args, w_heap, w_applies, trivial, trivial, w_case⟩
end start1
theorem witness_1 : WitnessClaimed_1 := ⟨start1.p0, start1.e0, start1.about1, start1.theMethod, start1.args0, start1.below0, start1.atStart⟩
end Jvm.Pilot.@@N@@
