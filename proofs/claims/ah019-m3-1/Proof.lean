import JvmDerived
import JvmDerived.Pilot.@@N@@Statement
import JvmDerived.Pilot.@@N@@Code
set_option linter.unusedVariables false
set_option linter.unusedSimpArgs false
namespace Jvm.RoadKit
open Sem ClassFile Op Lib Jvm.Stand Jvm.Free Jvm.LawKit
/-- the walk that stands at S comes to an end of which P holds -/
def own_Goes (tb : Tables) (e : Env) (below : List Frame) (P : State → Outcome → Prop) (S : State) : Prop := ∃ t o, Steps tb e below S t ∧ P t o
theorem own_Goes.of {tb : Tables} {e : Env} {below : List Frame} {P : State → Outcome → Prop} {S : State} (k : own_Goes tb e below P S) : ∃ t o, Steps tb e below S t ∧ P t o := k
theorem own_Goes.nm {tb : Tables} {e : Env} {below : List Frame} {P : State → Outcome → Prop} {S : State} (k : ∀ P' : State → Outcome → Prop, (∀ t o, P t o → P' t o) → own_Goes tb e below P' S) : own_Goes tb e below P S := k P fun _ _ q => q
theorem own_Goes.st {tb : Tables} {e : Env} {below : List Frame} {P : State → Outcome → Prop} {S S' : State} (k : own_Goes tb e below P S') (h : ∀ t, Steps tb e below S' t → Steps tb e below S t) : own_Goes tb e below P S := by
  obtain ⟨t, o, h1, h2⟩ := k; exact ⟨t, o, h t h1, h2⟩
theorem own_Goes.tr {tb : Tables} {e : Env} {below : List Frame} {P : State → Outcome → Prop} {S S' : State} (h : Steps tb e below S S') (k : own_Goes tb e below P S') : own_Goes tb e below P S := by
  obtain ⟨t, o, h1, h2⟩ := k; exact ⟨t, o, h.trans h1, h2⟩
theorem own_Goes.fin {tb : Tables} {e : Env} {below : List Frame} {P : State → Outcome → Prop} {S : State} (t : State) (o : Outcome) (h : Steps tb e below S t) (k : P t o) : own_Goes tb e below P S := ⟨t, o, h, k⟩
end Jvm.RoadKit
namespace Jvm.Pilot.@@N@@
open Jvm Jvm.ClassFile Sem Op Lib Jvm.Free Jvm.Stand Jvm.LawKit Jvm.RoadKit Bundle Jvm.Pilot.@@N@@.Jvm.D
theorem own_fin (y : Int32) (N : Nat) (h0 : 0 ≤ y.toInt) (h1 : y.toInt < (N : Int)) (hN : N ≤ 2147483648) : ∃ n : Fin N, y = Int32.ofNat n.val := by
  refine ⟨⟨y.toInt.toNat, by omega⟩, ?_⟩
  apply Int32.toInt_inj.mp
  rw [Int32.toInt_ofNat_of_lt (by show y.toInt.toNat < _; omega)]
  show y.toInt = (y.toInt.toNat : Int)
  omega
def own_isv (f : Int32) : Int32 := if ((f).toUInt32 >>> ((5 : Int32) &&& 31).toUInt32).toInt32 = 1 then 1 else 0
theorem own_sh (f : Int32) : (((f).toUInt32 >>> ((5 : Int32) &&& 31).toUInt32).toInt32).toInt = (f.toInt % 4294967296) / 32 := c_iushr f 5 5 (by decide) (by decide)
theorem own_isv_lo {f : Int32} (h : f < 32) : own_isv f = 0 := by
  rw [own_isv, if_neg]; intro q
  have q1 := congrArg Int32.toInt q; rw [own_sh] at q1
  have h1 := Int32.lt_iff_toInt_lt.mp h; have r := rng32 f
  have c1 : (1 : Int32).toInt = 1 := by decide
  have c2 : (32 : Int32).toInt = 32 := by decide
  rw [c1] at q1; rw [c2] at h1; omega
theorem own_isv_hi {f : Int32} (h : 63 < f) : own_isv f = 0 := by
  rw [own_isv, if_neg]; intro q
  have q1 := congrArg Int32.toInt q; rw [own_sh] at q1
  have h1 := Int32.lt_iff_toInt_lt.mp h; have r := rng32 f
  have c1 : (1 : Int32).toInt = 1 := by decide
  have c2 : (63 : Int32).toInt = 63 := by decide
  rw [c1] at q1; rw [c2] at h1; omega
theorem own_isv_in {f : Int32} (h : ¬ f < 32) (h' : ¬ 63 < f) : own_isv f = 1 := by
  rw [own_isv, if_pos]
  apply Int32.toInt_inj.mp; rw [own_sh]
  rw [Int32.lt_iff_toInt_lt] at h h'; have r := rng32 f
  have c1 : (1 : Int32).toInt = 1 := by decide
  have c2 : (63 : Int32).toInt = 63 := by decide
  have c3 : (32 : Int32).toInt = 32 := by decide
  rw [c1]; rw [c2] at h'; rw [c3] at h; omega
theorem own_rt0 : ∀ n : Fin 32, own_isv ((32 : Int32) ||| Int32.ofNat n.val) = 1 := by decide +kernel
theorem own_rt (f : Int32) : own_isv ((32 : Int32) ||| (f &&& (31 : Int32))) = 1 := by
  have h := c_mask f 31 5 (by decide) (by decide)
  obtain ⟨n, hn⟩ := own_fin (f &&& 31) 32 (by rw [h]; omega) (by rw [h]; omega) (by decide)
  rw [hn]; exact own_rt0 n
theorem own_ef_isv (m : MethodId) (x0 : Int32) : entryFrame m #[(.int x0)] 1 = mkF m 0 #[.val (.int x0)] [] := by first | (simp [entryFrame, mkF, argsToLocals, Value.category]; done) | rfl
theorem own_pn_com_example_tempograph_tempograph_pcep_Message : plainName "com/example/tempograph/tempograph/pcep/Message" = true := by first | (simp [plainName, overriddenIn]; done) | decide +kernel
theorem own_d_prog_18_method_7_0 : decode prog_18_method_7_code 0 = .ok (.iload_n 0, 1) := by decide +kernel
theorem own_d_prog_18_method_7_1 : decode prog_18_method_7_code 1 = .ok (.iconst 5, 1) := by decide +kernel
theorem own_d_prog_18_method_7_2 : decode prog_18_method_7_code 2 = .ok (.iushr, 1) := by decide +kernel
theorem own_d_prog_18_method_7_3 : decode prog_18_method_7_code 3 = .ok (.iconst 1, 1) := by decide +kernel
theorem own_d_prog_18_method_7_4 : decode prog_18_method_7_code 4 = .ok (.if_icmp .ne 7, 3) := by decide +kernel
theorem own_d_prog_18_method_7_7 : decode prog_18_method_7_code 7 = .ok (.iconst 1, 1) := by decide +kernel
theorem own_d_prog_18_method_7_8 : decode prog_18_method_7_code 8 = .ok (.goto 4, 3) := by decide +kernel
theorem own_d_prog_18_method_7_12 : decode prog_18_method_7_code 12 = .ok (.ireturn, 1) := by decide +kernel
theorem own_d_prog_18_method_7_11 : decode prog_18_method_7_code 11 = .ok (.iconst 0, 1) := by decide +kernel
def Q_isv (Z : State) (f : Int32) (h0 : Heap) (n0 : Nat) (v : Option Value) (h : Heap) (L : List Loc) : Prop := v = some (.int (own_isv f)) ∧ Fr n0 L ∧ h = h0
set_option maxRecDepth 65536 in
set_option maxHeartbeats 40000000 in
theorem rm_isv (l : Launch) (Z : State) (a0 : Array Value) (hw : ∀ d ∈ tables_1, d.before a0 Z = true) (ws : List Jvm.Cond) (f : Int32) (h0 : Heap) (n0 : Nat) (Z0 : n0 ≤ h0.size) :
    MetFree l (⟨"com/example/tempograph/tempograph/pcep/Message", "isVersion1", "(I)Z"⟩ : MethodName) (head1 (Jvm.Cond.code (⟨"com/example/tempograph/tempograph/pcep/Message", "isVersion1", "(I)Z"⟩ : MethodName) prog_18_method_7_code 1 (some .boolean) :: ws) ({ frames := 0, cells := 0, slots := 0, locals := 0 } : Room)) (fun as_ U => as_ = #[(.int f)] ∧ Z.Warmed39 U.vm ∧ U.heap = h0) (fun _ _ _ _ _ => True) (fun _ U o U' => ∃ v L, o = .returned v ∧ Q_isv Z f h0 n0 v U'.heap L ∧ FrameEnd U o U' L ({ frames := 0, cells := 0, slots := 0, locals := 0 } : Room).cells ({ frames := 0, cells := 0, slots := 0, locals := 0 } : Room).slots) := by
  refine MetFree.of_bodySF (plainFor_of_name own_pn_com_example_tempograph_tempograph_pcep_Message) hisR ?_
  intro p e s m args below meth c s₁ Bd hml0 hP hK
  obtain ⟨rfl, hZ, hh⟩ := hP
  have hx := Bd.exec
  have hby := Bd.bytes
  have hml : c.maxLocals = 1 := hml0
  have hown : s.vm.findClass "com/example/tempograph/tempograph/pcep/Message" = some m.cls := findClass_of_methodNamed Bd.named
  have hnm := (name_of_methodNamed Bd.named Bd.method).1
  have X0 : Stand p l e ({ frames := 0, cells := 0, slots := 0, locals := 0 } : Room) s m #[(.int f)] below meth c s₁ [] 0 0 := Stand.of_body Bd
  have e0 : s₁.heap = h0 := by rw [← hh, Bd.state]; rfl
  have N0 := Fr.nil n0
  refine own_Goes.of ?_
  refine own_Goes.nm (fun P hPP => ?_)
  refine own_Goes.st ?_ (fun _ k => castTop (own_ef_isv m f) k)
  show own_Goes p.tables e below P (s₁.setTop (mkF m 0 #[.val (.int f)] []))
  refine own_Goes.st ?_ (fun _ k => XS.iloadN X0.here hx rfl (hb hby own_d_prog_18_method_7_0) rfl k)
  show own_Goes p.tables e below P (s₁.setTop (mkF m 1 #[.val (.int f)] [(.int f)]))
  refine own_Goes.st ?_ (fun _ k => XS.iconst X0.here hx rfl (hb hby own_d_prog_18_method_7_1) k)
  show own_Goes p.tables e below P (s₁.setTop (mkF m 2 #[.val (.int f)] [(.int (5 : Int32)), (.int f)]))
  refine own_Goes.st ?_ (fun _ k => XS.iushr X0.here hx rfl (hb hby own_d_prog_18_method_7_2) rfl k)
  show own_Goes p.tables e below P (s₁.setTop (mkF m 3 #[.val (.int f)] [(.int (((f).toUInt32 >>> ((5 : Int32) &&& 31).toUInt32).toInt32))]))
  refine own_Goes.st ?_ (fun _ k => XS.iconst X0.here hx rfl (hb hby own_d_prog_18_method_7_3) k)
  show own_Goes p.tables e below P (s₁.setTop (mkF m 4 #[.val (.int f)] [(.int (1 : Int32)), (.int (((f).toUInt32 >>> ((5 : Int32) &&& 31).toUInt32).toInt32))]))
  by_cases h1 : (((f).toUInt32 >>> ((5 : Int32) &&& 31).toUInt32).toInt32) = (1 : Int32)
  · skip
    refine own_Goes.st ?_ (fun _ k => XS.icmpNo X0.here hx rfl (hb hby own_d_prog_18_method_7_4) rfl (teq h1).2 k)
    show own_Goes p.tables e below P (s₁.setTop (mkF m 7 #[.val (.int f)] []))
    refine own_Goes.st ?_ (fun _ k => XS.iconst X0.here hx rfl (hb hby own_d_prog_18_method_7_7) k)
    show own_Goes p.tables e below P (s₁.setTop (mkF m 8 #[.val (.int f)] [(.int (1 : Int32))]))
    refine own_Goes.st ?_ (fun _ k => XS.goto X0.here hx rfl (pc0 := 8) (pc' := 12) rfl (hb hby own_d_prog_18_method_7_8) (by decide) (by decide) k)
    show own_Goes p.tables e below P (s₁.setTop (mkF m 12 #[.val (.int f)] [(.int (1 : Int32))]))
    obtain ⟨fs, hr, hrun, hended, hW, hsame⟩ := X0.leave (v := some (.int (1 : Int32))) (fun h => by rw [Bd.returns] at h; cases h)
    exact own_Goes.fin _ _ (retOut X0 hx (t := .boolean) Bd.returns rfl (Or.inl ⟨rfl, Or.inr (Or.inl rfl), _, rfl⟩) (hb hby own_d_prog_18_method_7_12) hr) (hPP _ _ ⟨hrun, hended, _, _, rfl, (by show Q_isv Z f h0 n0 _ s₁.heap _; rw [e0]; exact ⟨(by rw [own_isv, if_pos h1]), N0, rfl⟩), ⟨_, rfl⟩, hW, hsame.mono (by decide) (by decide)⟩)
  · skip
    refine own_Goes.st ?_ (fun _ k => XS.icmpYes X0.here hx rfl (pc0 := 4) (pc' := 11) rfl (hb hby own_d_prog_18_method_7_4) rfl (feq h1).2 (by decide) (by decide) k)
    show own_Goes p.tables e below P (s₁.setTop (mkF m 11 #[.val (.int f)] []))
    refine own_Goes.st ?_ (fun _ k => XS.iconst X0.here hx rfl (hb hby own_d_prog_18_method_7_11) k)
    show own_Goes p.tables e below P (s₁.setTop (mkF m 12 #[.val (.int f)] [(.int (0 : Int32))]))
    obtain ⟨fs, hr, hrun, hended, hW, hsame⟩ := X0.leave (v := some (.int (0 : Int32))) (fun h => by rw [Bd.returns] at h; cases h)
    exact own_Goes.fin _ _ (retOut X0 hx (t := .boolean) Bd.returns rfl (Or.inl ⟨rfl, Or.inr (Or.inl rfl), _, rfl⟩) (hb hby own_d_prog_18_method_7_12) hr) (hPP _ _ ⟨hrun, hended, _, _, rfl, (by show Q_isv Z f h0 n0 _ s₁.heap _; rw [e0]; exact ⟨(by rw [own_isv, if_neg h1]), N0, rfl⟩), ⟨_, rfl⟩, hW, hsame.mono (by decide) (by decide)⟩)
theorem own_ef_vb (m : MethodId) : entryFrame m #[] 0 = mkF m 0 #[] [] := by first | (simp [entryFrame, mkF, argsToLocals, Value.category]; done) | rfl
theorem own_d_prog_18_method_6_0 : decode prog_18_method_6_code 0 = .ok (.bipush 32, 2) := by decide +kernel
theorem own_d_prog_18_method_6_2 : decode prog_18_method_6_code 2 = .ok (.ireturn, 1) := by decide +kernel
def Q_vb (Z : State) (h0 : Heap) (n0 : Nat) (v : Option Value) (h : Heap) (L : List Loc) : Prop := v = some (.int (32 : Int32)) ∧ Fr n0 L ∧ h = h0
set_option maxRecDepth 65536 in
set_option maxHeartbeats 40000000 in
theorem rm_vb (l : Launch) (Z : State) (a0 : Array Value) (hw : ∀ d ∈ tables_1, d.before a0 Z = true) (ws : List Jvm.Cond) (h0 : Heap) (n0 : Nat) (Z0 : n0 ≤ h0.size) :
    MetFree l (⟨"com/example/tempograph/tempograph/pcep/Message", "versionByte", "()B"⟩ : MethodName) (head1 (Jvm.Cond.code (⟨"com/example/tempograph/tempograph/pcep/Message", "versionByte", "()B"⟩ : MethodName) prog_18_method_6_code 0 (some .byte) :: ws) ({ frames := 0, cells := 0, slots := 0, locals := 0 } : Room)) (fun as_ U => as_ = #[] ∧ Z.Warmed39 U.vm ∧ U.heap = h0) (fun _ _ _ _ _ => True) (fun _ U o U' => ∃ v L, o = .returned v ∧ Q_vb Z  h0 n0 v U'.heap L ∧ FrameEnd U o U' L ({ frames := 0, cells := 0, slots := 0, locals := 0 } : Room).cells ({ frames := 0, cells := 0, slots := 0, locals := 0 } : Room).slots) := by
  refine MetFree.of_bodySF (plainFor_of_name own_pn_com_example_tempograph_tempograph_pcep_Message) hisR ?_
  intro p e s m args below meth c s₁ Bd hml0 hP hK
  obtain ⟨rfl, hZ, hh⟩ := hP
  have hx := Bd.exec
  have hby := Bd.bytes
  have hml : c.maxLocals = 0 := hml0
  have hown : s.vm.findClass "com/example/tempograph/tempograph/pcep/Message" = some m.cls := findClass_of_methodNamed Bd.named
  have hnm := (name_of_methodNamed Bd.named Bd.method).1
  have X0 : Stand p l e ({ frames := 0, cells := 0, slots := 0, locals := 0 } : Room) s m #[] below meth c s₁ [] 0 0 := Stand.of_body Bd
  have e0 : s₁.heap = h0 := by rw [← hh, Bd.state]; rfl
  have N0 := Fr.nil n0
  refine own_Goes.of ?_
  refine own_Goes.nm (fun P hPP => ?_)
  refine own_Goes.st ?_ (fun _ k => castTop (own_ef_vb m) k)
  show own_Goes p.tables e below P (s₁.setTop (mkF m 0 #[] []))
  refine own_Goes.st ?_ (fun _ k => XS.bipush X0.here hx rfl (hb hby own_d_prog_18_method_6_0) k)
  show own_Goes p.tables e below P (s₁.setTop (mkF m 2 #[] [(.int (32 : Int32))]))
  obtain ⟨fs, hr, hrun, hended, hW, hsame⟩ := X0.leave (v := some (.int (32 : Int32))) (fun h => by rw [Bd.returns] at h; cases h)
  exact own_Goes.fin _ _ (retOut X0 hx (t := .byte) Bd.returns rfl (Or.inl ⟨rfl, Or.inr (Or.inr (Or.inl rfl)), _, rfl⟩) (hb hby own_d_prog_18_method_6_2) hr) (hPP _ _ ⟨hrun, hended, _, _, rfl, (by show Q_vb Z  h0 n0 _ s₁.heap _; rw [e0]; exact ⟨rfl, N0, rfl⟩), ⟨_, rfl⟩, hW, hsame.mono (by decide) (by decide)⟩)
theorem own_ef_law (m : MethodId) (x0 : Int32) (x1 : Int32) : entryFrame m #[(.int x0), (.int x1)] maxLocals = mkF m 0 #[.val (.int x0), .val (.int x1), .unset, .unset, .unset, .unset] [] := by first | (simp [entryFrame, mkF, argsToLocals, Value.category, maxLocals]; done) | rfl
theorem own_pn_com_example_tempograph_tempograph_pcep_MessageIsVersion1PinLaw : plainName "com/example/tempograph/tempograph/pcep/MessageIsVersion1PinLaw" = true := by first | (simp [plainName, overriddenIn]; done) | decide +kernel
theorem own_pd__28_I_29_Z : parseMethodDescriptor "(I)Z" = some ⟨[.int], some .boolean⟩ := by decide +kernel
theorem own_pd__28__29_B : parseMethodDescriptor "()B" = some ⟨[], some .byte⟩ := by decide +kernel
def Q_law (n0 : Nat) (v : Option Value) (L : List Loc) : Prop := v = some (.int 1) ∧ Fr n0 L
set_option maxRecDepth 65536 in
set_option maxHeartbeats 40000000 in
theorem rm_law (l : Launch) (Z : State) (a0 : Array Value) (hw : ∀ d ∈ tables_1, d.before a0 Z = true) (ws : List Jvm.Cond) (p0 : Int32) (p1 : Int32) (h0 : Heap) (n0 : Nat) (Z0 : n0 ≤ h0.size) :
    MetFree l x (head1 (Jvm.Cond.code x code maxLocals ret :: ws) room_1) (fun as_ U => as_ = #[(.int p0), (.int p1)] ∧ Z.Warmed39 U.vm ∧ U.heap = h0) (fun _ _ _ _ _ => True) (fun _ U o U' => ∃ v L, o = .returned v ∧ Q_law n0 v L ∧ FrameEnd U o U' L 0 0) := by
  refine MetFree.of_bodySF (plainFor_of_name own_pn_com_example_tempograph_tempograph_pcep_MessageIsVersion1PinLaw) hisR ?_
  intro p e s m args below meth c s₁ Bd hml0 hP hK
  obtain ⟨rfl, hZ, hh⟩ := hP
  have hx := Bd.exec
  have hby := Bd.bytes
  have hml : c.maxLocals = 6 := hml0
  have hown : s.vm.findClass "com/example/tempograph/tempograph/pcep/MessageIsVersion1PinLaw" = some m.cls := findClass_of_methodNamed Bd.named
  have hnm := (name_of_methodNamed Bd.named Bd.method).1
  have X0 : Stand p l e room_1 s m #[(.int p0), (.int p1)] below meth c s₁ [] 0 0 := Stand.of_body Bd
  have e0 : s₁.heap = h0 := by rw [← hh, Bd.state]; rfl
  have N0 := Fr.nil n0
  refine own_Goes.of ?_
  refine own_Goes.nm (fun P hPP => ?_)
  refine own_Goes.st ?_ (fun _ k => castTop (own_ef_law m p0 p1) k)
  show own_Goes p.tables e below P (s₁.setTop (mkF m 0 #[.val (.int p0), .val (.int p1), .unset, .unset, .unset, .unset] []))
  have J18 : ∀ (z : Int32) (_ : own_isv p0 = z), own_Goes p.tables e below P (s₁.setTop (mkF m 18 #[.val (.int p0), .val (.int p1), .val (.int z), .unset, .unset, .unset] [])) := by
    intro z hz
    refine own_Goes.st ?_ (fun _ k => XS.iloadN X0.here hx rfl (hb hby at_18) rfl k)
    show own_Goes p.tables e below P (s₁.setTop (mkF m 19 #[.val (.int p0), .val (.int p1), .val (.int z), .unset, .unset, .unset] [(.int p0)]))
    obtain ⟨_, _, ⟨T1, L1, k1, n1⟩, -, X1, ⟨Lc1, hQ1, l1, y1, z1⟩, st1⟩ := Jvm.LawKit.callS X0 hx (y := (⟨"com/example/tempograph/tempograph/pcep/Message", "isVersion1", "(I)Z"⟩ : MethodName)) hown (mvT hZ (hw _ (List.mem_of_getElem? (i := 0) rfl))) (mvT hZ (hw _ (List.mem_of_getElem? (i := 1) rfl))) (mvT hZ (hw _ (List.mem_of_getElem? (i := 2) rfl))) (mvT hZ (hw _ (List.mem_of_getElem? (i := 3) rfl))) (by decide) (backOf (W := 0) (rm_isv l Z a0 hw [] p0 h0 n0 Z0) hZ (hw _ (List.mem_of_getElem? (i := 3) rfl)) (hw _ (List.mem_of_getElem? (i := 2) rfl)) (by decide) (by decide)) (g := (mkF m 19 #[.val (.int p0), .val (.int p1), .val (.int z), .unset, .unset, .unset] [(.int p0)])) rfl (by rw [hml]; rfl) (argsL := [(.int p0)]) (rest := []) (lenOf own_pd__28_I_29_Z rfl) rfl (by show 2 * 0 + _ ≤ _; exact Nat.le_of_eq rfl) (hb hby at_19) (fun _ _ => ⟨rfl, e0, (by decide : 0 + 0 ≤ _), (by decide : 0 + 0 ≤ _)⟩)
    dsimp only [Pt.U, Pt.locs, Pt.cells, Pt.slots] at X1 l1 y1 z1 st1 hQ1
    subst l1 y1 z1
    obtain ⟨rfl, Nq1, e1⟩ := hQ1
    have N1 := Fr.app N0 Nq1
    refine own_Goes.st ?_ st1
    show own_Goes p.tables e below P (T1.setTop (mkF m 22 #[.val (.int p0), .val (.int p1), .val (.int z), .unset, .unset, .unset] [(.int (own_isv p0))]))
    rw [hz]
    show own_Goes p.tables e below P (T1.setTop (mkF m 22 #[.val (.int p0), .val (.int p1), .val (.int z), .unset, .unset, .unset] [(.int z)]))
    refine own_Goes.st ?_ (fun _ k => XS.iloadN X1.here hx rfl (hb hby at_22) rfl k)
    show own_Goes p.tables e below P (T1.setTop (mkF m 23 #[.val (.int p0), .val (.int p1), .val (.int z), .unset, .unset, .unset] [(.int z), (.int z)]))
    refine own_Goes.st ?_ (fun _ k => XS.icmpNo X1.here hx rfl (hb hby at_23) rfl (teq (rfl : z = z)).2 k)
    show own_Goes p.tables e below P (T1.setTop (mkF m 26 #[.val (.int p0), .val (.int p1), .val (.int z), .unset, .unset, .unset] []))
    refine own_Goes.st ?_ (fun _ k => XS.iconst X1.here hx rfl (hb hby at_26) k)
    show own_Goes p.tables e below P (T1.setTop (mkF m 27 #[.val (.int p0), .val (.int p1), .val (.int z), .unset, .unset, .unset] [(.int (1 : Int32))]))
    refine own_Goes.st ?_ (fun _ k => XS.goto X1.here hx rfl (pc0 := 27) (pc' := 31) rfl (hb hby at_27) (by decide) (by decide) k)
    show own_Goes p.tables e below P (T1.setTop (mkF m 31 #[.val (.int p0), .val (.int p1), .val (.int z), .unset, .unset, .unset] [(.int (1 : Int32))]))
    refine own_Goes.st ?_ (fun _ k => XS.istoreN X1.here hx rfl (hb hby at_31) rfl (l' := #[.val (.int p0), .val (.int p1), .val (.int z), .val (.int (1 : Int32)), .unset, .unset]) rfl k)
    show own_Goes p.tables e below P (T1.setTop (mkF m 32 #[.val (.int p0), .val (.int p1), .val (.int z), .val (.int (1 : Int32)), .unset, .unset] []))
    obtain ⟨_, _, ⟨T2, L2, k2, n2⟩, -, X2, ⟨Lc2, hQ2, l2, y2, z2⟩, st2⟩ := Jvm.LawKit.callS X1 hx (y := (⟨"com/example/tempograph/tempograph/pcep/Message", "versionByte", "()B"⟩ : MethodName)) hown (mvT hZ (hw _ (List.mem_of_getElem? (i := 4) rfl))) (mvT hZ (hw _ (List.mem_of_getElem? (i := 5) rfl))) (mvT hZ (hw _ (List.mem_of_getElem? (i := 2) rfl))) (mvT hZ (hw _ (List.mem_of_getElem? (i := 6) rfl))) (by decide) (backOf (W := 0) (rm_vb l Z a0 hw [] h0 n0 Z0) hZ (hw _ (List.mem_of_getElem? (i := 6) rfl)) (hw _ (List.mem_of_getElem? (i := 2) rfl)) (by decide) (by decide)) (g := (mkF m 32 #[.val (.int p0), .val (.int p1), .val (.int z), .val (.int (1 : Int32)), .unset, .unset] [])) rfl (by rw [hml]; rfl) (argsL := []) (rest := []) (lenOf own_pd__28__29_B rfl) rfl (by show 2 * 0 + _ ≤ _; exact Nat.le_of_eq rfl) (hb hby at_32) (fun _ _ => ⟨rfl, e1, (by decide : 0 + 0 ≤ _), (by decide : 0 + 0 ≤ _)⟩)
    dsimp only [Pt.U, Pt.locs, Pt.cells, Pt.slots] at X2 l2 y2 z2 st2 hQ2
    subst l2 y2 z2
    obtain ⟨rfl, Nq2, e2⟩ := hQ2
    have N2 := Fr.app N1 Nq2
    refine own_Goes.st ?_ st2
    show own_Goes p.tables e below P (T2.setTop (mkF m 35 #[.val (.int p0), .val (.int p1), .val (.int z), .val (.int (1 : Int32)), .unset, .unset] [(.int (32 : Int32))]))
    refine own_Goes.st ?_ (fun _ k => XS.sipush X2.here hx rfl (hb hby at_35) k)
    show own_Goes p.tables e below P (T2.setTop (mkF m 38 #[.val (.int p0), .val (.int p1), .val (.int z), .val (.int (1 : Int32)), .unset, .unset] [(.int (255 : Int32)), (.int (32 : Int32))]))
    refine own_Goes.st ?_ (fun _ k => XS.iand X2.here hx rfl (hb hby at_38) rfl k)
    show own_Goes p.tables e below P (T2.setTop (mkF m 39 #[.val (.int p0), .val (.int p1), .val (.int z), .val (.int (1 : Int32)), .unset, .unset] [(.int (32 : Int32))]))
    refine own_Goes.st ?_ (fun _ k => XS.iloadN X2.here hx rfl (hb hby at_39) rfl k)
    show own_Goes p.tables e below P (T2.setTop (mkF m 40 #[.val (.int p0), .val (.int p1), .val (.int z), .val (.int (1 : Int32)), .unset, .unset] [(.int p1), (.int (32 : Int32))]))
    refine own_Goes.st ?_ (fun _ k => XS.bipush X2.here hx rfl (hb hby at_40) k)
    show own_Goes p.tables e below P (T2.setTop (mkF m 42 #[.val (.int p0), .val (.int p1), .val (.int z), .val (.int (1 : Int32)), .unset, .unset] [(.int (31 : Int32)), (.int p1), (.int (32 : Int32))]))
    refine own_Goes.st ?_ (fun _ k => XS.iand X2.here hx rfl (hb hby at_42) rfl k)
    show own_Goes p.tables e below P (T2.setTop (mkF m 43 #[.val (.int p0), .val (.int p1), .val (.int z), .val (.int (1 : Int32)), .unset, .unset] [(.int (p1 &&& (31 : Int32))), (.int (32 : Int32))]))
    refine own_Goes.st ?_ (fun _ k => XS.ior X2.here hx rfl (hb hby at_43) rfl k)
    show own_Goes p.tables e below P (T2.setTop (mkF m 44 #[.val (.int p0), .val (.int p1), .val (.int z), .val (.int (1 : Int32)), .unset, .unset] [(.int ((32 : Int32) ||| (p1 &&& (31 : Int32))))]))
    refine own_Goes.st ?_ (fun _ k => XS.istore X2.here hx rfl (hb hby at_44) rfl (l' := #[.val (.int p0), .val (.int p1), .val (.int z), .val (.int (1 : Int32)), .val (.int ((32 : Int32) ||| (p1 &&& (31 : Int32)))), .unset]) rfl k)
    show own_Goes p.tables e below P (T2.setTop (mkF m 46 #[.val (.int p0), .val (.int p1), .val (.int z), .val (.int (1 : Int32)), .val (.int ((32 : Int32) ||| (p1 &&& (31 : Int32)))), .unset] []))
    refine own_Goes.st ?_ (fun _ k => XS.iload X2.here hx rfl (hb hby at_46) rfl k)
    show own_Goes p.tables e below P (T2.setTop (mkF m 48 #[.val (.int p0), .val (.int p1), .val (.int z), .val (.int (1 : Int32)), .val (.int ((32 : Int32) ||| (p1 &&& (31 : Int32)))), .unset] [(.int ((32 : Int32) ||| (p1 &&& (31 : Int32))))]))
    obtain ⟨_, _, ⟨T3, L3, k3, n3⟩, -, X3, ⟨Lc3, hQ3, l3, y3, z3⟩, st3⟩ := Jvm.LawKit.callS X2 hx (y := (⟨"com/example/tempograph/tempograph/pcep/Message", "isVersion1", "(I)Z"⟩ : MethodName)) hown (mvT hZ (hw _ (List.mem_of_getElem? (i := 0) rfl))) (mvT hZ (hw _ (List.mem_of_getElem? (i := 1) rfl))) (mvT hZ (hw _ (List.mem_of_getElem? (i := 2) rfl))) (mvT hZ (hw _ (List.mem_of_getElem? (i := 3) rfl))) (by decide) (backOf (W := 0) (rm_isv l Z a0 hw [] ((32 : Int32) ||| (p1 &&& (31 : Int32))) h0 n0 Z0) hZ (hw _ (List.mem_of_getElem? (i := 3) rfl)) (hw _ (List.mem_of_getElem? (i := 2) rfl)) (by decide) (by decide)) (g := (mkF m 48 #[.val (.int p0), .val (.int p1), .val (.int z), .val (.int (1 : Int32)), .val (.int ((32 : Int32) ||| (p1 &&& (31 : Int32)))), .unset] [(.int ((32 : Int32) ||| (p1 &&& (31 : Int32))))])) rfl (by rw [hml]; rfl) (argsL := [(.int ((32 : Int32) ||| (p1 &&& (31 : Int32))))]) (rest := []) (lenOf own_pd__28_I_29_Z rfl) rfl (by show 2 * 0 + _ ≤ _; exact Nat.le_of_eq rfl) (hb hby at_48) (fun _ _ => ⟨rfl, e2, (by decide : 0 + 0 ≤ _), (by decide : 0 + 0 ≤ _)⟩)
    dsimp only [Pt.U, Pt.locs, Pt.cells, Pt.slots] at X3 l3 y3 z3 st3 hQ3
    subst l3 y3 z3
    obtain ⟨rfl, Nq3, e3⟩ := hQ3
    have N3 := Fr.app N2 Nq3
    refine own_Goes.st ?_ st3
    show own_Goes p.tables e below P (T3.setTop (mkF m 51 #[.val (.int p0), .val (.int p1), .val (.int z), .val (.int (1 : Int32)), .val (.int ((32 : Int32) ||| (p1 &&& (31 : Int32)))), .unset] [(.int (own_isv ((32 : Int32) ||| (p1 &&& (31 : Int32)))))]))
    rw [own_rt p1]
    show own_Goes p.tables e below P (T3.setTop (mkF m 51 #[.val (.int p0), .val (.int p1), .val (.int z), .val (.int (1 : Int32)), .val (.int ((32 : Int32) ||| (p1 &&& (31 : Int32)))), .unset] [(.int (1 : Int32))]))
    refine own_Goes.st ?_ (fun _ k => XS.istore X3.here hx rfl (hb hby at_51) rfl (l' := #[.val (.int p0), .val (.int p1), .val (.int z), .val (.int (1 : Int32)), .val (.int ((32 : Int32) ||| (p1 &&& (31 : Int32)))), .val (.int (1 : Int32))]) rfl k)
    show own_Goes p.tables e below P (T3.setTop (mkF m 53 #[.val (.int p0), .val (.int p1), .val (.int z), .val (.int (1 : Int32)), .val (.int ((32 : Int32) ||| (p1 &&& (31 : Int32)))), .val (.int (1 : Int32))] []))
    refine own_Goes.st ?_ (fun _ k => XS.iloadN X3.here hx rfl (hb hby at_53) rfl k)
    show own_Goes p.tables e below P (T3.setTop (mkF m 54 #[.val (.int p0), .val (.int p1), .val (.int z), .val (.int (1 : Int32)), .val (.int ((32 : Int32) ||| (p1 &&& (31 : Int32)))), .val (.int (1 : Int32))] [(.int (1 : Int32))]))
    refine own_Goes.st ?_ (fun _ k => XS.ifNo X3.here hx rfl (hb hby at_54) rfl ((if0 _ _).trans (feq (by decide : ¬ ((1 : Int32) = (0 : Int32)))).1) k)
    show own_Goes p.tables e below P (T3.setTop (mkF m 57 #[.val (.int p0), .val (.int p1), .val (.int z), .val (.int (1 : Int32)), .val (.int ((32 : Int32) ||| (p1 &&& (31 : Int32)))), .val (.int (1 : Int32))] []))
    refine own_Goes.st ?_ (fun _ k => XS.iload X3.here hx rfl (hb hby at_57) rfl k)
    show own_Goes p.tables e below P (T3.setTop (mkF m 59 #[.val (.int p0), .val (.int p1), .val (.int z), .val (.int (1 : Int32)), .val (.int ((32 : Int32) ||| (p1 &&& (31 : Int32)))), .val (.int (1 : Int32))] [(.int (1 : Int32))]))
    refine own_Goes.st ?_ (fun _ k => XS.ifNo X3.here hx rfl (hb hby at_59) rfl ((if0 _ _).trans (feq (by decide : ¬ ((1 : Int32) = (0 : Int32)))).1) k)
    show own_Goes p.tables e below P (T3.setTop (mkF m 62 #[.val (.int p0), .val (.int p1), .val (.int z), .val (.int (1 : Int32)), .val (.int ((32 : Int32) ||| (p1 &&& (31 : Int32)))), .val (.int (1 : Int32))] []))
    refine own_Goes.st ?_ (fun _ k => XS.iconst X3.here hx rfl (hb hby at_62) k)
    show own_Goes p.tables e below P (T3.setTop (mkF m 63 #[.val (.int p0), .val (.int p1), .val (.int z), .val (.int (1 : Int32)), .val (.int ((32 : Int32) ||| (p1 &&& (31 : Int32)))), .val (.int (1 : Int32))] [(.int (1 : Int32))]))
    refine own_Goes.st ?_ (fun _ k => XS.goto X3.here hx rfl (pc0 := 63) (pc' := 67) rfl (hb hby at_63) (by decide) (by decide) k)
    show own_Goes p.tables e below P (T3.setTop (mkF m 67 #[.val (.int p0), .val (.int p1), .val (.int z), .val (.int (1 : Int32)), .val (.int ((32 : Int32) ||| (p1 &&& (31 : Int32)))), .val (.int (1 : Int32))] [(.int (1 : Int32))]))
    obtain ⟨fs, hr, hrun, hended, hW, hsame⟩ := X3.leave (v := some (.int (1 : Int32))) (fun h => by rw [Bd.returns] at h; cases h)
    exact own_Goes.fin _ _ (retOut X3 hx (t := .boolean) Bd.returns rfl (Or.inl ⟨rfl, Or.inr (Or.inl rfl), _, rfl⟩) (hb hby at_67) hr) (hPP _ _ ⟨hrun, hended, _, _, rfl, (by show Q_law n0 _ _; exact ⟨rfl, N3⟩), ⟨_, rfl⟩, hW, hsame.mono (by decide) (by decide)⟩)
  refine own_Goes.st ?_ (fun _ k => XS.iloadN X0.here hx rfl (hb hby at_0) rfl k)
  show own_Goes p.tables e below P (s₁.setTop (mkF m 1 #[.val (.int p0), .val (.int p1), .unset, .unset, .unset, .unset] [(.int p0)]))
  refine own_Goes.st ?_ (fun _ k => XS.bipush X0.here hx rfl (hb hby at_1) k)
  show own_Goes p.tables e below P (s₁.setTop (mkF m 3 #[.val (.int p0), .val (.int p1), .unset, .unset, .unset, .unset] [(.int (32 : Int32)), (.int p0)]))
  by_cases h1 : p0 < (32 : Int32)
  · skip
    refine own_Goes.st ?_ (fun _ k => XS.icmpYes X0.here hx rfl (pc0 := 3) (pc' := 16) rfl (hb hby at_3) rfl (tlt h1).1 (by decide) (by decide) k)
    show own_Goes p.tables e below P (s₁.setTop (mkF m 16 #[.val (.int p0), .val (.int p1), .unset, .unset, .unset, .unset] []))
    refine own_Goes.st ?_ (fun _ k => XS.iconst X0.here hx rfl (hb hby at_16) k)
    show own_Goes p.tables e below P (s₁.setTop (mkF m 17 #[.val (.int p0), .val (.int p1), .unset, .unset, .unset, .unset] [(.int (0 : Int32))]))
    refine own_Goes.st ?_ (fun _ k => XS.istoreN X0.here hx rfl (hb hby at_17) rfl (l' := #[.val (.int p0), .val (.int p1), .val (.int (0 : Int32)), .unset, .unset, .unset]) rfl k)
    show own_Goes p.tables e below P (s₁.setTop (mkF m 18 #[.val (.int p0), .val (.int p1), .val (.int (0 : Int32)), .unset, .unset, .unset] []))
    exact (J18 _ (own_isv_lo h1))
  · skip
    refine own_Goes.st ?_ (fun _ k => XS.icmpNo X0.here hx rfl (hb hby at_3) rfl (flt h1).1 k)
    show own_Goes p.tables e below P (s₁.setTop (mkF m 6 #[.val (.int p0), .val (.int p1), .unset, .unset, .unset, .unset] []))
    refine own_Goes.st ?_ (fun _ k => XS.iloadN X0.here hx rfl (hb hby at_6) rfl k)
    show own_Goes p.tables e below P (s₁.setTop (mkF m 7 #[.val (.int p0), .val (.int p1), .unset, .unset, .unset, .unset] [(.int p0)]))
    refine own_Goes.st ?_ (fun _ k => XS.bipush X0.here hx rfl (hb hby at_7) k)
    show own_Goes p.tables e below P (s₁.setTop (mkF m 9 #[.val (.int p0), .val (.int p1), .unset, .unset, .unset, .unset] [(.int (63 : Int32)), (.int p0)]))
    by_cases h2 : (63 : Int32) < p0
    · skip
      refine own_Goes.st ?_ (fun _ k => XS.icmpYes X0.here hx rfl (pc0 := 9) (pc' := 16) rfl (hb hby at_9) rfl (tlt h2).2.2.1 (by decide) (by decide) k)
      show own_Goes p.tables e below P (s₁.setTop (mkF m 16 #[.val (.int p0), .val (.int p1), .unset, .unset, .unset, .unset] []))
      refine own_Goes.st ?_ (fun _ k => XS.iconst X0.here hx rfl (hb hby at_16) k)
      show own_Goes p.tables e below P (s₁.setTop (mkF m 17 #[.val (.int p0), .val (.int p1), .unset, .unset, .unset, .unset] [(.int (0 : Int32))]))
      refine own_Goes.st ?_ (fun _ k => XS.istoreN X0.here hx rfl (hb hby at_17) rfl (l' := #[.val (.int p0), .val (.int p1), .val (.int (0 : Int32)), .unset, .unset, .unset]) rfl k)
      show own_Goes p.tables e below P (s₁.setTop (mkF m 18 #[.val (.int p0), .val (.int p1), .val (.int (0 : Int32)), .unset, .unset, .unset] []))
      exact (J18 _ (own_isv_hi h2))
    · skip
      refine own_Goes.st ?_ (fun _ k => XS.icmpNo X0.here hx rfl (hb hby at_9) rfl (flt h2).2.2.1 k)
      show own_Goes p.tables e below P (s₁.setTop (mkF m 12 #[.val (.int p0), .val (.int p1), .unset, .unset, .unset, .unset] []))
      refine own_Goes.st ?_ (fun _ k => XS.iconst X0.here hx rfl (hb hby at_12) k)
      show own_Goes p.tables e below P (s₁.setTop (mkF m 13 #[.val (.int p0), .val (.int p1), .unset, .unset, .unset, .unset] [(.int (1 : Int32))]))
      refine own_Goes.st ?_ (fun _ k => XS.goto X0.here hx rfl (pc0 := 13) (pc' := 17) rfl (hb hby at_13) (by decide) (by decide) k)
      show own_Goes p.tables e below P (s₁.setTop (mkF m 17 #[.val (.int p0), .val (.int p1), .unset, .unset, .unset, .unset] [(.int (1 : Int32))]))
      refine own_Goes.st ?_ (fun _ k => XS.istoreN X0.here hx rfl (hb hby at_17) rfl (l' := #[.val (.int p0), .val (.int p1), .val (.int (1 : Int32)), .unset, .unset, .unset]) rfl k)
      show own_Goes p.tables e below P (s₁.setTop (mkF m 18 #[.val (.int p0), .val (.int p1), .val (.int (1 : Int32)), .unset, .unset, .unset] []))
      exact (J18 _ (own_isv_in h1 h2))
set_option maxRecDepth 65536 in
set_option maxHeartbeats 40000000 in
theorem comes_1 {Post : Tables → Env → Array Value → State → Outcome → State → Prop} (hpost : ∀ tb e args s v u, (limb_1_1.after args s (.returned v) u = true ∧ limb_1_2.after args s (.returned v) u = true ∧ True) → FrameEnd s (.returned v) u (Jvm.fieldLocs frame_1_writes args s ++ Jvm.arrayLocs frame_1_arrays args s ++ Jvm.staticLocs frame_1_statics s) 0 0 → Post tb e args s (.returned v) u) :
    ArmFor flags0 classFile x code maxLocals ret World_1 tables_1 room_1 Calls_1 rest_1 Pre_1 Post := by
  intro l hfl _ _ p e ha hc hk s m args below hf hA hF happ hP
  obtain ⟨hcalls, hrest, hpre⟩ := hP
  obtain ⟨-, -, -, hnamed, -, -, -, hat⟩ := (Spec.applies_iff hf).mp happ
  obtain ⟨hg, hn⟩ := and_e (Cond.before_iff.mp (show (Jvm.Cond.and given_1 narrow_1).before args s = true from hpre))
  obtain ⟨hg0, hg1⟩ := and_e hg
  obtain ⟨hv0, hr0⟩ := and_e hg1
  obtain ⟨w0, w1, rfl⟩ : ∃ w0 w1 : Value, args = #[w0, w1] := by
    have hs : args.size = 2 := by simpa [Cond.value, given_1] using hg0
    obtain ⟨L⟩ := args
    match L, hs with
    | [w0, w1], _ => exact ⟨w0, w1, rfl⟩
  have hw := fun d (hd : d ∈ tables_1) => atoms_spec (ws := Jvm.Cond.code x code maxLocals ret :: tables_1) hat d (List.mem_cons_of_mem _ hd)
  have hfit : Fit s := fun {y c} hc i hi => by
    obtain ⟨ha, rfl⟩ := Array.getElem?_eq_some_iff.mp hc
    have q := List.all_eq_true.mp ((Array.all_eq_true_iff_forall_mem.mp hF) _ (Array.getElem_mem ha)) i (List.mem_range.mpr hi)
    simpa [Array.getElem?_eq_getElem hi] using q
  obtain ⟨i0, ei0⟩ := is_v hv0
  obtain rfl : w0 = (.int i0) := Option.some.inj ei0
  obtain ⟨i1, ei1⟩ := is_v hr0
  obtain rfl : w1 = (.int i1) := Option.some.inj ei1
  obtain ⟨n, o, h1, h2, h3, _, L, rfl, ⟨rfl, N⟩, hq⟩ := rm_law l s _ hw tables_1 i0 i1  s.heap s.heap.size (Nat.le_refl _)  p e ha hc hk s m _ below hf ((Spec.applies_iff_loose hf).mp happ).1 ⟨rfl, State.Warmed39.refl s, rfl⟩ trivial
  refine ⟨n, _, h1, h2, h3, hpost _ _ _ _ _ _ ⟨Cond.after_iff.mpr rfl, Cond.after_iff.mpr (eq_i res_at (Term.int_eval (1)) rfl), trivial⟩ ⟨hq.1, hq.2.1, (hq.2.2.sift fun y hy => Or.inr (N y hy)).mono (by decide) (by decide)⟩⟩
theorem main_1_1 : Claimed_1_1 := comes_1 fun _ _ _ _ _ _ h hF => ⟨h.1, hF⟩
theorem main_1_2 : Claimed_1_2 := comes_1 fun _ _ _ _ _ _ h hF => ⟨h.2.1, hF⟩
end Jvm.Pilot.@@N@@
namespace Jvm.Pilot.@@N@@
open Jvm Jvm.ClassFile Sem Op Lib Jvm.Free Jvm.Stand Jvm.Pilot.@@N@@.Jvm.D
/-! MADE BY PROGRAM (witnessworld.py) out of the Statement's table words and the real class files: 10 classes; the members and pool entries that the words name. The judged class is class 1, her method 1. -/
namespace start1
open Jvm.ClassFile
def u (s : String) : CpInfo := .utf8 (stringToUtf16 s)
/-- a pool by its gaps: so many unusable entries, then the entry; so many at the end -/
def gap : Nat → List CpInfo → List CpInfo
  | 0, r => r
  | n + 1, r => .unusable :: gap n r
def poolList (es : List (Nat × CpInfo)) (last : Nat) : List CpInfo := es.foldr (fun e r => gap e.1 (e.2 :: r)) (gap last [])
def pool (es : List (Nat × CpInfo)) (last : Nat) : Array CpInfo := ⟨poolList es last⟩
def fileOf (pool : Array CpInfo) (this : Nat) (attrs : Array Attribute := #[]) (ms : Array MethodInfo := #[]) (fl : Nat := 33) (sup : Nat := 0) (ifs : Array Nat := #[]) (fds : Array FieldInfo := #[]) : ClassFile where
  minorVersion := 0
  majorVersion := 65
  constantPool := pool
  accessFlags := fl
  thisClass := this
  superClass := sup
  interfaces := ifs
  fields := fds
  methods := ms
  attributes := attrs
def plain (name : String) (sup : Option ClassId) : Class where
  name := name
  kind := .ordinary
  loader := none
  accessFlags := 33
  super := sup
  interfaces := #[]
  cf := none
  fields := #[]
  methods := #[]
  instanceTypes := #[]
  staticTypes := #[]
  resolved := #[]
  callSites := []
  init := .initialized
  statics := none
  mirror := none

def pool0 : Array CpInfo := pool [(5, u "<init>"), (0, u "()V"), (1, .class_ 10), (1, u "java/lang/Object")] 113

def k0m0 : Method := { name := "<init>", desc := "()V", sig := { parameters := [], returnType := none }, accessFlags := 1, code := none }
/-- java/lang/Object -/
def k0 : Class := { plain "java/lang/Object" none with
  accessFlags := 33
  interfaces := #[]
  cf := some (fileOf pool0 8 #[] #[{ accessFlags := 1, nameIndex := 5, descriptorIndex := 6, attributes := #[] }] 33 0 #[] #[])
  fields := #[]
  methods := #[k0m0]
  instanceTypes := #[]
  staticTypes := #[]
  resolved := Array.replicate 124 none
  statics := none }

def pool1 : Array CpInfo := pool [(2, .class_ 4), (1, u "java/lang/Object"), (0, u "<init>"), (0, u "()V"), (0, .methodref 8 9), (0, .class_ 10), (0, .nameAndType 11 12), (0, u "com/example/tempograph/tempograph/pcep/Message"), (0, u "isVersion1"), (0, u "(I)Z"), (0, .methodref 8 14), (0, .nameAndType 15 16), (0, u "versionByte"), (0, u "()B"), (0, .class_ 18), (0, u "com/example/tempograph/tempograph/pcep/MessageIsVersion1PinLaw"), (2, u "law"), (0, u "(II)Z")] 3

def k1m0 : Method := { name := "<init>", desc := "()V", sig := { parameters := [], returnType := none }, accessFlags := 2, code := none }
def k1c1 : Code := { maxStack := 3, maxLocals := 6, code := code, exceptionTable := #[], attributes := #[] }
def k1m1 : Method := { name := "law", desc := "(II)Z", sig := { parameters := [.int, .int], returnType := some .boolean }, accessFlags := 9, code := some k1c1 }
/-- com/example/tempograph/tempograph/pcep/MessageIsVersion1PinLaw -/
def k1 : Class := { plain "com/example/tempograph/tempograph/pcep/MessageIsVersion1PinLaw" (some 0) with
  accessFlags := 49
  interfaces := #[]
  cf := some (fileOf pool1 17 #[] #[{ accessFlags := 2, nameIndex := 5, descriptorIndex := 6, attributes := #[] }, { accessFlags := 9, nameIndex := 21, descriptorIndex := 22, attributes := #[] }] 49 2 #[] #[])
  fields := #[]
  methods := #[k1m0, k1m1]
  instanceTypes := #[]
  staticTypes := #[]
  resolved := Array.replicate 26 none
  statics := none }

def pool2 : Array CpInfo := pool [(2, .class_ 4), (1, u "java/lang/Object"), (0, u "<init>"), (0, u "()V"), (0, .class_ 8), (0, u "java/lang/Record")] 13

def k2m0 : Method := { name := "<init>", desc := "()V", sig := { parameters := [], returnType := none }, accessFlags := 4, code := none }
/-- java/lang/Record -/
def k2 : Class := { plain "java/lang/Record" (some 0) with
  accessFlags := 1057
  interfaces := #[]
  cf := some (fileOf pool2 7 #[] #[{ accessFlags := 4, nameIndex := 5, descriptorIndex := 6, attributes := #[] }] 1057 2 #[] #[])
  fields := #[]
  methods := #[k2m0]
  instanceTypes := #[]
  staticTypes := #[]
  resolved := Array.replicate 22 none
  statics := none }

def pool3 : Array CpInfo := pool [(2, .class_ 4), (1, u "java/lang/Record"), (3, .class_ 10), (1, u "com/example/tempograph/tempograph/pcep/Message"), (0, u "typeCode"), (0, u "I"), (2, u "body"), (0, u "Ljava/nio/ByteBuffer;"), (38, u "isVersion1"), (0, u "(I)Z"), (32, u "HEADER"), (2, u "VERSION"), (1, u "VERSION_SHIFT"), (15, u "versionByte"), (0, u "()B")] 35

def k3c0 : Code := { maxStack := 1, maxLocals := 0, code := prog_18_method_6_code, exceptionTable := #[], attributes := #[] }
def k3m0 : Method := { name := "versionByte", desc := "()B", sig := { parameters := [], returnType := some .byte }, accessFlags := 8, code := some k3c0 }
def k3c1 : Code := { maxStack := 2, maxLocals := 1, code := prog_18_method_7_code, exceptionTable := #[], attributes := #[] }
def k3m1 : Method := { name := "isVersion1", desc := "(I)Z", sig := { parameters := [.int], returnType := some .boolean }, accessFlags := 8, code := some k3c1 }
/-- com/example/tempograph/tempograph/pcep/Message -/
def k3 : Class := { plain "com/example/tempograph/tempograph/pcep/Message" (some 2) with
  accessFlags := 48
  interfaces := #[]
  cf := some (fileOf pool3 8 #[] #[{ accessFlags := 8, nameIndex := 110, descriptorIndex := 111, attributes := #[] }, { accessFlags := 8, nameIndex := 55, descriptorIndex := 56, attributes := #[] }] 48 2 #[] #[{ accessFlags := 18, nameIndex := 11, descriptorIndex := 12, attributes := #[] }, { accessFlags := 18, nameIndex := 15, descriptorIndex := 16, attributes := #[] }, { accessFlags := 24, nameIndex := 89, descriptorIndex := 12, attributes := #[] }, { accessFlags := 26, nameIndex := 92, descriptorIndex := 12, attributes := #[] }, { accessFlags := 26, nameIndex := 94, descriptorIndex := 12, attributes := #[] }])
  fields := #[{ name := "typeCode", type := .int, accessFlags := 18, slot := 0, constantValue := 0 }, { name := "body", type := (.object "java/nio/ByteBuffer"), accessFlags := 18, slot := 1, constantValue := 0 }, { name := "HEADER", type := .int, accessFlags := 24, slot := 0, constantValue := 0 }, { name := "VERSION", type := .int, accessFlags := 26, slot := 1, constantValue := 0 }, { name := "VERSION_SHIFT", type := .int, accessFlags := 26, slot := 2, constantValue := 0 }]
  methods := #[k3m0, k3m1]
  instanceTypes := #[.int, (.object "java/nio/ByteBuffer")]
  staticTypes := #[.int, .int, .int]
  resolved := Array.replicate 147 none
  statics := none }

def pool4 : Array CpInfo := pool [(1, u "java/lang/Cloneable"), (0, .class_ 1), (0, u "java/lang/Object"), (0, .class_ 3)] 3

/-- java/lang/Cloneable -/
def k4 : Class := { plain "java/lang/Cloneable" (some 0) with
  accessFlags := 1537
  interfaces := #[]
  cf := some (fileOf pool4 2 #[] #[] 1537 4 #[] #[])
  fields := #[]
  methods := #[]
  instanceTypes := #[]
  staticTypes := #[]
  resolved := Array.replicate 8 none
  statics := none }

def pool5 : Array CpInfo := pool [(1, u "java/io/Serializable"), (0, .class_ 1), (0, u "java/lang/Object"), (0, .class_ 3)] 3

/-- java/io/Serializable -/
def k5 : Class := { plain "java/io/Serializable" (some 0) with
  accessFlags := 1537
  interfaces := #[]
  cf := some (fileOf pool5 2 #[] #[] 1537 4 #[] #[])
  fields := #[]
  methods := #[]
  instanceTypes := #[]
  staticTypes := #[]
  resolved := Array.replicate 8 none
  statics := none }

/-- the primitive byte -/
def k6 : Class := { plain "byte" none with kind := .primitive 'B', accessFlags := 0x411 }
/-- [B -/
def k7 : Class := { plain "[B" (some 0) with kind := .array 6 .byte, interfaces := #[4, 5], accessFlags := 1041 }

/-- the primitive int -/
def k8 : Class := { plain "int" none with kind := .primitive 'I', accessFlags := 0x411 }
/-- [I -/
def k9 : Class := { plain "[I" (some 0) with kind := .array 8 .int, interfaces := #[4, 5], accessFlags := 1041 }

def heap : Heap := #[]
def classes : Array Class := #[k0, k1, k2, k3, k4, k5, k6, k7, k8, k9]
def interned : List (Array UInt16 × Addr) := []
def slotsUsed : Nat := 0
def theMethod : MethodId := ⟨1, 1⟩
def args0 : Array Value := #[.int 40, .int 7]
def aboutOver (below : List Frame) : State where
  vm := { classes := classes, interned := interned.toArray }
  heap := heap
  slotsUsed := slotsUsed
  threads := #[{ frames := .invoking theMethod args0 :: below }]
def below0 : List Frame := [.native { method := ⟨0, 0⟩, args := #[] }]
def about1 : State := aboutOver below0
def p0 : Program := .bare "" "" ""
def e0 : Env := launch0.env 0 0 0
theorem w_frames : about1.frames = Frame.invoking theMethod args0 :: below0 := rfl
set_option maxRecDepth 65536 in
theorem w_args : argsFit about1.vm theMethod args0 = true := by decide +kernel
set_option maxRecDepth 65536 in
theorem w_heap : heapFits about1 = true := by decide +kernel
set_option maxRecDepth 65536 in
theorem w_runnable : about1.curStatus? = some .runnable := by decide +kernel
set_option maxRecDepth 65536 in
theorem w_alone : about1.alone = true := by decide +kernel
set_option maxRecDepth 65536 in
theorem w_named : about1.methodNamed? x = some theMethod := by decide +kernel
set_option maxRecDepth 65536 in
theorem w_hears : about1.hears theMethod below0 = true := by decide +kernel
set_option maxRecDepth 65536 in
theorem w_ripe : about1.ripe theMethod args0 below0 = true := by decide +kernel
theorem w_running : about1.status = .running := rfl
set_option maxRecDepth 65536 in
theorem w_room : about1.hasRoom e0.platform room_1 = true :=
  launch0.hasRoom_least _ room_1 (by decide +kernel) (by decide +kernel) (by decide +kernel) (by decide +kernel) (by decide +kernel) (by decide +kernel)
theorem allAtoms_all (ts : List Jvm.Cond) (a : Array Jvm.Value) (st : Jvm.State) : (allAtoms ts).before a st = ts.all (fun c => c.before a st) := by
  induction ts with
  | nil => rfl
  | cons c t ih =>
    show (Jvm.Cond.and c (allAtoms t)).before a st = _
    rw [Jvm.Cond.before_and, ih, List.all_cons]
def words1 : List Jvm.Cond := Jvm.Cond.code x code maxLocals ret :: tables_1
/-- a 'code' word, met by the world's own term for the bytes: nothing is compared byte by byte -/
theorem code_word {y : MethodName} {bytes : ByteArray} {mx : Nat} {rt : Option FieldType} {a : Array Value} {s : State} {m : MethodId} {meth : Method} {c : Code} (h1 : s.methodNamed? y = some m) (h2 : s.vm.method? m = some meth) (h3 : meth.code = some c) (h4 : c.code = bytes)
    (h5 : (c.maxLocals == mx && c.exceptionTable.isEmpty && decide (c.maxStack ≤ mostOperands) && decide (meth.sig.returnType = rt) && !meth.locks && decide (parseMethodDescriptor y.desc = some meth.sig)) = true) : (Jvm.Cond.code y bytes mx rt).before a s = true := by
  simp only [Bool.and_eq_true, beq_iff_eq, Bool.not_eq_true', decide_eq_true_eq] at h5
  obtain ⟨⟨⟨⟨⟨g1, g2⟩, g3⟩, g4⟩, g5⟩, g6⟩ := h5
  simp [Cond.before, Cond.holds, Cond.value, h1, h2, h3, h4, g1, g2, g3, g4, g5, g6]
def isCode : Jvm.Cond → Bool
  | .code _ _ _ _ => true
  | _ => false
theorem all_split {L : List Jvm.Cond} {P : Jvm.Cond → Bool} (h1 : L.all (fun c => isCode c || P c) = true) (h2 : ∀ c ∈ L.filter isCode, P c = true) : L.all P = true := by
  refine List.all_eq_true.mpr fun c hc => ?_
  have h := List.all_eq_true.mp h1 c hc
  rcases Bool.eq_false_or_eq_true (isCode c) with hi | hi
  · exact h2 c (List.mem_filter.mpr ⟨hc, hi⟩)
  · simpa [hi] using h
set_option maxRecDepth 65536 in
theorem w_c0 : (Jvm.Cond.code x code maxLocals ret).before args0 about1 = true := code_word (m := ⟨1, 1⟩) (meth := k1m1) (c := k1c1) (by decide +kernel) rfl rfl rfl (by decide +kernel)
set_option maxRecDepth 65536 in
theorem w_c1 : (Jvm.Cond.code ({ cls := "com/example/tempograph/tempograph/pcep/Message", name := "isVersion1", desc := "(I)Z" } : Jvm.MethodName) prog_18_method_7_code (1 : Nat) (Option.some Jvm.ClassFile.FieldType.boolean)).before args0 about1 = true := code_word (m := ⟨3, 1⟩) (meth := k3m1) (c := k3c1) (by decide +kernel) rfl rfl rfl (by decide +kernel)
set_option maxRecDepth 65536 in
theorem w_c2 : (Jvm.Cond.code ({ cls := "com/example/tempograph/tempograph/pcep/Message", name := "versionByte", desc := "()B" } : Jvm.MethodName) prog_18_method_6_code (0 : Nat) (Option.some Jvm.ClassFile.FieldType.byte)).before args0 about1 = true := code_word (m := ⟨3, 0⟩) (meth := k3m0) (c := k3c0) (by decide +kernel) rfl rfl rfl (by decide +kernel)
def codes1 : List Jvm.Cond := [Jvm.Cond.code x code maxLocals ret, Jvm.Cond.code ({ cls := "com/example/tempograph/tempograph/pcep/Message", name := "isVersion1", desc := "(I)Z" } : Jvm.MethodName) prog_18_method_7_code (1 : Nat) (Option.some Jvm.ClassFile.FieldType.boolean), Jvm.Cond.code ({ cls := "com/example/tempograph/tempograph/pcep/Message", name := "versionByte", desc := "()B" } : Jvm.MethodName) prog_18_method_6_code (0 : Nat) (Option.some Jvm.ClassFile.FieldType.byte)]
set_option maxRecDepth 65536 in
theorem codes_eq : words1.filter isCode = codes1 := rfl
theorem w_codes : ∀ c ∈ words1.filter isCode, c.before args0 about1 = true := by
  rw [codes_eq]
  intro c hc
  simp only [codes1, List.mem_cons, List.not_mem_nil, or_false] at hc
  rcases hc with rfl | rfl | rfl
  · exact w_c0
  · exact w_c1
  · exact w_c2
set_option maxRecDepth 65536 in
theorem w_t1 : words1.all (fun c => isCode c || c.before args0 about1) = true := by decide +kernel
theorem w_tables : (allAtoms (Jvm.Cond.code x code maxLocals ret :: tables_1)).before args0 about1 = true := by
  rw [allAtoms_all]
  show words1.all (fun c => c.before args0 about1) = true
  refine all_split ?_ w_codes
  rw [w_t1]
set_option maxRecDepth 65536 in
theorem w_case : (Jvm.Cond.and given_1 narrow_1).before args0 about1 = true := by decide +kernel
theorem w_applies : (headSpec (Jvm.Cond.code x code maxLocals ret :: tables_1) room_1).applies x e0.platform about1 = true :=
  (Spec.applies_iff w_frames).mpr ⟨w_running, w_runnable, w_alone, w_named, w_hears, w_ripe, w_room, w_tables⟩
theorem atStart : AtStart classFile x code maxLocals ret World_1 tables_1 room_1 Calls_1 rest_1 Pre_1 launch0 p0 e0 about1 theMethod args0 below0 :=
  ⟨lists_1, trivial, launch0.admits_env _ _ _, launch0.least_env, fairChoices_fair.cas, fairChoices_fair.clock, w_frames, w_args, w_heap, w_applies, trivial, trivial, w_case⟩
end start1
theorem witness_1 : WitnessClaimed_1 := ⟨start1.p0, start1.e0, start1.about1, start1.theMethod, start1.args0, start1.below0, start1.atStart⟩
end Jvm.Pilot.@@N@@
