import JvmDerived
import JvmDerived.Pilot.@@N@@Statement
import JvmDerived.Pilot.@@N@@Code
set_option linter.unusedVariables false
set_option linter.unusedSimpArgs false
namespace Jvm.RoadKit
open Sem ClassFile Op Lib Jvm.Stand Jvm.Free Jvm.LawKit
/-- the walk that stands at S comes to an end of which P holds -/
def own_Goes (tb : Tables) (e : Env) (below : List Frame) (P : State → Outcome → Prop) (S : State) : Prop := ∃ t o, Steps tb e below S t ∧ P t o
theorem own_Goes.of {tb : Tables} {e : Env} {below : List Frame} {P : State → Outcome → Prop} {S : State} (k : own_Goes tb e below P S) : ∃ t o, Steps tb e below S t ∧ P t o := k
theorem own_Goes.nm {tb : Tables} {e : Env} {below : List Frame} {P : State → Outcome → Prop} {S : State} (k : ∀ P' : State → Outcome → Prop, (∀ t o, P t o → P' t o) → own_Goes tb e below P' S) : own_Goes tb e below P S := k P fun _ _ q => q
theorem own_Goes.st {tb : Tables} {e : Env} {below : List Frame} {P : State → Outcome → Prop} {S S' : State} (k : own_Goes tb e below P S') (h : ∀ t, Steps tb e below S' t → Steps tb e below S t) : own_Goes tb e below P S := by
  obtain ⟨t, o, h1, h2⟩ := k; exact ⟨t, o, h t h1, h2⟩
theorem own_Goes.tr {tb : Tables} {e : Env} {below : List Frame} {P : State → Outcome → Prop} {S S' : State} (h : Steps tb e below S S') (k : own_Goes tb e below P S') : own_Goes tb e below P S := by
  obtain ⟨t, o, h1, h2⟩ := k; exact ⟨t, o, h.trans h1, h2⟩
theorem own_Goes.fin {tb : Tables} {e : Env} {below : List Frame} {P : State → Outcome → Prop} {S : State} (t : State) (o : Outcome) (h : Steps tb e below S t) (k : P t o) : own_Goes tb e below P S := ⟨t, o, h, k⟩
end Jvm.RoadKit
namespace Jvm.Pilot.@@N@@
open Jvm Jvm.ClassFile Sem Op Lib Jvm.Free Jvm.Stand Jvm.LawKit Jvm.RoadKit Bundle Jvm.Pilot.@@N@@.Jvm.D
def own_cl (b : Int64) : Int64 := b - (((b + 4096) - 1) / 4096) * 4
theorem own_cl_int (b : Int64) (h0 : 0 ≤ b.toInt) (h1 : b.toInt ≤ 9223372036854771712) : (own_cl b).toInt = b.toInt - (b.toInt + 4095) / 4096 * 4 := by
  have a1 := c_ladd b 4096; have a2 := c_lsub (b + 4096) 1
  have r1 := rng64 (b + 4096); have r2 := rng64 ((b + 4096) - 1)
  have k1 : (4096 : Int64).toInt = 4096 := by decide
  have k2 : (1 : Int64).toInt = 1 := by decide
  have k3 : (4 : Int64).toInt = 4 := by decide
  rw [k1] at a1; rw [k2] at a2
  have e1 : ((b + 4096) - 1).toInt = b.toInt + 4095 := by omega
  have d := (c_ldiv ((b + 4096) - 1) 4096 4096 k1 (by decide)).1 (by omega)
  rw [e1] at d
  have m1 := c_lmul (((b + 4096) - 1) / 4096) 4; rw [k3, d] at m1
  have r3 := rng64 ((((b + 4096) - 1) / 4096) * 4)
  have e2 : ((((b + 4096) - 1) / 4096) * 4).toInt = (b.toInt + 4095) / 4096 * 4 := by omega
  have s1 := c_lsub b ((((b + 4096) - 1) / 4096) * 4); rw [e2] at s1
  have r4 := rng64 (b - (((b + 4096) - 1) / 4096) * 4)
  show (b - (((b + 4096) - 1) / 4096) * 4).toInt = _
  omega
theorem own_parts (b : Int64) (h0 : 0 ≤ b.toInt) : (b / 4096).toInt = b.toInt / 4096 ∧ (b - (b / 4096) * 4096).toInt = b.toInt % 4096 := by
  exact ⟨(c_ldiv b 4096 4096 (by decide) (by decide)).1 h0, (c_lrem b 4096 4096 (by decide)).1 h0⟩
theorem own_parts2 (b : Int64) (h0 : 0 ≤ b.toInt) : (b / 4092).toInt = b.toInt / 4092 ∧ (b - (b / 4092) * 4092).toInt = b.toInt % 4092 := by
  exact ⟨(c_ldiv b 4092 4092 (by decide) (by decide)).1 h0, (c_lrem b 4092 4092 (by decide)).1 h0⟩
theorem own_eq0 (y : Int64) : y = 0 ↔ y.toInt = 0 := by
  have k : (0 : Int64).toInt = 0 := by decide
  rw [← Int64.toInt_inj, k]
theorem own_top {b : Int64} (h : ¬ (9223372036854771712 : Int64) < b) : b.toInt ≤ 9223372036854771712 := by
  have k : (9223372036854771712 : Int64).toInt = 9223372036854771712 := by decide
  rw [Int64.lt_iff_toInt_lt, k] at h; omega
theorem own_first0 {x b : Int64} (hb : b = x &&& 9223372036854775807) (h : ¬ (9223372036854771712 : Int64) < b) (hr : (b - (b / 4096) * 4096) = 0) : own_cl b = (b / 4096) * 4092 := by
  have hm := c_maskL x 9223372036854775807 63 (by decide) (by decide); rw [← hb] at hm
  have h0 : 0 ≤ b.toInt := by omega
  have h1 := own_top h; have c := own_cl_int b h0 h1; obtain ⟨p1, p2⟩ := own_parts b h0
  rw [own_eq0, p2] at hr
  have k4 : (4092 : Int64).toInt = 4092 := by decide
  have m1 := c_lmul (b / 4096) 4092; rw [k4, p1] at m1
  have r1 := rng64 ((b / 4096) * 4092); have r0 := rng64 b
  apply Int64.toInt_inj.mp; rw [c]; omega
theorem own_first1 {x b : Int64} (hb : b = x &&& 9223372036854775807) (h : ¬ (9223372036854771712 : Int64) < b) (hr : ¬ (b - (b / 4096) * 4096) = 0) : own_cl b = ((b / 4096) * 4092 + (b - (b / 4096) * 4096)) - 4 := by
  have hm := c_maskL x 9223372036854775807 63 (by decide) (by decide); rw [← hb] at hm
  have h0 : 0 ≤ b.toInt := by omega
  have h1 := own_top h; have c := own_cl_int b h0 h1; obtain ⟨p1, p2⟩ := own_parts b h0
  rw [own_eq0, p2] at hr
  have k4 : (4092 : Int64).toInt = 4092 := by decide
  have k5 : (4 : Int64).toInt = 4 := by decide
  have m1 := c_lmul (b / 4096) 4092; rw [k4, p1] at m1
  have r1 := rng64 ((b / 4096) * 4092); have r0 := rng64 b
  have m2 := c_ladd ((b / 4096) * 4092) (b - (b / 4096) * 4096); have r2 := rng64 ((b / 4096) * 4092 + (b - (b / 4096) * 4096)); rw [p2] at m2
  have m3 := c_lsub ((b / 4096) * 4092 + (b - (b / 4096) * 4096)) 4; have r3 := rng64 (((b / 4096) * 4092 + (b - (b / 4096) * 4096)) - 4); rw [k5] at m3
  apply Int64.toInt_inj.mp; rw [c]; omega
theorem own_second0 {y c : Int64} (hc : c = y &&& 4611686018427387903) (hr : (c - (c / 4092) * 4092) = 0) : own_cl ((c / 4092) * 4096) = c := by
  have hm := c_maskL y 4611686018427387903 62 (by decide) (by decide); rw [← hc] at hm
  have h0 : 0 ≤ c.toInt := by omega
  obtain ⟨p1, p2⟩ := own_parts2 c h0
  rw [own_eq0, p2] at hr
  have k4 : (4096 : Int64).toInt = 4096 := by decide
  have m1 := c_lmul (c / 4092) 4096; rw [k4, p1] at m1
  have r1 := rng64 ((c / 4092) * 4096); have r0 := rng64 c
  have e1 : ((c / 4092) * 4096).toInt = c.toInt / 4092 * 4096 := by omega
  have cl := own_cl_int ((c / 4092) * 4096) (by omega) (by omega)
  apply Int64.toInt_inj.mp; rw [cl, e1]; omega
theorem own_second1 {y c : Int64} (hc : c = y &&& 4611686018427387903) (hr : ¬ (c - (c / 4092) * 4092) = 0) : own_cl (((c / 4092) * 4096 + (c - (c / 4092) * 4092)) + 4) = c := by
  have hm := c_maskL y 4611686018427387903 62 (by decide) (by decide); rw [← hc] at hm
  have h0 : 0 ≤ c.toInt := by omega
  obtain ⟨p1, p2⟩ := own_parts2 c h0
  rw [own_eq0, p2] at hr
  have k4 : (4096 : Int64).toInt = 4096 := by decide
  have k5 : (4 : Int64).toInt = 4 := by decide
  have m1 := c_lmul (c / 4092) 4096; rw [k4, p1] at m1
  have r1 := rng64 ((c / 4092) * 4096); have r0 := rng64 c
  have m2 := c_ladd ((c / 4092) * 4096) (c - (c / 4092) * 4092); have r2 := rng64 ((c / 4092) * 4096 + (c - (c / 4092) * 4092)); rw [p2] at m2
  have m3 := c_ladd ((c / 4092) * 4096 + (c - (c / 4092) * 4092)) 4; have r3 := rng64 (((c / 4092) * 4096 + (c - (c / 4092) * 4092)) + 4); rw [k5] at m3
  have e1 : (((c / 4092) * 4096 + (c - (c / 4092) * 4092)) + 4).toInt = c.toInt / 4092 * 4096 + c.toInt % 4092 + 4 := by omega
  have cl := own_cl_int (((c / 4092) * 4096 + (c - (c / 4092) * 4092)) + 4) (by omega) (by omega)
  apply Int64.toInt_inj.mp; rw [cl, e1]; omega
theorem own_ef_cl (m : MethodId) (x0 : Int64) : entryFrame m #[(.long x0)] 4 = mkF m 0 #[.val (.long x0), .second, .unset, .unset] [] := by first | (simp [entryFrame, mkF, argsToLocals, Value.category]; done) | rfl
theorem own_pn_com_example_shrike_shrike_io_Pages : plainName "com/example/shrike/shrike/io/Pages" = true := by first | (simp [plainName, overriddenIn]; done) | decide +kernel
theorem own_d_prog_29_method_2_0 : decode prog_29_method_2_code 0 = .ok (.lload_n 0, 1) := by decide +kernel
theorem own_d_prog_29_method_2_1 : decode prog_29_method_2_code 1 = .ok (.ldc2_w 11, 3) := by decide +kernel
theorem own_d_prog_29_method_2_4 : decode prog_29_method_2_code 4 = .ok (.ladd, 1) := by decide +kernel
theorem own_d_prog_29_method_2_5 : decode prog_29_method_2_code 5 = .ok (.lconst 1, 1) := by decide +kernel
theorem own_d_prog_29_method_2_6 : decode prog_29_method_2_code 6 = .ok (.lsub, 1) := by decide +kernel
theorem own_d_prog_29_method_2_7 : decode prog_29_method_2_code 7 = .ok (.ldc2_w 11, 3) := by decide +kernel
theorem own_d_prog_29_method_2_10 : decode prog_29_method_2_code 10 = .ok (.ldiv, 1) := by decide +kernel
theorem own_d_prog_29_method_2_11 : decode prog_29_method_2_code 11 = .ok (.lstore_n 2, 1) := by decide +kernel
theorem own_d_prog_29_method_2_12 : decode prog_29_method_2_code 12 = .ok (.lload_n 0, 1) := by decide +kernel
theorem own_d_prog_29_method_2_13 : decode prog_29_method_2_code 13 = .ok (.lload_n 2, 1) := by decide +kernel
theorem own_d_prog_29_method_2_14 : decode prog_29_method_2_code 14 = .ok (.ldc2_w 13, 3) := by decide +kernel
theorem own_d_prog_29_method_2_17 : decode prog_29_method_2_code 17 = .ok (.lmul, 1) := by decide +kernel
theorem own_d_prog_29_method_2_18 : decode prog_29_method_2_code 18 = .ok (.lsub, 1) := by decide +kernel
theorem own_d_prog_29_method_2_19 : decode prog_29_method_2_code 19 = .ok (.lreturn, 1) := by decide +kernel
def Q_cl (Z : State) (b : Int64) (h0 : Heap) (n0 : Nat) (v : Option Value) (h : Heap) (L : List Loc) : Prop := v = some (.long (own_cl b)) ∧ Fr n0 L ∧ h = h0
set_option maxRecDepth 65536 in
set_option maxHeartbeats 40000000 in
theorem rm_cl (l : Launch) (Z : State) (a0 : Array Value) (hw : ∀ d ∈ tables_1, d.before a0 Z = true) (ws : List Jvm.Cond) (b : Int64) (h0 : Heap) (n0 : Nat) (Z0 : n0 ≤ h0.size) :
    MetFree l (⟨"com/example/shrike/shrike/io/Pages", "contentLength", "(J)J"⟩ : MethodName) (head1 (Jvm.Cond.code (⟨"com/example/shrike/shrike/io/Pages", "contentLength", "(J)J"⟩ : MethodName) prog_29_method_2_code 4 (some .long) :: ws) ({ frames := 0, cells := 0, slots := 0, locals := 0 } : Room)) (fun as_ U => as_ = #[(.long b)] ∧ Z.Warmed39 U.vm ∧ U.heap = h0) (fun _ _ _ _ _ => True) (fun _ U o U' => ∃ v L, o = .returned v ∧ Q_cl Z b h0 n0 v U'.heap L ∧ FrameEnd U o U' L ({ frames := 0, cells := 0, slots := 0, locals := 0 } : Room).cells ({ frames := 0, cells := 0, slots := 0, locals := 0 } : Room).slots) := by
  refine MetFree.of_bodySF (plainFor_of_name own_pn_com_example_shrike_shrike_io_Pages) hisR ?_
  intro p e s m args below meth c s₁ Bd hml0 hP hK
  obtain ⟨rfl, hZ, hh⟩ := hP
  have hx := Bd.exec
  have hby := Bd.bytes
  have hml : c.maxLocals = 4 := hml0
  have hown : s.vm.findClass "com/example/shrike/shrike/io/Pages" = some m.cls := findClass_of_methodNamed Bd.named
  have hnm := (name_of_methodNamed Bd.named Bd.method).1
  have X0 : Stand p l e ({ frames := 0, cells := 0, slots := 0, locals := 0 } : Room) s m #[(.long b)] below meth c s₁ [] 0 0 := Stand.of_body Bd
  have e0 : s₁.heap = h0 := by rw [← hh, Bd.state]; rfl
  have N0 := Fr.nil n0
  refine own_Goes.of ?_
  refine own_Goes.nm (fun P hPP => ?_)
  refine own_Goes.st ?_ (fun _ k => castTop (own_ef_cl m b) k)
  show own_Goes p.tables e below P (s₁.setTop (mkF m 0 #[.val (.long b), .second, .unset, .unset] []))
  refine own_Goes.st ?_ (fun _ k => XS.lloadN X0.here hx rfl (hb hby own_d_prog_29_method_2_0) rfl k)
  show own_Goes p.tables e below P (s₁.setTop (mkF m 1 #[.val (.long b), .second, .unset, .unset] [(.long b)]))
  refine own_Goes.st ?_ (X0.ldc2Long hx hown (mvT hZ (hw _ (List.mem_of_getElem? (i := 9) rfl))) (g := (mkF m 1 #[.val (.long b), .second, .unset, .unset] [(.long b)])) rfl (hb hby own_d_prog_29_method_2_1))
  show own_Goes p.tables e below P (s₁.setTop (mkF m 4 #[.val (.long b), .second, .unset, .unset] [(.long (4096 : Int64)), (.long b)]))
  refine own_Goes.st ?_ (fun _ k => XS.ladd X0.here hx rfl (hb hby own_d_prog_29_method_2_4) rfl k)
  show own_Goes p.tables e below P (s₁.setTop (mkF m 5 #[.val (.long b), .second, .unset, .unset] [(.long (b + (4096 : Int64)))]))
  refine own_Goes.st ?_ (fun _ k => XS.lconst X0.here hx rfl (hb hby own_d_prog_29_method_2_5) k)
  show own_Goes p.tables e below P (s₁.setTop (mkF m 6 #[.val (.long b), .second, .unset, .unset] [(.long (1 : Int64)), (.long (b + (4096 : Int64)))]))
  refine own_Goes.st ?_ (fun _ k => XS.lsub X0.here hx rfl (hb hby own_d_prog_29_method_2_6) rfl k)
  show own_Goes p.tables e below P (s₁.setTop (mkF m 7 #[.val (.long b), .second, .unset, .unset] [(.long ((b + (4096 : Int64)) - (1 : Int64)))]))
  refine own_Goes.st ?_ (X0.ldc2Long hx hown (mvT hZ (hw _ (List.mem_of_getElem? (i := 9) rfl))) (g := (mkF m 7 #[.val (.long b), .second, .unset, .unset] [(.long ((b + (4096 : Int64)) - (1 : Int64)))])) rfl (hb hby own_d_prog_29_method_2_7))
  show own_Goes p.tables e below P (s₁.setTop (mkF m 10 #[.val (.long b), .second, .unset, .unset] [(.long (4096 : Int64)), (.long ((b + (4096 : Int64)) - (1 : Int64)))]))
  refine own_Goes.st ?_ (fun _ k => XS.ldiv X0.here hx rfl (hb hby own_d_prog_29_method_2_10) rfl (by decide) k)
  show own_Goes p.tables e below P (s₁.setTop (mkF m 11 #[.val (.long b), .second, .unset, .unset] [(.long (((b + (4096 : Int64)) - (1 : Int64)) / (4096 : Int64)))]))
  refine own_Goes.st ?_ (fun _ k => XS.lstoreN X0.here hx rfl (hb hby own_d_prog_29_method_2_11) rfl (l' := #[.val (.long b), .second, .val (.long (((b + (4096 : Int64)) - (1 : Int64)) / (4096 : Int64))), .second]) rfl k)
  show own_Goes p.tables e below P (s₁.setTop (mkF m 12 #[.val (.long b), .second, .val (.long (((b + (4096 : Int64)) - (1 : Int64)) / (4096 : Int64))), .second] []))
  refine own_Goes.st ?_ (fun _ k => XS.lloadN X0.here hx rfl (hb hby own_d_prog_29_method_2_12) rfl k)
  show own_Goes p.tables e below P (s₁.setTop (mkF m 13 #[.val (.long b), .second, .val (.long (((b + (4096 : Int64)) - (1 : Int64)) / (4096 : Int64))), .second] [(.long b)]))
  refine own_Goes.st ?_ (fun _ k => XS.lloadN X0.here hx rfl (hb hby own_d_prog_29_method_2_13) rfl k)
  show own_Goes p.tables e below P (s₁.setTop (mkF m 14 #[.val (.long b), .second, .val (.long (((b + (4096 : Int64)) - (1 : Int64)) / (4096 : Int64))), .second] [(.long (((b + (4096 : Int64)) - (1 : Int64)) / (4096 : Int64))), (.long b)]))
  refine own_Goes.st ?_ (X0.ldc2Long hx hown (mvT hZ (hw _ (List.mem_of_getElem? (i := 10) rfl))) (g := (mkF m 14 #[.val (.long b), .second, .val (.long (((b + (4096 : Int64)) - (1 : Int64)) / (4096 : Int64))), .second] [(.long (((b + (4096 : Int64)) - (1 : Int64)) / (4096 : Int64))), (.long b)])) rfl (hb hby own_d_prog_29_method_2_14))
  show own_Goes p.tables e below P (s₁.setTop (mkF m 17 #[.val (.long b), .second, .val (.long (((b + (4096 : Int64)) - (1 : Int64)) / (4096 : Int64))), .second] [(.long (4 : Int64)), (.long (((b + (4096 : Int64)) - (1 : Int64)) / (4096 : Int64))), (.long b)]))
  refine own_Goes.st ?_ (fun _ k => XS.lmul X0.here hx rfl (hb hby own_d_prog_29_method_2_17) rfl k)
  show own_Goes p.tables e below P (s₁.setTop (mkF m 18 #[.val (.long b), .second, .val (.long (((b + (4096 : Int64)) - (1 : Int64)) / (4096 : Int64))), .second] [(.long ((((b + (4096 : Int64)) - (1 : Int64)) / (4096 : Int64)) * (4 : Int64))), (.long b)]))
  refine own_Goes.st ?_ (fun _ k => XS.lsub X0.here hx rfl (hb hby own_d_prog_29_method_2_18) rfl k)
  show own_Goes p.tables e below P (s₁.setTop (mkF m 19 #[.val (.long b), .second, .val (.long (((b + (4096 : Int64)) - (1 : Int64)) / (4096 : Int64))), .second] [(.long (b - ((((b + (4096 : Int64)) - (1 : Int64)) / (4096 : Int64)) * (4 : Int64))))]))
  obtain ⟨fs, hr, hrun, hended, hW, hsame⟩ := X0.leave (v := some (.long (b - ((((b + (4096 : Int64)) - (1 : Int64)) / (4096 : Int64)) * (4 : Int64))))) (fun h => by rw [Bd.returns] at h; cases h)
  exact own_Goes.fin _ _ (retOut X0 hx (t := .long) Bd.returns rfl (Or.inr (Or.inl ⟨rfl, rfl, _, rfl⟩)) (hb hby own_d_prog_29_method_2_19) hr) (hPP _ _ ⟨hrun, hended, _, _, rfl, (by show Q_cl Z b h0 n0 _ s₁.heap _; rw [e0]; exact ⟨rfl, N0, rfl⟩), ⟨_, rfl⟩, hW, hsame.mono (by decide) (by decide)⟩)
theorem own_ef_law (m : MethodId) (x0 : Int64) (x1 : Int64) : entryFrame m #[(.long x0), (.long x1)] maxLocals = mkF m 0 #[.val (.long x0), .second, .val (.long x1), .second, .unset, .unset, .unset, .unset, .unset, .unset, .unset, .unset, .unset, .unset, .unset, .unset] [] := by first | (simp [entryFrame, mkF, argsToLocals, Value.category, maxLocals]; done) | rfl
theorem own_pn_com_example_shrike_shrike_io_PagesContentLengthPinLaw : plainName "com/example/shrike/shrike/io/PagesContentLengthPinLaw" = true := by first | (simp [plainName, overriddenIn]; done) | decide +kernel
theorem own_pd__28_J_29_J : parseMethodDescriptor "(J)J" = some ⟨[.long], some .long⟩ := by decide +kernel
def Q_law (n0 : Nat) (v : Option Value) (L : List Loc) : Prop := v = some (.int 1) ∧ Fr n0 L
set_option maxRecDepth 65536 in
set_option maxHeartbeats 40000000 in
theorem rm_law (l : Launch) (Z : State) (a0 : Array Value) (hw : ∀ d ∈ tables_1, d.before a0 Z = true) (ws : List Jvm.Cond) (p0 : Int64) (p1 : Int64) (h0 : Heap) (n0 : Nat) (Z0 : n0 ≤ h0.size) :
    MetFree l x (head1 (Jvm.Cond.code x code maxLocals ret :: ws) room_1) (fun as_ U => as_ = #[(.long p0), (.long p1)] ∧ Z.Warmed39 U.vm ∧ U.heap = h0) (fun _ _ _ _ _ => True) (fun _ U o U' => ∃ v L, o = .returned v ∧ Q_law n0 v L ∧ FrameEnd U o U' L 0 0) := by
  refine MetFree.of_bodySF (plainFor_of_name own_pn_com_example_shrike_shrike_io_PagesContentLengthPinLaw) hisR ?_
  intro p e s m args below meth c s₁ Bd hml0 hP hK
  obtain ⟨rfl, hZ, hh⟩ := hP
  have hx := Bd.exec
  have hby := Bd.bytes
  have hml : c.maxLocals = 16 := hml0
  have hown : s.vm.findClass "com/example/shrike/shrike/io/PagesContentLengthPinLaw" = some m.cls := findClass_of_methodNamed Bd.named
  have hnm := (name_of_methodNamed Bd.named Bd.method).1
  have X0 : Stand p l e room_1 s m #[(.long p0), (.long p1)] below meth c s₁ [] 0 0 := Stand.of_body Bd
  have e0 : s₁.heap = h0 := by rw [← hh, Bd.state]; rfl
  have N0 := Fr.nil n0
  refine own_Goes.of ?_
  refine own_Goes.nm (fun P hPP => ?_)
  refine own_Goes.st ?_ (fun _ k => castTop (own_ef_law m p0 p1) k)
  show own_Goes p.tables e below P (s₁.setTop (mkF m 0 #[.val (.long p0), .second, .val (.long p1), .second, .unset, .unset, .unset, .unset, .unset, .unset, .unset, .unset, .unset, .unset, .unset, .unset] []))
  refine own_Goes.st ?_ (fun _ k => XS.iconst X0.here hx rfl (hb hby at_0) k)
  show own_Goes p.tables e below P (s₁.setTop (mkF m 1 #[.val (.long p0), .second, .val (.long p1), .second, .unset, .unset, .unset, .unset, .unset, .unset, .unset, .unset, .unset, .unset, .unset, .unset] [(.int (1 : Int32))]))
  refine own_Goes.st ?_ (fun _ k => XS.istore X0.here hx rfl (hb hby at_1) rfl (l' := #[.val (.long p0), .second, .val (.long p1), .second, .val (.int (1 : Int32)), .unset, .unset, .unset, .unset, .unset, .unset, .unset, .unset, .unset, .unset, .unset]) rfl k)
  show own_Goes p.tables e below P (s₁.setTop (mkF m 3 #[.val (.long p0), .second, .val (.long p1), .second, .val (.int (1 : Int32)), .unset, .unset, .unset, .unset, .unset, .unset, .unset, .unset, .unset, .unset, .unset] []))
  refine own_Goes.st ?_ (fun _ k => XS.lloadN X0.here hx rfl (hb hby at_3) rfl k)
  show own_Goes p.tables e below P (s₁.setTop (mkF m 4 #[.val (.long p0), .second, .val (.long p1), .second, .val (.int (1 : Int32)), .unset, .unset, .unset, .unset, .unset, .unset, .unset, .unset, .unset, .unset, .unset] [(.long p0)]))
  refine own_Goes.st ?_ (X0.ldc2Long hx hown (mvT hZ (hw _ (List.mem_of_getElem? (i := 0) rfl))) (g := (mkF m 4 #[.val (.long p0), .second, .val (.long p1), .second, .val (.int (1 : Int32)), .unset, .unset, .unset, .unset, .unset, .unset, .unset, .unset, .unset, .unset, .unset] [(.long p0)])) rfl (hb hby at_4))
  show own_Goes p.tables e below P (s₁.setTop (mkF m 7 #[.val (.long p0), .second, .val (.long p1), .second, .val (.int (1 : Int32)), .unset, .unset, .unset, .unset, .unset, .unset, .unset, .unset, .unset, .unset, .unset] [(.long (9223372036854775807 : Int64)), (.long p0)]))
  refine own_Goes.st ?_ (fun _ k => XS.land X0.here hx rfl (hb hby at_7) rfl k)
  show own_Goes p.tables e below P (s₁.setTop (mkF m 8 #[.val (.long p0), .second, .val (.long p1), .second, .val (.int (1 : Int32)), .unset, .unset, .unset, .unset, .unset, .unset, .unset, .unset, .unset, .unset, .unset] [(.long (p0 &&& (9223372036854775807 : Int64)))]))
  refine own_Goes.st ?_ (fun _ k => XS.lstore X0.here hx rfl (hb hby at_8) rfl (l' := #[.val (.long p0), .second, .val (.long p1), .second, .val (.int (1 : Int32)), .val (.long (p0 &&& (9223372036854775807 : Int64))), .second, .unset, .unset, .unset, .unset, .unset, .unset, .unset, .unset, .unset]) rfl k)
  show own_Goes p.tables e below P (s₁.setTop (mkF m 10 #[.val (.long p0), .second, .val (.long p1), .second, .val (.int (1 : Int32)), .val (.long (p0 &&& (9223372036854775807 : Int64))), .second, .unset, .unset, .unset, .unset, .unset, .unset, .unset, .unset, .unset] []))
  generalize hbb : (p0 &&& (9223372036854775807 : Int64)) = bb
  show own_Goes p.tables e below P (s₁.setTop (mkF m 10 #[.val (.long p0), .second, .val (.long p1), .second, .val (.int (1 : Int32)), .val (.long bb), .second, .unset, .unset, .unset, .unset, .unset, .unset, .unset, .unset, .unset] []))
  refine own_Goes.st ?_ (fun _ k => XS.lload X0.here hx rfl (hb hby at_10) rfl k)
  show own_Goes p.tables e below P (s₁.setTop (mkF m 12 #[.val (.long p0), .second, .val (.long p1), .second, .val (.int (1 : Int32)), .val (.long bb), .second, .unset, .unset, .unset, .unset, .unset, .unset, .unset, .unset, .unset] [(.long bb)]))
  refine own_Goes.st ?_ (X0.ldc2Long hx hown (mvT hZ (hw _ (List.mem_of_getElem? (i := 1) rfl))) (g := (mkF m 12 #[.val (.long p0), .second, .val (.long p1), .second, .val (.int (1 : Int32)), .val (.long bb), .second, .unset, .unset, .unset, .unset, .unset, .unset, .unset, .unset, .unset] [(.long bb)])) rfl (hb hby at_12))
  show own_Goes p.tables e below P (s₁.setTop (mkF m 15 #[.val (.long p0), .second, .val (.long p1), .second, .val (.int (1 : Int32)), .val (.long bb), .second, .unset, .unset, .unset, .unset, .unset, .unset, .unset, .unset, .unset] [(.long (9223372036854771712 : Int64)), (.long bb)]))
  refine own_Goes.st ?_ (fun _ k => XS.lcmp X0.here hx rfl (hb hby at_15) rfl k)
  show own_Goes p.tables e below P (s₁.setTop (mkF m 16 #[.val (.long p0), .second, .val (.long p1), .second, .val (.int (1 : Int32)), .val (.long bb), .second, .unset, .unset, .unset, .unset, .unset, .unset, .unset, .unset, .unset] [(.int (lcmpW bb (9223372036854771712 : Int64)))]))
  by_cases h1 : (9223372036854771712 : Int64) < bb
  · skip
    refine own_Goes.st ?_ (fun _ k => XS.ifYes X0.here hx rfl (pc0 := 16) (pc' := 86) rfl (hb hby at_16) rfl ((if0 _ _).trans (tlt ((lw_gt _ _).mpr h1)).2.2.1) (by decide) (by decide) k)
    show own_Goes p.tables e below P (s₁.setTop (mkF m 86 #[.val (.long p0), .second, .val (.long p1), .second, .val (.int (1 : Int32)), .val (.long bb), .second, .unset, .unset, .unset, .unset, .unset, .unset, .unset, .unset, .unset] []))
    refine own_Goes.st ?_ (fun _ k => XS.lloadN X0.here hx rfl (hb hby at_86) rfl k)
    show own_Goes p.tables e below P (s₁.setTop (mkF m 87 #[.val (.long p0), .second, .val (.long p1), .second, .val (.int (1 : Int32)), .val (.long bb), .second, .unset, .unset, .unset, .unset, .unset, .unset, .unset, .unset, .unset] [(.long p1)]))
    refine own_Goes.st ?_ (X0.ldc2Long hx hown (mvT hZ (hw _ (List.mem_of_getElem? (i := 11) rfl))) (g := (mkF m 87 #[.val (.long p0), .second, .val (.long p1), .second, .val (.int (1 : Int32)), .val (.long bb), .second, .unset, .unset, .unset, .unset, .unset, .unset, .unset, .unset, .unset] [(.long p1)])) rfl (hb hby at_87))
    show own_Goes p.tables e below P (s₁.setTop (mkF m 90 #[.val (.long p0), .second, .val (.long p1), .second, .val (.int (1 : Int32)), .val (.long bb), .second, .unset, .unset, .unset, .unset, .unset, .unset, .unset, .unset, .unset] [(.long (4611686018427387903 : Int64)), (.long p1)]))
    refine own_Goes.st ?_ (fun _ k => XS.land X0.here hx rfl (hb hby at_90) rfl k)
    show own_Goes p.tables e below P (s₁.setTop (mkF m 91 #[.val (.long p0), .second, .val (.long p1), .second, .val (.int (1 : Int32)), .val (.long bb), .second, .unset, .unset, .unset, .unset, .unset, .unset, .unset, .unset, .unset] [(.long (p1 &&& (4611686018427387903 : Int64)))]))
    refine own_Goes.st ?_ (fun _ k => XS.lstore X0.here hx rfl (hb hby at_91) rfl (l' := #[.val (.long p0), .second, .val (.long p1), .second, .val (.int (1 : Int32)), .val (.long bb), .second, .val (.long (p1 &&& (4611686018427387903 : Int64))), .second, .unset, .unset, .unset, .unset, .unset, .unset, .unset]) rfl k)
    show own_Goes p.tables e below P (s₁.setTop (mkF m 93 #[.val (.long p0), .second, .val (.long p1), .second, .val (.int (1 : Int32)), .val (.long bb), .second, .val (.long (p1 &&& (4611686018427387903 : Int64))), .second, .unset, .unset, .unset, .unset, .unset, .unset, .unset] []))
    generalize hcc : (p1 &&& (4611686018427387903 : Int64)) = cc
    show own_Goes p.tables e below P (s₁.setTop (mkF m 93 #[.val (.long p0), .second, .val (.long p1), .second, .val (.int (1 : Int32)), .val (.long bb), .second, .val (.long cc), .second, .unset, .unset, .unset, .unset, .unset, .unset, .unset] []))
    refine own_Goes.st ?_ (fun _ k => XS.lload X0.here hx rfl (hb hby at_93) rfl k)
    show own_Goes p.tables e below P (s₁.setTop (mkF m 95 #[.val (.long p0), .second, .val (.long p1), .second, .val (.int (1 : Int32)), .val (.long bb), .second, .val (.long cc), .second, .unset, .unset, .unset, .unset, .unset, .unset, .unset] [(.long cc)]))
    refine own_Goes.st ?_ (X0.ldc2Long hx hown (mvT hZ (hw _ (List.mem_of_getElem? (i := 3) rfl))) (g := (mkF m 95 #[.val (.long p0), .second, .val (.long p1), .second, .val (.int (1 : Int32)), .val (.long bb), .second, .val (.long cc), .second, .unset, .unset, .unset, .unset, .unset, .unset, .unset] [(.long cc)])) rfl (hb hby at_95))
    show own_Goes p.tables e below P (s₁.setTop (mkF m 98 #[.val (.long p0), .second, .val (.long p1), .second, .val (.int (1 : Int32)), .val (.long bb), .second, .val (.long cc), .second, .unset, .unset, .unset, .unset, .unset, .unset, .unset] [(.long (4092 : Int64)), (.long cc)]))
    refine own_Goes.st ?_ (fun _ k => XS.ldiv X0.here hx rfl (hb hby at_98) rfl (by decide) k)
    show own_Goes p.tables e below P (s₁.setTop (mkF m 99 #[.val (.long p0), .second, .val (.long p1), .second, .val (.int (1 : Int32)), .val (.long bb), .second, .val (.long cc), .second, .unset, .unset, .unset, .unset, .unset, .unset, .unset] [(.long (cc / (4092 : Int64)))]))
    refine own_Goes.st ?_ (fun _ k => XS.lstore X0.here hx rfl (hb hby at_99) rfl (l' := #[.val (.long p0), .second, .val (.long p1), .second, .val (.int (1 : Int32)), .val (.long bb), .second, .val (.long cc), .second, .val (.long (cc / (4092 : Int64))), .second, .unset, .unset, .unset, .unset, .unset]) rfl k)
    show own_Goes p.tables e below P (s₁.setTop (mkF m 101 #[.val (.long p0), .second, .val (.long p1), .second, .val (.int (1 : Int32)), .val (.long bb), .second, .val (.long cc), .second, .val (.long (cc / (4092 : Int64))), .second, .unset, .unset, .unset, .unset, .unset] []))
    refine own_Goes.st ?_ (fun _ k => XS.lload X0.here hx rfl (hb hby at_101) rfl k)
    show own_Goes p.tables e below P (s₁.setTop (mkF m 103 #[.val (.long p0), .second, .val (.long p1), .second, .val (.int (1 : Int32)), .val (.long bb), .second, .val (.long cc), .second, .val (.long (cc / (4092 : Int64))), .second, .unset, .unset, .unset, .unset, .unset] [(.long cc)]))
    refine own_Goes.st ?_ (X0.ldc2Long hx hown (mvT hZ (hw _ (List.mem_of_getElem? (i := 3) rfl))) (g := (mkF m 103 #[.val (.long p0), .second, .val (.long p1), .second, .val (.int (1 : Int32)), .val (.long bb), .second, .val (.long cc), .second, .val (.long (cc / (4092 : Int64))), .second, .unset, .unset, .unset, .unset, .unset] [(.long cc)])) rfl (hb hby at_103))
    show own_Goes p.tables e below P (s₁.setTop (mkF m 106 #[.val (.long p0), .second, .val (.long p1), .second, .val (.int (1 : Int32)), .val (.long bb), .second, .val (.long cc), .second, .val (.long (cc / (4092 : Int64))), .second, .unset, .unset, .unset, .unset, .unset] [(.long (4092 : Int64)), (.long cc)]))
    refine own_Goes.st ?_ (fun _ k => XS.lrem X0.here hx rfl (hb hby at_106) rfl (by decide) k)
    show own_Goes p.tables e below P (s₁.setTop (mkF m 107 #[.val (.long p0), .second, .val (.long p1), .second, .val (.int (1 : Int32)), .val (.long bb), .second, .val (.long cc), .second, .val (.long (cc / (4092 : Int64))), .second, .unset, .unset, .unset, .unset, .unset] [(.long (cc - (cc / (4092 : Int64)) * (4092 : Int64)))]))
    refine own_Goes.st ?_ (fun _ k => XS.lstore X0.here hx rfl (hb hby at_107) rfl (l' := #[.val (.long p0), .second, .val (.long p1), .second, .val (.int (1 : Int32)), .val (.long bb), .second, .val (.long cc), .second, .val (.long (cc / (4092 : Int64))), .second, .val (.long (cc - (cc / (4092 : Int64)) * (4092 : Int64))), .second, .unset, .unset, .unset]) rfl k)
    show own_Goes p.tables e below P (s₁.setTop (mkF m 109 #[.val (.long p0), .second, .val (.long p1), .second, .val (.int (1 : Int32)), .val (.long bb), .second, .val (.long cc), .second, .val (.long (cc / (4092 : Int64))), .second, .val (.long (cc - (cc / (4092 : Int64)) * (4092 : Int64))), .second, .unset, .unset, .unset] []))
    refine own_Goes.st ?_ (fun _ k => XS.lload X0.here hx rfl (hb hby at_109) rfl k)
    show own_Goes p.tables e below P (s₁.setTop (mkF m 111 #[.val (.long p0), .second, .val (.long p1), .second, .val (.int (1 : Int32)), .val (.long bb), .second, .val (.long cc), .second, .val (.long (cc / (4092 : Int64))), .second, .val (.long (cc - (cc / (4092 : Int64)) * (4092 : Int64))), .second, .unset, .unset, .unset] [(.long (cc - (cc / (4092 : Int64)) * (4092 : Int64)))]))
    refine own_Goes.st ?_ (fun _ k => XS.lconst X0.here hx rfl (hb hby at_111) k)
    show own_Goes p.tables e below P (s₁.setTop (mkF m 112 #[.val (.long p0), .second, .val (.long p1), .second, .val (.int (1 : Int32)), .val (.long bb), .second, .val (.long cc), .second, .val (.long (cc / (4092 : Int64))), .second, .val (.long (cc - (cc / (4092 : Int64)) * (4092 : Int64))), .second, .unset, .unset, .unset] [(.long (0 : Int64)), (.long (cc - (cc / (4092 : Int64)) * (4092 : Int64)))]))
    refine own_Goes.st ?_ (fun _ k => XS.lcmp X0.here hx rfl (hb hby at_112) rfl k)
    show own_Goes p.tables e below P (s₁.setTop (mkF m 113 #[.val (.long p0), .second, .val (.long p1), .second, .val (.int (1 : Int32)), .val (.long bb), .second, .val (.long cc), .second, .val (.long (cc / (4092 : Int64))), .second, .val (.long (cc - (cc / (4092 : Int64)) * (4092 : Int64))), .second, .unset, .unset, .unset] [(.int (lcmpW (cc - (cc / (4092 : Int64)) * (4092 : Int64)) (0 : Int64)))]))
    by_cases hr2 : (cc - (cc / (4092 : Int64)) * (4092 : Int64)) = (0 : Int64)
    · skip
      refine own_Goes.st ?_ (fun _ k => XS.ifNo X0.here hx rfl (hb hby at_113) rfl ((if0 _ _).trans (teq ((lw_eq _ _).mpr hr2)).2) k)
      show own_Goes p.tables e below P (s₁.setTop (mkF m 116 #[.val (.long p0), .second, .val (.long p1), .second, .val (.int (1 : Int32)), .val (.long bb), .second, .val (.long cc), .second, .val (.long (cc / (4092 : Int64))), .second, .val (.long (cc - (cc / (4092 : Int64)) * (4092 : Int64))), .second, .unset, .unset, .unset] []))
      refine own_Goes.st ?_ (fun _ k => XS.lload X0.here hx rfl (hb hby at_116) rfl k)
      show own_Goes p.tables e below P (s₁.setTop (mkF m 118 #[.val (.long p0), .second, .val (.long p1), .second, .val (.int (1 : Int32)), .val (.long bb), .second, .val (.long cc), .second, .val (.long (cc / (4092 : Int64))), .second, .val (.long (cc - (cc / (4092 : Int64)) * (4092 : Int64))), .second, .unset, .unset, .unset] [(.long (cc / (4092 : Int64)))]))
      refine own_Goes.st ?_ (X0.ldc2Long hx hown (mvT hZ (hw _ (List.mem_of_getElem? (i := 2) rfl))) (g := (mkF m 118 #[.val (.long p0), .second, .val (.long p1), .second, .val (.int (1 : Int32)), .val (.long bb), .second, .val (.long cc), .second, .val (.long (cc / (4092 : Int64))), .second, .val (.long (cc - (cc / (4092 : Int64)) * (4092 : Int64))), .second, .unset, .unset, .unset] [(.long (cc / (4092 : Int64)))])) rfl (hb hby at_118))
      show own_Goes p.tables e below P (s₁.setTop (mkF m 121 #[.val (.long p0), .second, .val (.long p1), .second, .val (.int (1 : Int32)), .val (.long bb), .second, .val (.long cc), .second, .val (.long (cc / (4092 : Int64))), .second, .val (.long (cc - (cc / (4092 : Int64)) * (4092 : Int64))), .second, .unset, .unset, .unset] [(.long (4096 : Int64)), (.long (cc / (4092 : Int64)))]))
      refine own_Goes.st ?_ (fun _ k => XS.lmul X0.here hx rfl (hb hby at_121) rfl k)
      show own_Goes p.tables e below P (s₁.setTop (mkF m 122 #[.val (.long p0), .second, .val (.long p1), .second, .val (.int (1 : Int32)), .val (.long bb), .second, .val (.long cc), .second, .val (.long (cc / (4092 : Int64))), .second, .val (.long (cc - (cc / (4092 : Int64)) * (4092 : Int64))), .second, .unset, .unset, .unset] [(.long ((cc / (4092 : Int64)) * (4096 : Int64)))]))
      refine own_Goes.st ?_ (fun _ k => XS.lstore X0.here hx rfl (hb hby at_122) rfl (l' := #[.val (.long p0), .second, .val (.long p1), .second, .val (.int (1 : Int32)), .val (.long bb), .second, .val (.long cc), .second, .val (.long (cc / (4092 : Int64))), .second, .val (.long (cc - (cc / (4092 : Int64)) * (4092 : Int64))), .second, .val (.long ((cc / (4092 : Int64)) * (4096 : Int64))), .second, .unset]) rfl k)
      show own_Goes p.tables e below P (s₁.setTop (mkF m 124 #[.val (.long p0), .second, .val (.long p1), .second, .val (.int (1 : Int32)), .val (.long bb), .second, .val (.long cc), .second, .val (.long (cc / (4092 : Int64))), .second, .val (.long (cc - (cc / (4092 : Int64)) * (4092 : Int64))), .second, .val (.long ((cc / (4092 : Int64)) * (4096 : Int64))), .second, .unset] []))
      refine own_Goes.st ?_ (fun _ k => XS.goto X0.here hx rfl (pc0 := 124) (pc' := 142) rfl (hb hby at_124) (by decide) (by decide) k)
      show own_Goes p.tables e below P (s₁.setTop (mkF m 142 #[.val (.long p0), .second, .val (.long p1), .second, .val (.int (1 : Int32)), .val (.long bb), .second, .val (.long cc), .second, .val (.long (cc / (4092 : Int64))), .second, .val (.long (cc - (cc / (4092 : Int64)) * (4092 : Int64))), .second, .val (.long ((cc / (4092 : Int64)) * (4096 : Int64))), .second, .unset] []))
      refine own_Goes.st ?_ (fun _ k => XS.lload X0.here hx rfl (hb hby at_142) rfl k)
      show own_Goes p.tables e below P (s₁.setTop (mkF m 144 #[.val (.long p0), .second, .val (.long p1), .second, .val (.int (1 : Int32)), .val (.long bb), .second, .val (.long cc), .second, .val (.long (cc / (4092 : Int64))), .second, .val (.long (cc - (cc / (4092 : Int64)) * (4092 : Int64))), .second, .val (.long ((cc / (4092 : Int64)) * (4096 : Int64))), .second, .unset] [(.long ((cc / (4092 : Int64)) * (4096 : Int64)))]))
      obtain ⟨_, _, ⟨T1, L1, k1, n1⟩, -, X1, ⟨Lc1, hQ1, l1, y1, z1⟩, st1⟩ := Jvm.LawKit.callS X0 hx (y := (⟨"com/example/shrike/shrike/io/Pages", "contentLength", "(J)J"⟩ : MethodName)) hown (mvT hZ (hw _ (List.mem_of_getElem? (i := 5) rfl))) (mvT hZ (hw _ (List.mem_of_getElem? (i := 6) rfl))) (mvT hZ (hw _ (List.mem_of_getElem? (i := 7) rfl))) (mvT hZ (hw _ (List.mem_of_getElem? (i := 8) rfl))) (by decide) (backOf (W := 0) (rm_cl l Z a0 hw [] ((cc / (4092 : Int64)) * (4096 : Int64)) h0 n0 Z0) hZ (hw _ (List.mem_of_getElem? (i := 8) rfl)) (hw _ (List.mem_of_getElem? (i := 7) rfl)) (by decide) (by decide)) (g := (mkF m 144 #[.val (.long p0), .second, .val (.long p1), .second, .val (.int (1 : Int32)), .val (.long bb), .second, .val (.long cc), .second, .val (.long (cc / (4092 : Int64))), .second, .val (.long (cc - (cc / (4092 : Int64)) * (4092 : Int64))), .second, .val (.long ((cc / (4092 : Int64)) * (4096 : Int64))), .second, .unset] [(.long ((cc / (4092 : Int64)) * (4096 : Int64)))])) rfl (by rw [hml]; rfl) (argsL := [(.long ((cc / (4092 : Int64)) * (4096 : Int64)))]) (rest := []) (lenOf own_pd__28_J_29_J rfl) rfl (by show 2 * 0 + _ ≤ _; exact Nat.le_of_eq rfl) (hb hby at_144) (fun _ _ => ⟨rfl, e0, (by decide : 0 + 0 ≤ _), (by decide : 0 + 0 ≤ _)⟩)
      dsimp only [Pt.U, Pt.locs, Pt.cells, Pt.slots] at X1 l1 y1 z1 st1 hQ1
      subst l1 y1 z1
      obtain ⟨rfl, Nq1, e1⟩ := hQ1
      have N1 := Fr.app N0 Nq1
      refine own_Goes.st ?_ st1
      show own_Goes p.tables e below P (T1.setTop (mkF m 147 #[.val (.long p0), .second, .val (.long p1), .second, .val (.int (1 : Int32)), .val (.long bb), .second, .val (.long cc), .second, .val (.long (cc / (4092 : Int64))), .second, .val (.long (cc - (cc / (4092 : Int64)) * (4092 : Int64))), .second, .val (.long ((cc / (4092 : Int64)) * (4096 : Int64))), .second, .unset] [(.long (own_cl ((cc / (4092 : Int64)) * (4096 : Int64))))]))
      refine own_Goes.st ?_ (fun _ k => XS.lload X1.here hx rfl (hb hby at_147) rfl k)
      show own_Goes p.tables e below P (T1.setTop (mkF m 149 #[.val (.long p0), .second, .val (.long p1), .second, .val (.int (1 : Int32)), .val (.long bb), .second, .val (.long cc), .second, .val (.long (cc / (4092 : Int64))), .second, .val (.long (cc - (cc / (4092 : Int64)) * (4092 : Int64))), .second, .val (.long ((cc / (4092 : Int64)) * (4096 : Int64))), .second, .unset] [(.long cc), (.long (own_cl ((cc / (4092 : Int64)) * (4096 : Int64))))]))
      refine own_Goes.st ?_ (fun _ k => XS.lcmp X1.here hx rfl (hb hby at_149) rfl k)
      show own_Goes p.tables e below P (T1.setTop (mkF m 150 #[.val (.long p0), .second, .val (.long p1), .second, .val (.int (1 : Int32)), .val (.long bb), .second, .val (.long cc), .second, .val (.long (cc / (4092 : Int64))), .second, .val (.long (cc - (cc / (4092 : Int64)) * (4092 : Int64))), .second, .val (.long ((cc / (4092 : Int64)) * (4096 : Int64))), .second, .unset] [(.int (lcmpW (own_cl ((cc / (4092 : Int64)) * (4096 : Int64))) cc))]))
      refine own_Goes.st ?_ (fun _ k => XS.ifNo X1.here hx rfl (hb hby at_150) rfl ((if0 _ _).trans (teq ((lw_eq _ _).mpr (own_second0 hcc.symm hr2))).2) k)
      show own_Goes p.tables e below P (T1.setTop (mkF m 153 #[.val (.long p0), .second, .val (.long p1), .second, .val (.int (1 : Int32)), .val (.long bb), .second, .val (.long cc), .second, .val (.long (cc / (4092 : Int64))), .second, .val (.long (cc - (cc / (4092 : Int64)) * (4092 : Int64))), .second, .val (.long ((cc / (4092 : Int64)) * (4096 : Int64))), .second, .unset] []))
      refine own_Goes.st ?_ (fun _ k => XS.iconst X1.here hx rfl (hb hby at_153) k)
      show own_Goes p.tables e below P (T1.setTop (mkF m 154 #[.val (.long p0), .second, .val (.long p1), .second, .val (.int (1 : Int32)), .val (.long bb), .second, .val (.long cc), .second, .val (.long (cc / (4092 : Int64))), .second, .val (.long (cc - (cc / (4092 : Int64)) * (4092 : Int64))), .second, .val (.long ((cc / (4092 : Int64)) * (4096 : Int64))), .second, .unset] [(.int (1 : Int32))]))
      refine own_Goes.st ?_ (fun _ k => XS.goto X1.here hx rfl (pc0 := 154) (pc' := 158) rfl (hb hby at_154) (by decide) (by decide) k)
      show own_Goes p.tables e below P (T1.setTop (mkF m 158 #[.val (.long p0), .second, .val (.long p1), .second, .val (.int (1 : Int32)), .val (.long bb), .second, .val (.long cc), .second, .val (.long (cc / (4092 : Int64))), .second, .val (.long (cc - (cc / (4092 : Int64)) * (4092 : Int64))), .second, .val (.long ((cc / (4092 : Int64)) * (4096 : Int64))), .second, .unset] [(.int (1 : Int32))]))
      refine own_Goes.st ?_ (fun _ k => XS.istore X1.here hx rfl (hb hby at_158) rfl (l' := #[.val (.long p0), .second, .val (.long p1), .second, .val (.int (1 : Int32)), .val (.long bb), .second, .val (.long cc), .second, .val (.long (cc / (4092 : Int64))), .second, .val (.long (cc - (cc / (4092 : Int64)) * (4092 : Int64))), .second, .val (.long ((cc / (4092 : Int64)) * (4096 : Int64))), .second, .val (.int (1 : Int32))]) rfl k)
      show own_Goes p.tables e below P (T1.setTop (mkF m 160 #[.val (.long p0), .second, .val (.long p1), .second, .val (.int (1 : Int32)), .val (.long bb), .second, .val (.long cc), .second, .val (.long (cc / (4092 : Int64))), .second, .val (.long (cc - (cc / (4092 : Int64)) * (4092 : Int64))), .second, .val (.long ((cc / (4092 : Int64)) * (4096 : Int64))), .second, .val (.int (1 : Int32))] []))
      refine own_Goes.st ?_ (fun _ k => XS.iload X1.here hx rfl (hb hby at_160) rfl k)
      show own_Goes p.tables e below P (T1.setTop (mkF m 162 #[.val (.long p0), .second, .val (.long p1), .second, .val (.int (1 : Int32)), .val (.long bb), .second, .val (.long cc), .second, .val (.long (cc / (4092 : Int64))), .second, .val (.long (cc - (cc / (4092 : Int64)) * (4092 : Int64))), .second, .val (.long ((cc / (4092 : Int64)) * (4096 : Int64))), .second, .val (.int (1 : Int32))] [(.int (1 : Int32))]))
      refine own_Goes.st ?_ (fun _ k => XS.ifNo X1.here hx rfl (hb hby at_162) rfl ((if0 _ _).trans (feq (by decide : ¬ ((1 : Int32) = (0 : Int32)))).1) k)
      show own_Goes p.tables e below P (T1.setTop (mkF m 165 #[.val (.long p0), .second, .val (.long p1), .second, .val (.int (1 : Int32)), .val (.long bb), .second, .val (.long cc), .second, .val (.long (cc / (4092 : Int64))), .second, .val (.long (cc - (cc / (4092 : Int64)) * (4092 : Int64))), .second, .val (.long ((cc / (4092 : Int64)) * (4096 : Int64))), .second, .val (.int (1 : Int32))] []))
      refine own_Goes.st ?_ (fun _ k => XS.iload X1.here hx rfl (hb hby at_165) rfl k)
      show own_Goes p.tables e below P (T1.setTop (mkF m 167 #[.val (.long p0), .second, .val (.long p1), .second, .val (.int (1 : Int32)), .val (.long bb), .second, .val (.long cc), .second, .val (.long (cc / (4092 : Int64))), .second, .val (.long (cc - (cc / (4092 : Int64)) * (4092 : Int64))), .second, .val (.long ((cc / (4092 : Int64)) * (4096 : Int64))), .second, .val (.int (1 : Int32))] [(.int (1 : Int32))]))
      refine own_Goes.st ?_ (fun _ k => XS.ifNo X1.here hx rfl (hb hby at_167) rfl ((if0 _ _).trans (feq (by decide : ¬ ((1 : Int32) = (0 : Int32)))).1) k)
      show own_Goes p.tables e below P (T1.setTop (mkF m 170 #[.val (.long p0), .second, .val (.long p1), .second, .val (.int (1 : Int32)), .val (.long bb), .second, .val (.long cc), .second, .val (.long (cc / (4092 : Int64))), .second, .val (.long (cc - (cc / (4092 : Int64)) * (4092 : Int64))), .second, .val (.long ((cc / (4092 : Int64)) * (4096 : Int64))), .second, .val (.int (1 : Int32))] []))
      refine own_Goes.st ?_ (fun _ k => XS.iconst X1.here hx rfl (hb hby at_170) k)
      show own_Goes p.tables e below P (T1.setTop (mkF m 171 #[.val (.long p0), .second, .val (.long p1), .second, .val (.int (1 : Int32)), .val (.long bb), .second, .val (.long cc), .second, .val (.long (cc / (4092 : Int64))), .second, .val (.long (cc - (cc / (4092 : Int64)) * (4092 : Int64))), .second, .val (.long ((cc / (4092 : Int64)) * (4096 : Int64))), .second, .val (.int (1 : Int32))] [(.int (1 : Int32))]))
      refine own_Goes.st ?_ (fun _ k => XS.goto X1.here hx rfl (pc0 := 171) (pc' := 175) rfl (hb hby at_171) (by decide) (by decide) k)
      show own_Goes p.tables e below P (T1.setTop (mkF m 175 #[.val (.long p0), .second, .val (.long p1), .second, .val (.int (1 : Int32)), .val (.long bb), .second, .val (.long cc), .second, .val (.long (cc / (4092 : Int64))), .second, .val (.long (cc - (cc / (4092 : Int64)) * (4092 : Int64))), .second, .val (.long ((cc / (4092 : Int64)) * (4096 : Int64))), .second, .val (.int (1 : Int32))] [(.int (1 : Int32))]))
      obtain ⟨fs, hr, hrun, hended, hW, hsame⟩ := X1.leave (v := some (.int (1 : Int32))) (fun h => by rw [Bd.returns] at h; cases h)
      exact own_Goes.fin _ _ (retOut X1 hx (t := .boolean) Bd.returns rfl (Or.inl ⟨rfl, Or.inr (Or.inl rfl), _, rfl⟩) (hb hby at_175) hr) (hPP _ _ ⟨hrun, hended, _, _, rfl, (by show Q_law n0 _ _; exact ⟨rfl, N1⟩), ⟨_, rfl⟩, hW, hsame.mono (by decide) (by decide)⟩)
    · skip
      refine own_Goes.st ?_ (fun _ k => XS.ifYes X0.here hx rfl (pc0 := 113) (pc' := 127) rfl (hb hby at_113) rfl ((if0 _ _).trans (feq (fun q => hr2 ((lw_eq _ _).mp q))).2) (by decide) (by decide) k)
      show own_Goes p.tables e below P (s₁.setTop (mkF m 127 #[.val (.long p0), .second, .val (.long p1), .second, .val (.int (1 : Int32)), .val (.long bb), .second, .val (.long cc), .second, .val (.long (cc / (4092 : Int64))), .second, .val (.long (cc - (cc / (4092 : Int64)) * (4092 : Int64))), .second, .unset, .unset, .unset] []))
      refine own_Goes.st ?_ (fun _ k => XS.lload X0.here hx rfl (hb hby at_127) rfl k)
      show own_Goes p.tables e below P (s₁.setTop (mkF m 129 #[.val (.long p0), .second, .val (.long p1), .second, .val (.int (1 : Int32)), .val (.long bb), .second, .val (.long cc), .second, .val (.long (cc / (4092 : Int64))), .second, .val (.long (cc - (cc / (4092 : Int64)) * (4092 : Int64))), .second, .unset, .unset, .unset] [(.long (cc / (4092 : Int64)))]))
      refine own_Goes.st ?_ (X0.ldc2Long hx hown (mvT hZ (hw _ (List.mem_of_getElem? (i := 2) rfl))) (g := (mkF m 129 #[.val (.long p0), .second, .val (.long p1), .second, .val (.int (1 : Int32)), .val (.long bb), .second, .val (.long cc), .second, .val (.long (cc / (4092 : Int64))), .second, .val (.long (cc - (cc / (4092 : Int64)) * (4092 : Int64))), .second, .unset, .unset, .unset] [(.long (cc / (4092 : Int64)))])) rfl (hb hby at_129))
      show own_Goes p.tables e below P (s₁.setTop (mkF m 132 #[.val (.long p0), .second, .val (.long p1), .second, .val (.int (1 : Int32)), .val (.long bb), .second, .val (.long cc), .second, .val (.long (cc / (4092 : Int64))), .second, .val (.long (cc - (cc / (4092 : Int64)) * (4092 : Int64))), .second, .unset, .unset, .unset] [(.long (4096 : Int64)), (.long (cc / (4092 : Int64)))]))
      refine own_Goes.st ?_ (fun _ k => XS.lmul X0.here hx rfl (hb hby at_132) rfl k)
      show own_Goes p.tables e below P (s₁.setTop (mkF m 133 #[.val (.long p0), .second, .val (.long p1), .second, .val (.int (1 : Int32)), .val (.long bb), .second, .val (.long cc), .second, .val (.long (cc / (4092 : Int64))), .second, .val (.long (cc - (cc / (4092 : Int64)) * (4092 : Int64))), .second, .unset, .unset, .unset] [(.long ((cc / (4092 : Int64)) * (4096 : Int64)))]))
      refine own_Goes.st ?_ (fun _ k => XS.lload X0.here hx rfl (hb hby at_133) rfl k)
      show own_Goes p.tables e below P (s₁.setTop (mkF m 135 #[.val (.long p0), .second, .val (.long p1), .second, .val (.int (1 : Int32)), .val (.long bb), .second, .val (.long cc), .second, .val (.long (cc / (4092 : Int64))), .second, .val (.long (cc - (cc / (4092 : Int64)) * (4092 : Int64))), .second, .unset, .unset, .unset] [(.long (cc - (cc / (4092 : Int64)) * (4092 : Int64))), (.long ((cc / (4092 : Int64)) * (4096 : Int64)))]))
      refine own_Goes.st ?_ (fun _ k => XS.ladd X0.here hx rfl (hb hby at_135) rfl k)
      show own_Goes p.tables e below P (s₁.setTop (mkF m 136 #[.val (.long p0), .second, .val (.long p1), .second, .val (.int (1 : Int32)), .val (.long bb), .second, .val (.long cc), .second, .val (.long (cc / (4092 : Int64))), .second, .val (.long (cc - (cc / (4092 : Int64)) * (4092 : Int64))), .second, .unset, .unset, .unset] [(.long (((cc / (4092 : Int64)) * (4096 : Int64)) + (cc - (cc / (4092 : Int64)) * (4092 : Int64))))]))
      refine own_Goes.st ?_ (X0.ldc2Long hx hown (mvT hZ (hw _ (List.mem_of_getElem? (i := 4) rfl))) (g := (mkF m 136 #[.val (.long p0), .second, .val (.long p1), .second, .val (.int (1 : Int32)), .val (.long bb), .second, .val (.long cc), .second, .val (.long (cc / (4092 : Int64))), .second, .val (.long (cc - (cc / (4092 : Int64)) * (4092 : Int64))), .second, .unset, .unset, .unset] [(.long (((cc / (4092 : Int64)) * (4096 : Int64)) + (cc - (cc / (4092 : Int64)) * (4092 : Int64))))])) rfl (hb hby at_136))
      show own_Goes p.tables e below P (s₁.setTop (mkF m 139 #[.val (.long p0), .second, .val (.long p1), .second, .val (.int (1 : Int32)), .val (.long bb), .second, .val (.long cc), .second, .val (.long (cc / (4092 : Int64))), .second, .val (.long (cc - (cc / (4092 : Int64)) * (4092 : Int64))), .second, .unset, .unset, .unset] [(.long (4 : Int64)), (.long (((cc / (4092 : Int64)) * (4096 : Int64)) + (cc - (cc / (4092 : Int64)) * (4092 : Int64))))]))
      refine own_Goes.st ?_ (fun _ k => XS.ladd X0.here hx rfl (hb hby at_139) rfl k)
      show own_Goes p.tables e below P (s₁.setTop (mkF m 140 #[.val (.long p0), .second, .val (.long p1), .second, .val (.int (1 : Int32)), .val (.long bb), .second, .val (.long cc), .second, .val (.long (cc / (4092 : Int64))), .second, .val (.long (cc - (cc / (4092 : Int64)) * (4092 : Int64))), .second, .unset, .unset, .unset] [(.long ((((cc / (4092 : Int64)) * (4096 : Int64)) + (cc - (cc / (4092 : Int64)) * (4092 : Int64))) + (4 : Int64)))]))
      refine own_Goes.st ?_ (fun _ k => XS.lstore X0.here hx rfl (hb hby at_140) rfl (l' := #[.val (.long p0), .second, .val (.long p1), .second, .val (.int (1 : Int32)), .val (.long bb), .second, .val (.long cc), .second, .val (.long (cc / (4092 : Int64))), .second, .val (.long (cc - (cc / (4092 : Int64)) * (4092 : Int64))), .second, .val (.long ((((cc / (4092 : Int64)) * (4096 : Int64)) + (cc - (cc / (4092 : Int64)) * (4092 : Int64))) + (4 : Int64))), .second, .unset]) rfl k)
      show own_Goes p.tables e below P (s₁.setTop (mkF m 142 #[.val (.long p0), .second, .val (.long p1), .second, .val (.int (1 : Int32)), .val (.long bb), .second, .val (.long cc), .second, .val (.long (cc / (4092 : Int64))), .second, .val (.long (cc - (cc / (4092 : Int64)) * (4092 : Int64))), .second, .val (.long ((((cc / (4092 : Int64)) * (4096 : Int64)) + (cc - (cc / (4092 : Int64)) * (4092 : Int64))) + (4 : Int64))), .second, .unset] []))
      refine own_Goes.st ?_ (fun _ k => XS.lload X0.here hx rfl (hb hby at_142) rfl k)
      show own_Goes p.tables e below P (s₁.setTop (mkF m 144 #[.val (.long p0), .second, .val (.long p1), .second, .val (.int (1 : Int32)), .val (.long bb), .second, .val (.long cc), .second, .val (.long (cc / (4092 : Int64))), .second, .val (.long (cc - (cc / (4092 : Int64)) * (4092 : Int64))), .second, .val (.long ((((cc / (4092 : Int64)) * (4096 : Int64)) + (cc - (cc / (4092 : Int64)) * (4092 : Int64))) + (4 : Int64))), .second, .unset] [(.long ((((cc / (4092 : Int64)) * (4096 : Int64)) + (cc - (cc / (4092 : Int64)) * (4092 : Int64))) + (4 : Int64)))]))
      obtain ⟨_, _, ⟨T2, L2, k2, n2⟩, -, X2, ⟨Lc2, hQ2, l2, y2, z2⟩, st2⟩ := Jvm.LawKit.callS X0 hx (y := (⟨"com/example/shrike/shrike/io/Pages", "contentLength", "(J)J"⟩ : MethodName)) hown (mvT hZ (hw _ (List.mem_of_getElem? (i := 5) rfl))) (mvT hZ (hw _ (List.mem_of_getElem? (i := 6) rfl))) (mvT hZ (hw _ (List.mem_of_getElem? (i := 7) rfl))) (mvT hZ (hw _ (List.mem_of_getElem? (i := 8) rfl))) (by decide) (backOf (W := 0) (rm_cl l Z a0 hw [] ((((cc / (4092 : Int64)) * (4096 : Int64)) + (cc - (cc / (4092 : Int64)) * (4092 : Int64))) + (4 : Int64)) h0 n0 Z0) hZ (hw _ (List.mem_of_getElem? (i := 8) rfl)) (hw _ (List.mem_of_getElem? (i := 7) rfl)) (by decide) (by decide)) (g := (mkF m 144 #[.val (.long p0), .second, .val (.long p1), .second, .val (.int (1 : Int32)), .val (.long bb), .second, .val (.long cc), .second, .val (.long (cc / (4092 : Int64))), .second, .val (.long (cc - (cc / (4092 : Int64)) * (4092 : Int64))), .second, .val (.long ((((cc / (4092 : Int64)) * (4096 : Int64)) + (cc - (cc / (4092 : Int64)) * (4092 : Int64))) + (4 : Int64))), .second, .unset] [(.long ((((cc / (4092 : Int64)) * (4096 : Int64)) + (cc - (cc / (4092 : Int64)) * (4092 : Int64))) + (4 : Int64)))])) rfl (by rw [hml]; rfl) (argsL := [(.long ((((cc / (4092 : Int64)) * (4096 : Int64)) + (cc - (cc / (4092 : Int64)) * (4092 : Int64))) + (4 : Int64)))]) (rest := []) (lenOf own_pd__28_J_29_J rfl) rfl (by show 2 * 0 + _ ≤ _; exact Nat.le_of_eq rfl) (hb hby at_144) (fun _ _ => ⟨rfl, e0, (by decide : 0 + 0 ≤ _), (by decide : 0 + 0 ≤ _)⟩)
      dsimp only [Pt.U, Pt.locs, Pt.cells, Pt.slots] at X2 l2 y2 z2 st2 hQ2
      subst l2 y2 z2
      obtain ⟨rfl, Nq2, e2⟩ := hQ2
      have N2 := Fr.app N0 Nq2
      refine own_Goes.st ?_ st2
      show own_Goes p.tables e below P (T2.setTop (mkF m 147 #[.val (.long p0), .second, .val (.long p1), .second, .val (.int (1 : Int32)), .val (.long bb), .second, .val (.long cc), .second, .val (.long (cc / (4092 : Int64))), .second, .val (.long (cc - (cc / (4092 : Int64)) * (4092 : Int64))), .second, .val (.long ((((cc / (4092 : Int64)) * (4096 : Int64)) + (cc - (cc / (4092 : Int64)) * (4092 : Int64))) + (4 : Int64))), .second, .unset] [(.long (own_cl ((((cc / (4092 : Int64)) * (4096 : Int64)) + (cc - (cc / (4092 : Int64)) * (4092 : Int64))) + (4 : Int64))))]))
      refine own_Goes.st ?_ (fun _ k => XS.lload X2.here hx rfl (hb hby at_147) rfl k)
      show own_Goes p.tables e below P (T2.setTop (mkF m 149 #[.val (.long p0), .second, .val (.long p1), .second, .val (.int (1 : Int32)), .val (.long bb), .second, .val (.long cc), .second, .val (.long (cc / (4092 : Int64))), .second, .val (.long (cc - (cc / (4092 : Int64)) * (4092 : Int64))), .second, .val (.long ((((cc / (4092 : Int64)) * (4096 : Int64)) + (cc - (cc / (4092 : Int64)) * (4092 : Int64))) + (4 : Int64))), .second, .unset] [(.long cc), (.long (own_cl ((((cc / (4092 : Int64)) * (4096 : Int64)) + (cc - (cc / (4092 : Int64)) * (4092 : Int64))) + (4 : Int64))))]))
      refine own_Goes.st ?_ (fun _ k => XS.lcmp X2.here hx rfl (hb hby at_149) rfl k)
      show own_Goes p.tables e below P (T2.setTop (mkF m 150 #[.val (.long p0), .second, .val (.long p1), .second, .val (.int (1 : Int32)), .val (.long bb), .second, .val (.long cc), .second, .val (.long (cc / (4092 : Int64))), .second, .val (.long (cc - (cc / (4092 : Int64)) * (4092 : Int64))), .second, .val (.long ((((cc / (4092 : Int64)) * (4096 : Int64)) + (cc - (cc / (4092 : Int64)) * (4092 : Int64))) + (4 : Int64))), .second, .unset] [(.int (lcmpW (own_cl ((((cc / (4092 : Int64)) * (4096 : Int64)) + (cc - (cc / (4092 : Int64)) * (4092 : Int64))) + (4 : Int64))) cc))]))
      refine own_Goes.st ?_ (fun _ k => XS.ifNo X2.here hx rfl (hb hby at_150) rfl ((if0 _ _).trans (teq ((lw_eq _ _).mpr (own_second1 hcc.symm hr2))).2) k)
      show own_Goes p.tables e below P (T2.setTop (mkF m 153 #[.val (.long p0), .second, .val (.long p1), .second, .val (.int (1 : Int32)), .val (.long bb), .second, .val (.long cc), .second, .val (.long (cc / (4092 : Int64))), .second, .val (.long (cc - (cc / (4092 : Int64)) * (4092 : Int64))), .second, .val (.long ((((cc / (4092 : Int64)) * (4096 : Int64)) + (cc - (cc / (4092 : Int64)) * (4092 : Int64))) + (4 : Int64))), .second, .unset] []))
      refine own_Goes.st ?_ (fun _ k => XS.iconst X2.here hx rfl (hb hby at_153) k)
      show own_Goes p.tables e below P (T2.setTop (mkF m 154 #[.val (.long p0), .second, .val (.long p1), .second, .val (.int (1 : Int32)), .val (.long bb), .second, .val (.long cc), .second, .val (.long (cc / (4092 : Int64))), .second, .val (.long (cc - (cc / (4092 : Int64)) * (4092 : Int64))), .second, .val (.long ((((cc / (4092 : Int64)) * (4096 : Int64)) + (cc - (cc / (4092 : Int64)) * (4092 : Int64))) + (4 : Int64))), .second, .unset] [(.int (1 : Int32))]))
      refine own_Goes.st ?_ (fun _ k => XS.goto X2.here hx rfl (pc0 := 154) (pc' := 158) rfl (hb hby at_154) (by decide) (by decide) k)
      show own_Goes p.tables e below P (T2.setTop (mkF m 158 #[.val (.long p0), .second, .val (.long p1), .second, .val (.int (1 : Int32)), .val (.long bb), .second, .val (.long cc), .second, .val (.long (cc / (4092 : Int64))), .second, .val (.long (cc - (cc / (4092 : Int64)) * (4092 : Int64))), .second, .val (.long ((((cc / (4092 : Int64)) * (4096 : Int64)) + (cc - (cc / (4092 : Int64)) * (4092 : Int64))) + (4 : Int64))), .second, .unset] [(.int (1 : Int32))]))
      refine own_Goes.st ?_ (fun _ k => XS.istore X2.here hx rfl (hb hby at_158) rfl (l' := #[.val (.long p0), .second, .val (.long p1), .second, .val (.int (1 : Int32)), .val (.long bb), .second, .val (.long cc), .second, .val (.long (cc / (4092 : Int64))), .second, .val (.long (cc - (cc / (4092 : Int64)) * (4092 : Int64))), .second, .val (.long ((((cc / (4092 : Int64)) * (4096 : Int64)) + (cc - (cc / (4092 : Int64)) * (4092 : Int64))) + (4 : Int64))), .second, .val (.int (1 : Int32))]) rfl k)
      show own_Goes p.tables e below P (T2.setTop (mkF m 160 #[.val (.long p0), .second, .val (.long p1), .second, .val (.int (1 : Int32)), .val (.long bb), .second, .val (.long cc), .second, .val (.long (cc / (4092 : Int64))), .second, .val (.long (cc - (cc / (4092 : Int64)) * (4092 : Int64))), .second, .val (.long ((((cc / (4092 : Int64)) * (4096 : Int64)) + (cc - (cc / (4092 : Int64)) * (4092 : Int64))) + (4 : Int64))), .second, .val (.int (1 : Int32))] []))
      refine own_Goes.st ?_ (fun _ k => XS.iload X2.here hx rfl (hb hby at_160) rfl k)
      show own_Goes p.tables e below P (T2.setTop (mkF m 162 #[.val (.long p0), .second, .val (.long p1), .second, .val (.int (1 : Int32)), .val (.long bb), .second, .val (.long cc), .second, .val (.long (cc / (4092 : Int64))), .second, .val (.long (cc - (cc / (4092 : Int64)) * (4092 : Int64))), .second, .val (.long ((((cc / (4092 : Int64)) * (4096 : Int64)) + (cc - (cc / (4092 : Int64)) * (4092 : Int64))) + (4 : Int64))), .second, .val (.int (1 : Int32))] [(.int (1 : Int32))]))
      refine own_Goes.st ?_ (fun _ k => XS.ifNo X2.here hx rfl (hb hby at_162) rfl ((if0 _ _).trans (feq (by decide : ¬ ((1 : Int32) = (0 : Int32)))).1) k)
      show own_Goes p.tables e below P (T2.setTop (mkF m 165 #[.val (.long p0), .second, .val (.long p1), .second, .val (.int (1 : Int32)), .val (.long bb), .second, .val (.long cc), .second, .val (.long (cc / (4092 : Int64))), .second, .val (.long (cc - (cc / (4092 : Int64)) * (4092 : Int64))), .second, .val (.long ((((cc / (4092 : Int64)) * (4096 : Int64)) + (cc - (cc / (4092 : Int64)) * (4092 : Int64))) + (4 : Int64))), .second, .val (.int (1 : Int32))] []))
      refine own_Goes.st ?_ (fun _ k => XS.iload X2.here hx rfl (hb hby at_165) rfl k)
      show own_Goes p.tables e below P (T2.setTop (mkF m 167 #[.val (.long p0), .second, .val (.long p1), .second, .val (.int (1 : Int32)), .val (.long bb), .second, .val (.long cc), .second, .val (.long (cc / (4092 : Int64))), .second, .val (.long (cc - (cc / (4092 : Int64)) * (4092 : Int64))), .second, .val (.long ((((cc / (4092 : Int64)) * (4096 : Int64)) + (cc - (cc / (4092 : Int64)) * (4092 : Int64))) + (4 : Int64))), .second, .val (.int (1 : Int32))] [(.int (1 : Int32))]))
      refine own_Goes.st ?_ (fun _ k => XS.ifNo X2.here hx rfl (hb hby at_167) rfl ((if0 _ _).trans (feq (by decide : ¬ ((1 : Int32) = (0 : Int32)))).1) k)
      show own_Goes p.tables e below P (T2.setTop (mkF m 170 #[.val (.long p0), .second, .val (.long p1), .second, .val (.int (1 : Int32)), .val (.long bb), .second, .val (.long cc), .second, .val (.long (cc / (4092 : Int64))), .second, .val (.long (cc - (cc / (4092 : Int64)) * (4092 : Int64))), .second, .val (.long ((((cc / (4092 : Int64)) * (4096 : Int64)) + (cc - (cc / (4092 : Int64)) * (4092 : Int64))) + (4 : Int64))), .second, .val (.int (1 : Int32))] []))
      refine own_Goes.st ?_ (fun _ k => XS.iconst X2.here hx rfl (hb hby at_170) k)
      show own_Goes p.tables e below P (T2.setTop (mkF m 171 #[.val (.long p0), .second, .val (.long p1), .second, .val (.int (1 : Int32)), .val (.long bb), .second, .val (.long cc), .second, .val (.long (cc / (4092 : Int64))), .second, .val (.long (cc - (cc / (4092 : Int64)) * (4092 : Int64))), .second, .val (.long ((((cc / (4092 : Int64)) * (4096 : Int64)) + (cc - (cc / (4092 : Int64)) * (4092 : Int64))) + (4 : Int64))), .second, .val (.int (1 : Int32))] [(.int (1 : Int32))]))
      refine own_Goes.st ?_ (fun _ k => XS.goto X2.here hx rfl (pc0 := 171) (pc' := 175) rfl (hb hby at_171) (by decide) (by decide) k)
      show own_Goes p.tables e below P (T2.setTop (mkF m 175 #[.val (.long p0), .second, .val (.long p1), .second, .val (.int (1 : Int32)), .val (.long bb), .second, .val (.long cc), .second, .val (.long (cc / (4092 : Int64))), .second, .val (.long (cc - (cc / (4092 : Int64)) * (4092 : Int64))), .second, .val (.long ((((cc / (4092 : Int64)) * (4096 : Int64)) + (cc - (cc / (4092 : Int64)) * (4092 : Int64))) + (4 : Int64))), .second, .val (.int (1 : Int32))] [(.int (1 : Int32))]))
      obtain ⟨fs, hr, hrun, hended, hW, hsame⟩ := X2.leave (v := some (.int (1 : Int32))) (fun h => by rw [Bd.returns] at h; cases h)
      exact own_Goes.fin _ _ (retOut X2 hx (t := .boolean) Bd.returns rfl (Or.inl ⟨rfl, Or.inr (Or.inl rfl), _, rfl⟩) (hb hby at_175) hr) (hPP _ _ ⟨hrun, hended, _, _, rfl, (by show Q_law n0 _ _; exact ⟨rfl, N2⟩), ⟨_, rfl⟩, hW, hsame.mono (by decide) (by decide)⟩)
  · skip
    refine own_Goes.st ?_ (fun _ k => XS.ifNo X0.here hx rfl (hb hby at_16) rfl ((if0 _ _).trans (flt (fun q => h1 ((lw_gt _ _).mp q))).2.2.1) k)
    show own_Goes p.tables e below P (s₁.setTop (mkF m 19 #[.val (.long p0), .second, .val (.long p1), .second, .val (.int (1 : Int32)), .val (.long bb), .second, .unset, .unset, .unset, .unset, .unset, .unset, .unset, .unset, .unset] []))
    refine own_Goes.st ?_ (fun _ k => XS.lload X0.here hx rfl (hb hby at_19) rfl k)
    show own_Goes p.tables e below P (s₁.setTop (mkF m 21 #[.val (.long p0), .second, .val (.long p1), .second, .val (.int (1 : Int32)), .val (.long bb), .second, .unset, .unset, .unset, .unset, .unset, .unset, .unset, .unset, .unset] [(.long bb)]))
    refine own_Goes.st ?_ (X0.ldc2Long hx hown (mvT hZ (hw _ (List.mem_of_getElem? (i := 2) rfl))) (g := (mkF m 21 #[.val (.long p0), .second, .val (.long p1), .second, .val (.int (1 : Int32)), .val (.long bb), .second, .unset, .unset, .unset, .unset, .unset, .unset, .unset, .unset, .unset] [(.long bb)])) rfl (hb hby at_21))
    show own_Goes p.tables e below P (s₁.setTop (mkF m 24 #[.val (.long p0), .second, .val (.long p1), .second, .val (.int (1 : Int32)), .val (.long bb), .second, .unset, .unset, .unset, .unset, .unset, .unset, .unset, .unset, .unset] [(.long (4096 : Int64)), (.long bb)]))
    refine own_Goes.st ?_ (fun _ k => XS.ldiv X0.here hx rfl (hb hby at_24) rfl (by decide) k)
    show own_Goes p.tables e below P (s₁.setTop (mkF m 25 #[.val (.long p0), .second, .val (.long p1), .second, .val (.int (1 : Int32)), .val (.long bb), .second, .unset, .unset, .unset, .unset, .unset, .unset, .unset, .unset, .unset] [(.long (bb / (4096 : Int64)))]))
    refine own_Goes.st ?_ (fun _ k => XS.lstore X0.here hx rfl (hb hby at_25) rfl (l' := #[.val (.long p0), .second, .val (.long p1), .second, .val (.int (1 : Int32)), .val (.long bb), .second, .val (.long (bb / (4096 : Int64))), .second, .unset, .unset, .unset, .unset, .unset, .unset, .unset]) rfl k)
    show own_Goes p.tables e below P (s₁.setTop (mkF m 27 #[.val (.long p0), .second, .val (.long p1), .second, .val (.int (1 : Int32)), .val (.long bb), .second, .val (.long (bb / (4096 : Int64))), .second, .unset, .unset, .unset, .unset, .unset, .unset, .unset] []))
    refine own_Goes.st ?_ (fun _ k => XS.lload X0.here hx rfl (hb hby at_27) rfl k)
    show own_Goes p.tables e below P (s₁.setTop (mkF m 29 #[.val (.long p0), .second, .val (.long p1), .second, .val (.int (1 : Int32)), .val (.long bb), .second, .val (.long (bb / (4096 : Int64))), .second, .unset, .unset, .unset, .unset, .unset, .unset, .unset] [(.long bb)]))
    refine own_Goes.st ?_ (X0.ldc2Long hx hown (mvT hZ (hw _ (List.mem_of_getElem? (i := 2) rfl))) (g := (mkF m 29 #[.val (.long p0), .second, .val (.long p1), .second, .val (.int (1 : Int32)), .val (.long bb), .second, .val (.long (bb / (4096 : Int64))), .second, .unset, .unset, .unset, .unset, .unset, .unset, .unset] [(.long bb)])) rfl (hb hby at_29))
    show own_Goes p.tables e below P (s₁.setTop (mkF m 32 #[.val (.long p0), .second, .val (.long p1), .second, .val (.int (1 : Int32)), .val (.long bb), .second, .val (.long (bb / (4096 : Int64))), .second, .unset, .unset, .unset, .unset, .unset, .unset, .unset] [(.long (4096 : Int64)), (.long bb)]))
    refine own_Goes.st ?_ (fun _ k => XS.lrem X0.here hx rfl (hb hby at_32) rfl (by decide) k)
    show own_Goes p.tables e below P (s₁.setTop (mkF m 33 #[.val (.long p0), .second, .val (.long p1), .second, .val (.int (1 : Int32)), .val (.long bb), .second, .val (.long (bb / (4096 : Int64))), .second, .unset, .unset, .unset, .unset, .unset, .unset, .unset] [(.long (bb - (bb / (4096 : Int64)) * (4096 : Int64)))]))
    refine own_Goes.st ?_ (fun _ k => XS.lstore X0.here hx rfl (hb hby at_33) rfl (l' := #[.val (.long p0), .second, .val (.long p1), .second, .val (.int (1 : Int32)), .val (.long bb), .second, .val (.long (bb / (4096 : Int64))), .second, .val (.long (bb - (bb / (4096 : Int64)) * (4096 : Int64))), .second, .unset, .unset, .unset, .unset, .unset]) rfl k)
    show own_Goes p.tables e below P (s₁.setTop (mkF m 35 #[.val (.long p0), .second, .val (.long p1), .second, .val (.int (1 : Int32)), .val (.long bb), .second, .val (.long (bb / (4096 : Int64))), .second, .val (.long (bb - (bb / (4096 : Int64)) * (4096 : Int64))), .second, .unset, .unset, .unset, .unset, .unset] []))
    refine own_Goes.st ?_ (fun _ k => XS.lload X0.here hx rfl (hb hby at_35) rfl k)
    show own_Goes p.tables e below P (s₁.setTop (mkF m 37 #[.val (.long p0), .second, .val (.long p1), .second, .val (.int (1 : Int32)), .val (.long bb), .second, .val (.long (bb / (4096 : Int64))), .second, .val (.long (bb - (bb / (4096 : Int64)) * (4096 : Int64))), .second, .unset, .unset, .unset, .unset, .unset] [(.long (bb - (bb / (4096 : Int64)) * (4096 : Int64)))]))
    refine own_Goes.st ?_ (fun _ k => XS.lconst X0.here hx rfl (hb hby at_37) k)
    show own_Goes p.tables e below P (s₁.setTop (mkF m 38 #[.val (.long p0), .second, .val (.long p1), .second, .val (.int (1 : Int32)), .val (.long bb), .second, .val (.long (bb / (4096 : Int64))), .second, .val (.long (bb - (bb / (4096 : Int64)) * (4096 : Int64))), .second, .unset, .unset, .unset, .unset, .unset] [(.long (0 : Int64)), (.long (bb - (bb / (4096 : Int64)) * (4096 : Int64)))]))
    refine own_Goes.st ?_ (fun _ k => XS.lcmp X0.here hx rfl (hb hby at_38) rfl k)
    show own_Goes p.tables e below P (s₁.setTop (mkF m 39 #[.val (.long p0), .second, .val (.long p1), .second, .val (.int (1 : Int32)), .val (.long bb), .second, .val (.long (bb / (4096 : Int64))), .second, .val (.long (bb - (bb / (4096 : Int64)) * (4096 : Int64))), .second, .unset, .unset, .unset, .unset, .unset] [(.int (lcmpW (bb - (bb / (4096 : Int64)) * (4096 : Int64)) (0 : Int64)))]))
    by_cases hr : (bb - (bb / (4096 : Int64)) * (4096 : Int64)) = (0 : Int64)
    · skip
      refine own_Goes.st ?_ (fun _ k => XS.ifNo X0.here hx rfl (hb hby at_39) rfl ((if0 _ _).trans (teq ((lw_eq _ _).mpr hr)).2) k)
      show own_Goes p.tables e below P (s₁.setTop (mkF m 42 #[.val (.long p0), .second, .val (.long p1), .second, .val (.int (1 : Int32)), .val (.long bb), .second, .val (.long (bb / (4096 : Int64))), .second, .val (.long (bb - (bb / (4096 : Int64)) * (4096 : Int64))), .second, .unset, .unset, .unset, .unset, .unset] []))
      refine own_Goes.st ?_ (fun _ k => XS.lload X0.here hx rfl (hb hby at_42) rfl k)
      show own_Goes p.tables e below P (s₁.setTop (mkF m 44 #[.val (.long p0), .second, .val (.long p1), .second, .val (.int (1 : Int32)), .val (.long bb), .second, .val (.long (bb / (4096 : Int64))), .second, .val (.long (bb - (bb / (4096 : Int64)) * (4096 : Int64))), .second, .unset, .unset, .unset, .unset, .unset] [(.long (bb / (4096 : Int64)))]))
      refine own_Goes.st ?_ (X0.ldc2Long hx hown (mvT hZ (hw _ (List.mem_of_getElem? (i := 3) rfl))) (g := (mkF m 44 #[.val (.long p0), .second, .val (.long p1), .second, .val (.int (1 : Int32)), .val (.long bb), .second, .val (.long (bb / (4096 : Int64))), .second, .val (.long (bb - (bb / (4096 : Int64)) * (4096 : Int64))), .second, .unset, .unset, .unset, .unset, .unset] [(.long (bb / (4096 : Int64)))])) rfl (hb hby at_44))
      show own_Goes p.tables e below P (s₁.setTop (mkF m 47 #[.val (.long p0), .second, .val (.long p1), .second, .val (.int (1 : Int32)), .val (.long bb), .second, .val (.long (bb / (4096 : Int64))), .second, .val (.long (bb - (bb / (4096 : Int64)) * (4096 : Int64))), .second, .unset, .unset, .unset, .unset, .unset] [(.long (4092 : Int64)), (.long (bb / (4096 : Int64)))]))
      refine own_Goes.st ?_ (fun _ k => XS.lmul X0.here hx rfl (hb hby at_47) rfl k)
      show own_Goes p.tables e below P (s₁.setTop (mkF m 48 #[.val (.long p0), .second, .val (.long p1), .second, .val (.int (1 : Int32)), .val (.long bb), .second, .val (.long (bb / (4096 : Int64))), .second, .val (.long (bb - (bb / (4096 : Int64)) * (4096 : Int64))), .second, .unset, .unset, .unset, .unset, .unset] [(.long ((bb / (4096 : Int64)) * (4092 : Int64)))]))
      refine own_Goes.st ?_ (fun _ k => XS.lstore X0.here hx rfl (hb hby at_48) rfl (l' := #[.val (.long p0), .second, .val (.long p1), .second, .val (.int (1 : Int32)), .val (.long bb), .second, .val (.long (bb / (4096 : Int64))), .second, .val (.long (bb - (bb / (4096 : Int64)) * (4096 : Int64))), .second, .val (.long ((bb / (4096 : Int64)) * (4092 : Int64))), .second, .unset, .unset, .unset]) rfl k)
      show own_Goes p.tables e below P (s₁.setTop (mkF m 50 #[.val (.long p0), .second, .val (.long p1), .second, .val (.int (1 : Int32)), .val (.long bb), .second, .val (.long (bb / (4096 : Int64))), .second, .val (.long (bb - (bb / (4096 : Int64)) * (4096 : Int64))), .second, .val (.long ((bb / (4096 : Int64)) * (4092 : Int64))), .second, .unset, .unset, .unset] []))
      refine own_Goes.st ?_ (fun _ k => XS.goto X0.here hx rfl (pc0 := 50) (pc' := 68) rfl (hb hby at_50) (by decide) (by decide) k)
      show own_Goes p.tables e below P (s₁.setTop (mkF m 68 #[.val (.long p0), .second, .val (.long p1), .second, .val (.int (1 : Int32)), .val (.long bb), .second, .val (.long (bb / (4096 : Int64))), .second, .val (.long (bb - (bb / (4096 : Int64)) * (4096 : Int64))), .second, .val (.long ((bb / (4096 : Int64)) * (4092 : Int64))), .second, .unset, .unset, .unset] []))
      refine own_Goes.st ?_ (fun _ k => XS.lload X0.here hx rfl (hb hby at_68) rfl k)
      show own_Goes p.tables e below P (s₁.setTop (mkF m 70 #[.val (.long p0), .second, .val (.long p1), .second, .val (.int (1 : Int32)), .val (.long bb), .second, .val (.long (bb / (4096 : Int64))), .second, .val (.long (bb - (bb / (4096 : Int64)) * (4096 : Int64))), .second, .val (.long ((bb / (4096 : Int64)) * (4092 : Int64))), .second, .unset, .unset, .unset] [(.long bb)]))
      obtain ⟨_, _, ⟨T3, L3, k3, n3⟩, -, X3, ⟨Lc3, hQ3, l3, y3, z3⟩, st3⟩ := Jvm.LawKit.callS X0 hx (y := (⟨"com/example/shrike/shrike/io/Pages", "contentLength", "(J)J"⟩ : MethodName)) hown (mvT hZ (hw _ (List.mem_of_getElem? (i := 5) rfl))) (mvT hZ (hw _ (List.mem_of_getElem? (i := 6) rfl))) (mvT hZ (hw _ (List.mem_of_getElem? (i := 7) rfl))) (mvT hZ (hw _ (List.mem_of_getElem? (i := 8) rfl))) (by decide) (backOf (W := 0) (rm_cl l Z a0 hw [] bb h0 n0 Z0) hZ (hw _ (List.mem_of_getElem? (i := 8) rfl)) (hw _ (List.mem_of_getElem? (i := 7) rfl)) (by decide) (by decide)) (g := (mkF m 70 #[.val (.long p0), .second, .val (.long p1), .second, .val (.int (1 : Int32)), .val (.long bb), .second, .val (.long (bb / (4096 : Int64))), .second, .val (.long (bb - (bb / (4096 : Int64)) * (4096 : Int64))), .second, .val (.long ((bb / (4096 : Int64)) * (4092 : Int64))), .second, .unset, .unset, .unset] [(.long bb)])) rfl (by rw [hml]; rfl) (argsL := [(.long bb)]) (rest := []) (lenOf own_pd__28_J_29_J rfl) rfl (by show 2 * 0 + _ ≤ _; exact Nat.le_of_eq rfl) (hb hby at_70) (fun _ _ => ⟨rfl, e0, (by decide : 0 + 0 ≤ _), (by decide : 0 + 0 ≤ _)⟩)
      dsimp only [Pt.U, Pt.locs, Pt.cells, Pt.slots] at X3 l3 y3 z3 st3 hQ3
      subst l3 y3 z3
      obtain ⟨rfl, Nq3, e3⟩ := hQ3
      have N3 := Fr.app N0 Nq3
      refine own_Goes.st ?_ st3
      show own_Goes p.tables e below P (T3.setTop (mkF m 73 #[.val (.long p0), .second, .val (.long p1), .second, .val (.int (1 : Int32)), .val (.long bb), .second, .val (.long (bb / (4096 : Int64))), .second, .val (.long (bb - (bb / (4096 : Int64)) * (4096 : Int64))), .second, .val (.long ((bb / (4096 : Int64)) * (4092 : Int64))), .second, .unset, .unset, .unset] [(.long (own_cl bb))]))
      refine own_Goes.st ?_ (fun _ k => XS.lload X3.here hx rfl (hb hby at_73) rfl k)
      show own_Goes p.tables e below P (T3.setTop (mkF m 75 #[.val (.long p0), .second, .val (.long p1), .second, .val (.int (1 : Int32)), .val (.long bb), .second, .val (.long (bb / (4096 : Int64))), .second, .val (.long (bb - (bb / (4096 : Int64)) * (4096 : Int64))), .second, .val (.long ((bb / (4096 : Int64)) * (4092 : Int64))), .second, .unset, .unset, .unset] [(.long ((bb / (4096 : Int64)) * (4092 : Int64))), (.long (own_cl bb))]))
      refine own_Goes.st ?_ (fun _ k => XS.lcmp X3.here hx rfl (hb hby at_75) rfl k)
      show own_Goes p.tables e below P (T3.setTop (mkF m 76 #[.val (.long p0), .second, .val (.long p1), .second, .val (.int (1 : Int32)), .val (.long bb), .second, .val (.long (bb / (4096 : Int64))), .second, .val (.long (bb - (bb / (4096 : Int64)) * (4096 : Int64))), .second, .val (.long ((bb / (4096 : Int64)) * (4092 : Int64))), .second, .unset, .unset, .unset] [(.int (lcmpW (own_cl bb) ((bb / (4096 : Int64)) * (4092 : Int64))))]))
      refine own_Goes.st ?_ (fun _ k => XS.ifNo X3.here hx rfl (hb hby at_76) rfl ((if0 _ _).trans (teq ((lw_eq _ _).mpr (own_first0 hbb.symm h1 hr))).2) k)
      show own_Goes p.tables e below P (T3.setTop (mkF m 79 #[.val (.long p0), .second, .val (.long p1), .second, .val (.int (1 : Int32)), .val (.long bb), .second, .val (.long (bb / (4096 : Int64))), .second, .val (.long (bb - (bb / (4096 : Int64)) * (4096 : Int64))), .second, .val (.long ((bb / (4096 : Int64)) * (4092 : Int64))), .second, .unset, .unset, .unset] []))
      refine own_Goes.st ?_ (fun _ k => XS.iconst X3.here hx rfl (hb hby at_79) k)
      show own_Goes p.tables e below P (T3.setTop (mkF m 80 #[.val (.long p0), .second, .val (.long p1), .second, .val (.int (1 : Int32)), .val (.long bb), .second, .val (.long (bb / (4096 : Int64))), .second, .val (.long (bb - (bb / (4096 : Int64)) * (4096 : Int64))), .second, .val (.long ((bb / (4096 : Int64)) * (4092 : Int64))), .second, .unset, .unset, .unset] [(.int (1 : Int32))]))
      refine own_Goes.st ?_ (fun _ k => XS.goto X3.here hx rfl (pc0 := 80) (pc' := 84) rfl (hb hby at_80) (by decide) (by decide) k)
      show own_Goes p.tables e below P (T3.setTop (mkF m 84 #[.val (.long p0), .second, .val (.long p1), .second, .val (.int (1 : Int32)), .val (.long bb), .second, .val (.long (bb / (4096 : Int64))), .second, .val (.long (bb - (bb / (4096 : Int64)) * (4096 : Int64))), .second, .val (.long ((bb / (4096 : Int64)) * (4092 : Int64))), .second, .unset, .unset, .unset] [(.int (1 : Int32))]))
      refine own_Goes.st ?_ (fun _ k => XS.istore X3.here hx rfl (hb hby at_84) rfl (l' := #[.val (.long p0), .second, .val (.long p1), .second, .val (.int (1 : Int32)), .val (.long bb), .second, .val (.long (bb / (4096 : Int64))), .second, .val (.long (bb - (bb / (4096 : Int64)) * (4096 : Int64))), .second, .val (.long ((bb / (4096 : Int64)) * (4092 : Int64))), .second, .unset, .unset, .unset]) rfl k)
      show own_Goes p.tables e below P (T3.setTop (mkF m 86 #[.val (.long p0), .second, .val (.long p1), .second, .val (.int (1 : Int32)), .val (.long bb), .second, .val (.long (bb / (4096 : Int64))), .second, .val (.long (bb - (bb / (4096 : Int64)) * (4096 : Int64))), .second, .val (.long ((bb / (4096 : Int64)) * (4092 : Int64))), .second, .unset, .unset, .unset] []))
      refine own_Goes.st ?_ (fun _ k => XS.lloadN X3.here hx rfl (hb hby at_86) rfl k)
      show own_Goes p.tables e below P (T3.setTop (mkF m 87 #[.val (.long p0), .second, .val (.long p1), .second, .val (.int (1 : Int32)), .val (.long bb), .second, .val (.long (bb / (4096 : Int64))), .second, .val (.long (bb - (bb / (4096 : Int64)) * (4096 : Int64))), .second, .val (.long ((bb / (4096 : Int64)) * (4092 : Int64))), .second, .unset, .unset, .unset] [(.long p1)]))
      refine own_Goes.st ?_ (X3.ldc2Long hx hown (mvT hZ (hw _ (List.mem_of_getElem? (i := 11) rfl))) (g := (mkF m 87 #[.val (.long p0), .second, .val (.long p1), .second, .val (.int (1 : Int32)), .val (.long bb), .second, .val (.long (bb / (4096 : Int64))), .second, .val (.long (bb - (bb / (4096 : Int64)) * (4096 : Int64))), .second, .val (.long ((bb / (4096 : Int64)) * (4092 : Int64))), .second, .unset, .unset, .unset] [(.long p1)])) rfl (hb hby at_87))
      show own_Goes p.tables e below P (T3.setTop (mkF m 90 #[.val (.long p0), .second, .val (.long p1), .second, .val (.int (1 : Int32)), .val (.long bb), .second, .val (.long (bb / (4096 : Int64))), .second, .val (.long (bb - (bb / (4096 : Int64)) * (4096 : Int64))), .second, .val (.long ((bb / (4096 : Int64)) * (4092 : Int64))), .second, .unset, .unset, .unset] [(.long (4611686018427387903 : Int64)), (.long p1)]))
      refine own_Goes.st ?_ (fun _ k => XS.land X3.here hx rfl (hb hby at_90) rfl k)
      show own_Goes p.tables e below P (T3.setTop (mkF m 91 #[.val (.long p0), .second, .val (.long p1), .second, .val (.int (1 : Int32)), .val (.long bb), .second, .val (.long (bb / (4096 : Int64))), .second, .val (.long (bb - (bb / (4096 : Int64)) * (4096 : Int64))), .second, .val (.long ((bb / (4096 : Int64)) * (4092 : Int64))), .second, .unset, .unset, .unset] [(.long (p1 &&& (4611686018427387903 : Int64)))]))
      refine own_Goes.st ?_ (fun _ k => XS.lstore X3.here hx rfl (hb hby at_91) rfl (l' := #[.val (.long p0), .second, .val (.long p1), .second, .val (.int (1 : Int32)), .val (.long bb), .second, .val (.long (p1 &&& (4611686018427387903 : Int64))), .second, .val (.long (bb - (bb / (4096 : Int64)) * (4096 : Int64))), .second, .val (.long ((bb / (4096 : Int64)) * (4092 : Int64))), .second, .unset, .unset, .unset]) rfl k)
      show own_Goes p.tables e below P (T3.setTop (mkF m 93 #[.val (.long p0), .second, .val (.long p1), .second, .val (.int (1 : Int32)), .val (.long bb), .second, .val (.long (p1 &&& (4611686018427387903 : Int64))), .second, .val (.long (bb - (bb / (4096 : Int64)) * (4096 : Int64))), .second, .val (.long ((bb / (4096 : Int64)) * (4092 : Int64))), .second, .unset, .unset, .unset] []))
      generalize hcc : (p1 &&& (4611686018427387903 : Int64)) = cc
      show own_Goes p.tables e below P (T3.setTop (mkF m 93 #[.val (.long p0), .second, .val (.long p1), .second, .val (.int (1 : Int32)), .val (.long bb), .second, .val (.long cc), .second, .val (.long (bb - (bb / (4096 : Int64)) * (4096 : Int64))), .second, .val (.long ((bb / (4096 : Int64)) * (4092 : Int64))), .second, .unset, .unset, .unset] []))
      refine own_Goes.st ?_ (fun _ k => XS.lload X3.here hx rfl (hb hby at_93) rfl k)
      show own_Goes p.tables e below P (T3.setTop (mkF m 95 #[.val (.long p0), .second, .val (.long p1), .second, .val (.int (1 : Int32)), .val (.long bb), .second, .val (.long cc), .second, .val (.long (bb - (bb / (4096 : Int64)) * (4096 : Int64))), .second, .val (.long ((bb / (4096 : Int64)) * (4092 : Int64))), .second, .unset, .unset, .unset] [(.long cc)]))
      refine own_Goes.st ?_ (X3.ldc2Long hx hown (mvT hZ (hw _ (List.mem_of_getElem? (i := 3) rfl))) (g := (mkF m 95 #[.val (.long p0), .second, .val (.long p1), .second, .val (.int (1 : Int32)), .val (.long bb), .second, .val (.long cc), .second, .val (.long (bb - (bb / (4096 : Int64)) * (4096 : Int64))), .second, .val (.long ((bb / (4096 : Int64)) * (4092 : Int64))), .second, .unset, .unset, .unset] [(.long cc)])) rfl (hb hby at_95))
      show own_Goes p.tables e below P (T3.setTop (mkF m 98 #[.val (.long p0), .second, .val (.long p1), .second, .val (.int (1 : Int32)), .val (.long bb), .second, .val (.long cc), .second, .val (.long (bb - (bb / (4096 : Int64)) * (4096 : Int64))), .second, .val (.long ((bb / (4096 : Int64)) * (4092 : Int64))), .second, .unset, .unset, .unset] [(.long (4092 : Int64)), (.long cc)]))
      refine own_Goes.st ?_ (fun _ k => XS.ldiv X3.here hx rfl (hb hby at_98) rfl (by decide) k)
      show own_Goes p.tables e below P (T3.setTop (mkF m 99 #[.val (.long p0), .second, .val (.long p1), .second, .val (.int (1 : Int32)), .val (.long bb), .second, .val (.long cc), .second, .val (.long (bb - (bb / (4096 : Int64)) * (4096 : Int64))), .second, .val (.long ((bb / (4096 : Int64)) * (4092 : Int64))), .second, .unset, .unset, .unset] [(.long (cc / (4092 : Int64)))]))
      refine own_Goes.st ?_ (fun _ k => XS.lstore X3.here hx rfl (hb hby at_99) rfl (l' := #[.val (.long p0), .second, .val (.long p1), .second, .val (.int (1 : Int32)), .val (.long bb), .second, .val (.long cc), .second, .val (.long (cc / (4092 : Int64))), .second, .val (.long ((bb / (4096 : Int64)) * (4092 : Int64))), .second, .unset, .unset, .unset]) rfl k)
      show own_Goes p.tables e below P (T3.setTop (mkF m 101 #[.val (.long p0), .second, .val (.long p1), .second, .val (.int (1 : Int32)), .val (.long bb), .second, .val (.long cc), .second, .val (.long (cc / (4092 : Int64))), .second, .val (.long ((bb / (4096 : Int64)) * (4092 : Int64))), .second, .unset, .unset, .unset] []))
      refine own_Goes.st ?_ (fun _ k => XS.lload X3.here hx rfl (hb hby at_101) rfl k)
      show own_Goes p.tables e below P (T3.setTop (mkF m 103 #[.val (.long p0), .second, .val (.long p1), .second, .val (.int (1 : Int32)), .val (.long bb), .second, .val (.long cc), .second, .val (.long (cc / (4092 : Int64))), .second, .val (.long ((bb / (4096 : Int64)) * (4092 : Int64))), .second, .unset, .unset, .unset] [(.long cc)]))
      refine own_Goes.st ?_ (X3.ldc2Long hx hown (mvT hZ (hw _ (List.mem_of_getElem? (i := 3) rfl))) (g := (mkF m 103 #[.val (.long p0), .second, .val (.long p1), .second, .val (.int (1 : Int32)), .val (.long bb), .second, .val (.long cc), .second, .val (.long (cc / (4092 : Int64))), .second, .val (.long ((bb / (4096 : Int64)) * (4092 : Int64))), .second, .unset, .unset, .unset] [(.long cc)])) rfl (hb hby at_103))
      show own_Goes p.tables e below P (T3.setTop (mkF m 106 #[.val (.long p0), .second, .val (.long p1), .second, .val (.int (1 : Int32)), .val (.long bb), .second, .val (.long cc), .second, .val (.long (cc / (4092 : Int64))), .second, .val (.long ((bb / (4096 : Int64)) * (4092 : Int64))), .second, .unset, .unset, .unset] [(.long (4092 : Int64)), (.long cc)]))
      refine own_Goes.st ?_ (fun _ k => XS.lrem X3.here hx rfl (hb hby at_106) rfl (by decide) k)
      show own_Goes p.tables e below P (T3.setTop (mkF m 107 #[.val (.long p0), .second, .val (.long p1), .second, .val (.int (1 : Int32)), .val (.long bb), .second, .val (.long cc), .second, .val (.long (cc / (4092 : Int64))), .second, .val (.long ((bb / (4096 : Int64)) * (4092 : Int64))), .second, .unset, .unset, .unset] [(.long (cc - (cc / (4092 : Int64)) * (4092 : Int64)))]))
      refine own_Goes.st ?_ (fun _ k => XS.lstore X3.here hx rfl (hb hby at_107) rfl (l' := #[.val (.long p0), .second, .val (.long p1), .second, .val (.int (1 : Int32)), .val (.long bb), .second, .val (.long cc), .second, .val (.long (cc / (4092 : Int64))), .second, .val (.long (cc - (cc / (4092 : Int64)) * (4092 : Int64))), .second, .unset, .unset, .unset]) rfl k)
      show own_Goes p.tables e below P (T3.setTop (mkF m 109 #[.val (.long p0), .second, .val (.long p1), .second, .val (.int (1 : Int32)), .val (.long bb), .second, .val (.long cc), .second, .val (.long (cc / (4092 : Int64))), .second, .val (.long (cc - (cc / (4092 : Int64)) * (4092 : Int64))), .second, .unset, .unset, .unset] []))
      refine own_Goes.st ?_ (fun _ k => XS.lload X3.here hx rfl (hb hby at_109) rfl k)
      show own_Goes p.tables e below P (T3.setTop (mkF m 111 #[.val (.long p0), .second, .val (.long p1), .second, .val (.int (1 : Int32)), .val (.long bb), .second, .val (.long cc), .second, .val (.long (cc / (4092 : Int64))), .second, .val (.long (cc - (cc / (4092 : Int64)) * (4092 : Int64))), .second, .unset, .unset, .unset] [(.long (cc - (cc / (4092 : Int64)) * (4092 : Int64)))]))
      refine own_Goes.st ?_ (fun _ k => XS.lconst X3.here hx rfl (hb hby at_111) k)
      show own_Goes p.tables e below P (T3.setTop (mkF m 112 #[.val (.long p0), .second, .val (.long p1), .second, .val (.int (1 : Int32)), .val (.long bb), .second, .val (.long cc), .second, .val (.long (cc / (4092 : Int64))), .second, .val (.long (cc - (cc / (4092 : Int64)) * (4092 : Int64))), .second, .unset, .unset, .unset] [(.long (0 : Int64)), (.long (cc - (cc / (4092 : Int64)) * (4092 : Int64)))]))
      refine own_Goes.st ?_ (fun _ k => XS.lcmp X3.here hx rfl (hb hby at_112) rfl k)
      show own_Goes p.tables e below P (T3.setTop (mkF m 113 #[.val (.long p0), .second, .val (.long p1), .second, .val (.int (1 : Int32)), .val (.long bb), .second, .val (.long cc), .second, .val (.long (cc / (4092 : Int64))), .second, .val (.long (cc - (cc / (4092 : Int64)) * (4092 : Int64))), .second, .unset, .unset, .unset] [(.int (lcmpW (cc - (cc / (4092 : Int64)) * (4092 : Int64)) (0 : Int64)))]))
      by_cases hr2 : (cc - (cc / (4092 : Int64)) * (4092 : Int64)) = (0 : Int64)
      · skip
        refine own_Goes.st ?_ (fun _ k => XS.ifNo X3.here hx rfl (hb hby at_113) rfl ((if0 _ _).trans (teq ((lw_eq _ _).mpr hr2)).2) k)
        show own_Goes p.tables e below P (T3.setTop (mkF m 116 #[.val (.long p0), .second, .val (.long p1), .second, .val (.int (1 : Int32)), .val (.long bb), .second, .val (.long cc), .second, .val (.long (cc / (4092 : Int64))), .second, .val (.long (cc - (cc / (4092 : Int64)) * (4092 : Int64))), .second, .unset, .unset, .unset] []))
        refine own_Goes.st ?_ (fun _ k => XS.lload X3.here hx rfl (hb hby at_116) rfl k)
        show own_Goes p.tables e below P (T3.setTop (mkF m 118 #[.val (.long p0), .second, .val (.long p1), .second, .val (.int (1 : Int32)), .val (.long bb), .second, .val (.long cc), .second, .val (.long (cc / (4092 : Int64))), .second, .val (.long (cc - (cc / (4092 : Int64)) * (4092 : Int64))), .second, .unset, .unset, .unset] [(.long (cc / (4092 : Int64)))]))
        refine own_Goes.st ?_ (X3.ldc2Long hx hown (mvT hZ (hw _ (List.mem_of_getElem? (i := 2) rfl))) (g := (mkF m 118 #[.val (.long p0), .second, .val (.long p1), .second, .val (.int (1 : Int32)), .val (.long bb), .second, .val (.long cc), .second, .val (.long (cc / (4092 : Int64))), .second, .val (.long (cc - (cc / (4092 : Int64)) * (4092 : Int64))), .second, .unset, .unset, .unset] [(.long (cc / (4092 : Int64)))])) rfl (hb hby at_118))
        show own_Goes p.tables e below P (T3.setTop (mkF m 121 #[.val (.long p0), .second, .val (.long p1), .second, .val (.int (1 : Int32)), .val (.long bb), .second, .val (.long cc), .second, .val (.long (cc / (4092 : Int64))), .second, .val (.long (cc - (cc / (4092 : Int64)) * (4092 : Int64))), .second, .unset, .unset, .unset] [(.long (4096 : Int64)), (.long (cc / (4092 : Int64)))]))
        refine own_Goes.st ?_ (fun _ k => XS.lmul X3.here hx rfl (hb hby at_121) rfl k)
        show own_Goes p.tables e below P (T3.setTop (mkF m 122 #[.val (.long p0), .second, .val (.long p1), .second, .val (.int (1 : Int32)), .val (.long bb), .second, .val (.long cc), .second, .val (.long (cc / (4092 : Int64))), .second, .val (.long (cc - (cc / (4092 : Int64)) * (4092 : Int64))), .second, .unset, .unset, .unset] [(.long ((cc / (4092 : Int64)) * (4096 : Int64)))]))
        refine own_Goes.st ?_ (fun _ k => XS.lstore X3.here hx rfl (hb hby at_122) rfl (l' := #[.val (.long p0), .second, .val (.long p1), .second, .val (.int (1 : Int32)), .val (.long bb), .second, .val (.long cc), .second, .val (.long (cc / (4092 : Int64))), .second, .val (.long (cc - (cc / (4092 : Int64)) * (4092 : Int64))), .second, .val (.long ((cc / (4092 : Int64)) * (4096 : Int64))), .second, .unset]) rfl k)
        show own_Goes p.tables e below P (T3.setTop (mkF m 124 #[.val (.long p0), .second, .val (.long p1), .second, .val (.int (1 : Int32)), .val (.long bb), .second, .val (.long cc), .second, .val (.long (cc / (4092 : Int64))), .second, .val (.long (cc - (cc / (4092 : Int64)) * (4092 : Int64))), .second, .val (.long ((cc / (4092 : Int64)) * (4096 : Int64))), .second, .unset] []))
        refine own_Goes.st ?_ (fun _ k => XS.goto X3.here hx rfl (pc0 := 124) (pc' := 142) rfl (hb hby at_124) (by decide) (by decide) k)
        show own_Goes p.tables e below P (T3.setTop (mkF m 142 #[.val (.long p0), .second, .val (.long p1), .second, .val (.int (1 : Int32)), .val (.long bb), .second, .val (.long cc), .second, .val (.long (cc / (4092 : Int64))), .second, .val (.long (cc - (cc / (4092 : Int64)) * (4092 : Int64))), .second, .val (.long ((cc / (4092 : Int64)) * (4096 : Int64))), .second, .unset] []))
        refine own_Goes.st ?_ (fun _ k => XS.lload X3.here hx rfl (hb hby at_142) rfl k)
        show own_Goes p.tables e below P (T3.setTop (mkF m 144 #[.val (.long p0), .second, .val (.long p1), .second, .val (.int (1 : Int32)), .val (.long bb), .second, .val (.long cc), .second, .val (.long (cc / (4092 : Int64))), .second, .val (.long (cc - (cc / (4092 : Int64)) * (4092 : Int64))), .second, .val (.long ((cc / (4092 : Int64)) * (4096 : Int64))), .second, .unset] [(.long ((cc / (4092 : Int64)) * (4096 : Int64)))]))
        obtain ⟨_, _, ⟨T4, L4, k4, n4⟩, -, X4, ⟨Lc4, hQ4, l4, y4, z4⟩, st4⟩ := Jvm.LawKit.callS X3 hx (y := (⟨"com/example/shrike/shrike/io/Pages", "contentLength", "(J)J"⟩ : MethodName)) hown (mvT hZ (hw _ (List.mem_of_getElem? (i := 5) rfl))) (mvT hZ (hw _ (List.mem_of_getElem? (i := 6) rfl))) (mvT hZ (hw _ (List.mem_of_getElem? (i := 7) rfl))) (mvT hZ (hw _ (List.mem_of_getElem? (i := 8) rfl))) (by decide) (backOf (W := 0) (rm_cl l Z a0 hw [] ((cc / (4092 : Int64)) * (4096 : Int64)) h0 n0 Z0) hZ (hw _ (List.mem_of_getElem? (i := 8) rfl)) (hw _ (List.mem_of_getElem? (i := 7) rfl)) (by decide) (by decide)) (g := (mkF m 144 #[.val (.long p0), .second, .val (.long p1), .second, .val (.int (1 : Int32)), .val (.long bb), .second, .val (.long cc), .second, .val (.long (cc / (4092 : Int64))), .second, .val (.long (cc - (cc / (4092 : Int64)) * (4092 : Int64))), .second, .val (.long ((cc / (4092 : Int64)) * (4096 : Int64))), .second, .unset] [(.long ((cc / (4092 : Int64)) * (4096 : Int64)))])) rfl (by rw [hml]; rfl) (argsL := [(.long ((cc / (4092 : Int64)) * (4096 : Int64)))]) (rest := []) (lenOf own_pd__28_J_29_J rfl) rfl (by show 2 * 0 + _ ≤ _; exact Nat.le_of_eq rfl) (hb hby at_144) (fun _ _ => ⟨rfl, e3, (by decide : 0 + 0 ≤ _), (by decide : 0 + 0 ≤ _)⟩)
        dsimp only [Pt.U, Pt.locs, Pt.cells, Pt.slots] at X4 l4 y4 z4 st4 hQ4
        subst l4 y4 z4
        obtain ⟨rfl, Nq4, e4⟩ := hQ4
        have N4 := Fr.app N3 Nq4
        refine own_Goes.st ?_ st4
        show own_Goes p.tables e below P (T4.setTop (mkF m 147 #[.val (.long p0), .second, .val (.long p1), .second, .val (.int (1 : Int32)), .val (.long bb), .second, .val (.long cc), .second, .val (.long (cc / (4092 : Int64))), .second, .val (.long (cc - (cc / (4092 : Int64)) * (4092 : Int64))), .second, .val (.long ((cc / (4092 : Int64)) * (4096 : Int64))), .second, .unset] [(.long (own_cl ((cc / (4092 : Int64)) * (4096 : Int64))))]))
        refine own_Goes.st ?_ (fun _ k => XS.lload X4.here hx rfl (hb hby at_147) rfl k)
        show own_Goes p.tables e below P (T4.setTop (mkF m 149 #[.val (.long p0), .second, .val (.long p1), .second, .val (.int (1 : Int32)), .val (.long bb), .second, .val (.long cc), .second, .val (.long (cc / (4092 : Int64))), .second, .val (.long (cc - (cc / (4092 : Int64)) * (4092 : Int64))), .second, .val (.long ((cc / (4092 : Int64)) * (4096 : Int64))), .second, .unset] [(.long cc), (.long (own_cl ((cc / (4092 : Int64)) * (4096 : Int64))))]))
        refine own_Goes.st ?_ (fun _ k => XS.lcmp X4.here hx rfl (hb hby at_149) rfl k)
        show own_Goes p.tables e below P (T4.setTop (mkF m 150 #[.val (.long p0), .second, .val (.long p1), .second, .val (.int (1 : Int32)), .val (.long bb), .second, .val (.long cc), .second, .val (.long (cc / (4092 : Int64))), .second, .val (.long (cc - (cc / (4092 : Int64)) * (4092 : Int64))), .second, .val (.long ((cc / (4092 : Int64)) * (4096 : Int64))), .second, .unset] [(.int (lcmpW (own_cl ((cc / (4092 : Int64)) * (4096 : Int64))) cc))]))
        refine own_Goes.st ?_ (fun _ k => XS.ifNo X4.here hx rfl (hb hby at_150) rfl ((if0 _ _).trans (teq ((lw_eq _ _).mpr (own_second0 hcc.symm hr2))).2) k)
        show own_Goes p.tables e below P (T4.setTop (mkF m 153 #[.val (.long p0), .second, .val (.long p1), .second, .val (.int (1 : Int32)), .val (.long bb), .second, .val (.long cc), .second, .val (.long (cc / (4092 : Int64))), .second, .val (.long (cc - (cc / (4092 : Int64)) * (4092 : Int64))), .second, .val (.long ((cc / (4092 : Int64)) * (4096 : Int64))), .second, .unset] []))
        refine own_Goes.st ?_ (fun _ k => XS.iconst X4.here hx rfl (hb hby at_153) k)
        show own_Goes p.tables e below P (T4.setTop (mkF m 154 #[.val (.long p0), .second, .val (.long p1), .second, .val (.int (1 : Int32)), .val (.long bb), .second, .val (.long cc), .second, .val (.long (cc / (4092 : Int64))), .second, .val (.long (cc - (cc / (4092 : Int64)) * (4092 : Int64))), .second, .val (.long ((cc / (4092 : Int64)) * (4096 : Int64))), .second, .unset] [(.int (1 : Int32))]))
        refine own_Goes.st ?_ (fun _ k => XS.goto X4.here hx rfl (pc0 := 154) (pc' := 158) rfl (hb hby at_154) (by decide) (by decide) k)
        show own_Goes p.tables e below P (T4.setTop (mkF m 158 #[.val (.long p0), .second, .val (.long p1), .second, .val (.int (1 : Int32)), .val (.long bb), .second, .val (.long cc), .second, .val (.long (cc / (4092 : Int64))), .second, .val (.long (cc - (cc / (4092 : Int64)) * (4092 : Int64))), .second, .val (.long ((cc / (4092 : Int64)) * (4096 : Int64))), .second, .unset] [(.int (1 : Int32))]))
        refine own_Goes.st ?_ (fun _ k => XS.istore X4.here hx rfl (hb hby at_158) rfl (l' := #[.val (.long p0), .second, .val (.long p1), .second, .val (.int (1 : Int32)), .val (.long bb), .second, .val (.long cc), .second, .val (.long (cc / (4092 : Int64))), .second, .val (.long (cc - (cc / (4092 : Int64)) * (4092 : Int64))), .second, .val (.long ((cc / (4092 : Int64)) * (4096 : Int64))), .second, .val (.int (1 : Int32))]) rfl k)
        show own_Goes p.tables e below P (T4.setTop (mkF m 160 #[.val (.long p0), .second, .val (.long p1), .second, .val (.int (1 : Int32)), .val (.long bb), .second, .val (.long cc), .second, .val (.long (cc / (4092 : Int64))), .second, .val (.long (cc - (cc / (4092 : Int64)) * (4092 : Int64))), .second, .val (.long ((cc / (4092 : Int64)) * (4096 : Int64))), .second, .val (.int (1 : Int32))] []))
        refine own_Goes.st ?_ (fun _ k => XS.iload X4.here hx rfl (hb hby at_160) rfl k)
        show own_Goes p.tables e below P (T4.setTop (mkF m 162 #[.val (.long p0), .second, .val (.long p1), .second, .val (.int (1 : Int32)), .val (.long bb), .second, .val (.long cc), .second, .val (.long (cc / (4092 : Int64))), .second, .val (.long (cc - (cc / (4092 : Int64)) * (4092 : Int64))), .second, .val (.long ((cc / (4092 : Int64)) * (4096 : Int64))), .second, .val (.int (1 : Int32))] [(.int (1 : Int32))]))
        refine own_Goes.st ?_ (fun _ k => XS.ifNo X4.here hx rfl (hb hby at_162) rfl ((if0 _ _).trans (feq (by decide : ¬ ((1 : Int32) = (0 : Int32)))).1) k)
        show own_Goes p.tables e below P (T4.setTop (mkF m 165 #[.val (.long p0), .second, .val (.long p1), .second, .val (.int (1 : Int32)), .val (.long bb), .second, .val (.long cc), .second, .val (.long (cc / (4092 : Int64))), .second, .val (.long (cc - (cc / (4092 : Int64)) * (4092 : Int64))), .second, .val (.long ((cc / (4092 : Int64)) * (4096 : Int64))), .second, .val (.int (1 : Int32))] []))
        refine own_Goes.st ?_ (fun _ k => XS.iload X4.here hx rfl (hb hby at_165) rfl k)
        show own_Goes p.tables e below P (T4.setTop (mkF m 167 #[.val (.long p0), .second, .val (.long p1), .second, .val (.int (1 : Int32)), .val (.long bb), .second, .val (.long cc), .second, .val (.long (cc / (4092 : Int64))), .second, .val (.long (cc - (cc / (4092 : Int64)) * (4092 : Int64))), .second, .val (.long ((cc / (4092 : Int64)) * (4096 : Int64))), .second, .val (.int (1 : Int32))] [(.int (1 : Int32))]))
        refine own_Goes.st ?_ (fun _ k => XS.ifNo X4.here hx rfl (hb hby at_167) rfl ((if0 _ _).trans (feq (by decide : ¬ ((1 : Int32) = (0 : Int32)))).1) k)
        show own_Goes p.tables e below P (T4.setTop (mkF m 170 #[.val (.long p0), .second, .val (.long p1), .second, .val (.int (1 : Int32)), .val (.long bb), .second, .val (.long cc), .second, .val (.long (cc / (4092 : Int64))), .second, .val (.long (cc - (cc / (4092 : Int64)) * (4092 : Int64))), .second, .val (.long ((cc / (4092 : Int64)) * (4096 : Int64))), .second, .val (.int (1 : Int32))] []))
        refine own_Goes.st ?_ (fun _ k => XS.iconst X4.here hx rfl (hb hby at_170) k)
        show own_Goes p.tables e below P (T4.setTop (mkF m 171 #[.val (.long p0), .second, .val (.long p1), .second, .val (.int (1 : Int32)), .val (.long bb), .second, .val (.long cc), .second, .val (.long (cc / (4092 : Int64))), .second, .val (.long (cc - (cc / (4092 : Int64)) * (4092 : Int64))), .second, .val (.long ((cc / (4092 : Int64)) * (4096 : Int64))), .second, .val (.int (1 : Int32))] [(.int (1 : Int32))]))
        refine own_Goes.st ?_ (fun _ k => XS.goto X4.here hx rfl (pc0 := 171) (pc' := 175) rfl (hb hby at_171) (by decide) (by decide) k)
        show own_Goes p.tables e below P (T4.setTop (mkF m 175 #[.val (.long p0), .second, .val (.long p1), .second, .val (.int (1 : Int32)), .val (.long bb), .second, .val (.long cc), .second, .val (.long (cc / (4092 : Int64))), .second, .val (.long (cc - (cc / (4092 : Int64)) * (4092 : Int64))), .second, .val (.long ((cc / (4092 : Int64)) * (4096 : Int64))), .second, .val (.int (1 : Int32))] [(.int (1 : Int32))]))
        obtain ⟨fs, hr, hrun, hended, hW, hsame⟩ := X4.leave (v := some (.int (1 : Int32))) (fun h => by rw [Bd.returns] at h; cases h)
        exact own_Goes.fin _ _ (retOut X4 hx (t := .boolean) Bd.returns rfl (Or.inl ⟨rfl, Or.inr (Or.inl rfl), _, rfl⟩) (hb hby at_175) hr) (hPP _ _ ⟨hrun, hended, _, _, rfl, (by show Q_law n0 _ _; exact ⟨rfl, N4⟩), ⟨_, rfl⟩, hW, hsame.mono (by decide) (by decide)⟩)
      · skip
        refine own_Goes.st ?_ (fun _ k => XS.ifYes X3.here hx rfl (pc0 := 113) (pc' := 127) rfl (hb hby at_113) rfl ((if0 _ _).trans (feq (fun q => hr2 ((lw_eq _ _).mp q))).2) (by decide) (by decide) k)
        show own_Goes p.tables e below P (T3.setTop (mkF m 127 #[.val (.long p0), .second, .val (.long p1), .second, .val (.int (1 : Int32)), .val (.long bb), .second, .val (.long cc), .second, .val (.long (cc / (4092 : Int64))), .second, .val (.long (cc - (cc / (4092 : Int64)) * (4092 : Int64))), .second, .unset, .unset, .unset] []))
        refine own_Goes.st ?_ (fun _ k => XS.lload X3.here hx rfl (hb hby at_127) rfl k)
        show own_Goes p.tables e below P (T3.setTop (mkF m 129 #[.val (.long p0), .second, .val (.long p1), .second, .val (.int (1 : Int32)), .val (.long bb), .second, .val (.long cc), .second, .val (.long (cc / (4092 : Int64))), .second, .val (.long (cc - (cc / (4092 : Int64)) * (4092 : Int64))), .second, .unset, .unset, .unset] [(.long (cc / (4092 : Int64)))]))
        refine own_Goes.st ?_ (X3.ldc2Long hx hown (mvT hZ (hw _ (List.mem_of_getElem? (i := 2) rfl))) (g := (mkF m 129 #[.val (.long p0), .second, .val (.long p1), .second, .val (.int (1 : Int32)), .val (.long bb), .second, .val (.long cc), .second, .val (.long (cc / (4092 : Int64))), .second, .val (.long (cc - (cc / (4092 : Int64)) * (4092 : Int64))), .second, .unset, .unset, .unset] [(.long (cc / (4092 : Int64)))])) rfl (hb hby at_129))
        show own_Goes p.tables e below P (T3.setTop (mkF m 132 #[.val (.long p0), .second, .val (.long p1), .second, .val (.int (1 : Int32)), .val (.long bb), .second, .val (.long cc), .second, .val (.long (cc / (4092 : Int64))), .second, .val (.long (cc - (cc / (4092 : Int64)) * (4092 : Int64))), .second, .unset, .unset, .unset] [(.long (4096 : Int64)), (.long (cc / (4092 : Int64)))]))
        refine own_Goes.st ?_ (fun _ k => XS.lmul X3.here hx rfl (hb hby at_132) rfl k)
        show own_Goes p.tables e below P (T3.setTop (mkF m 133 #[.val (.long p0), .second, .val (.long p1), .second, .val (.int (1 : Int32)), .val (.long bb), .second, .val (.long cc), .second, .val (.long (cc / (4092 : Int64))), .second, .val (.long (cc - (cc / (4092 : Int64)) * (4092 : Int64))), .second, .unset, .unset, .unset] [(.long ((cc / (4092 : Int64)) * (4096 : Int64)))]))
        refine own_Goes.st ?_ (fun _ k => XS.lload X3.here hx rfl (hb hby at_133) rfl k)
        show own_Goes p.tables e below P (T3.setTop (mkF m 135 #[.val (.long p0), .second, .val (.long p1), .second, .val (.int (1 : Int32)), .val (.long bb), .second, .val (.long cc), .second, .val (.long (cc / (4092 : Int64))), .second, .val (.long (cc - (cc / (4092 : Int64)) * (4092 : Int64))), .second, .unset, .unset, .unset] [(.long (cc - (cc / (4092 : Int64)) * (4092 : Int64))), (.long ((cc / (4092 : Int64)) * (4096 : Int64)))]))
        refine own_Goes.st ?_ (fun _ k => XS.ladd X3.here hx rfl (hb hby at_135) rfl k)
        show own_Goes p.tables e below P (T3.setTop (mkF m 136 #[.val (.long p0), .second, .val (.long p1), .second, .val (.int (1 : Int32)), .val (.long bb), .second, .val (.long cc), .second, .val (.long (cc / (4092 : Int64))), .second, .val (.long (cc - (cc / (4092 : Int64)) * (4092 : Int64))), .second, .unset, .unset, .unset] [(.long (((cc / (4092 : Int64)) * (4096 : Int64)) + (cc - (cc / (4092 : Int64)) * (4092 : Int64))))]))
        refine own_Goes.st ?_ (X3.ldc2Long hx hown (mvT hZ (hw _ (List.mem_of_getElem? (i := 4) rfl))) (g := (mkF m 136 #[.val (.long p0), .second, .val (.long p1), .second, .val (.int (1 : Int32)), .val (.long bb), .second, .val (.long cc), .second, .val (.long (cc / (4092 : Int64))), .second, .val (.long (cc - (cc / (4092 : Int64)) * (4092 : Int64))), .second, .unset, .unset, .unset] [(.long (((cc / (4092 : Int64)) * (4096 : Int64)) + (cc - (cc / (4092 : Int64)) * (4092 : Int64))))])) rfl (hb hby at_136))
        show own_Goes p.tables e below P (T3.setTop (mkF m 139 #[.val (.long p0), .second, .val (.long p1), .second, .val (.int (1 : Int32)), .val (.long bb), .second, .val (.long cc), .second, .val (.long (cc / (4092 : Int64))), .second, .val (.long (cc - (cc / (4092 : Int64)) * (4092 : Int64))), .second, .unset, .unset, .unset] [(.long (4 : Int64)), (.long (((cc / (4092 : Int64)) * (4096 : Int64)) + (cc - (cc / (4092 : Int64)) * (4092 : Int64))))]))
        refine own_Goes.st ?_ (fun _ k => XS.ladd X3.here hx rfl (hb hby at_139) rfl k)
        show own_Goes p.tables e below P (T3.setTop (mkF m 140 #[.val (.long p0), .second, .val (.long p1), .second, .val (.int (1 : Int32)), .val (.long bb), .second, .val (.long cc), .second, .val (.long (cc / (4092 : Int64))), .second, .val (.long (cc - (cc / (4092 : Int64)) * (4092 : Int64))), .second, .unset, .unset, .unset] [(.long ((((cc / (4092 : Int64)) * (4096 : Int64)) + (cc - (cc / (4092 : Int64)) * (4092 : Int64))) + (4 : Int64)))]))
        refine own_Goes.st ?_ (fun _ k => XS.lstore X3.here hx rfl (hb hby at_140) rfl (l' := #[.val (.long p0), .second, .val (.long p1), .second, .val (.int (1 : Int32)), .val (.long bb), .second, .val (.long cc), .second, .val (.long (cc / (4092 : Int64))), .second, .val (.long (cc - (cc / (4092 : Int64)) * (4092 : Int64))), .second, .val (.long ((((cc / (4092 : Int64)) * (4096 : Int64)) + (cc - (cc / (4092 : Int64)) * (4092 : Int64))) + (4 : Int64))), .second, .unset]) rfl k)
        show own_Goes p.tables e below P (T3.setTop (mkF m 142 #[.val (.long p0), .second, .val (.long p1), .second, .val (.int (1 : Int32)), .val (.long bb), .second, .val (.long cc), .second, .val (.long (cc / (4092 : Int64))), .second, .val (.long (cc - (cc / (4092 : Int64)) * (4092 : Int64))), .second, .val (.long ((((cc / (4092 : Int64)) * (4096 : Int64)) + (cc - (cc / (4092 : Int64)) * (4092 : Int64))) + (4 : Int64))), .second, .unset] []))
        refine own_Goes.st ?_ (fun _ k => XS.lload X3.here hx rfl (hb hby at_142) rfl k)
        show own_Goes p.tables e below P (T3.setTop (mkF m 144 #[.val (.long p0), .second, .val (.long p1), .second, .val (.int (1 : Int32)), .val (.long bb), .second, .val (.long cc), .second, .val (.long (cc / (4092 : Int64))), .second, .val (.long (cc - (cc / (4092 : Int64)) * (4092 : Int64))), .second, .val (.long ((((cc / (4092 : Int64)) * (4096 : Int64)) + (cc - (cc / (4092 : Int64)) * (4092 : Int64))) + (4 : Int64))), .second, .unset] [(.long ((((cc / (4092 : Int64)) * (4096 : Int64)) + (cc - (cc / (4092 : Int64)) * (4092 : Int64))) + (4 : Int64)))]))
        obtain ⟨_, _, ⟨T5, L5, k5, n5⟩, -, X5, ⟨Lc5, hQ5, l5, y5, z5⟩, st5⟩ := Jvm.LawKit.callS X3 hx (y := (⟨"com/example/shrike/shrike/io/Pages", "contentLength", "(J)J"⟩ : MethodName)) hown (mvT hZ (hw _ (List.mem_of_getElem? (i := 5) rfl))) (mvT hZ (hw _ (List.mem_of_getElem? (i := 6) rfl))) (mvT hZ (hw _ (List.mem_of_getElem? (i := 7) rfl))) (mvT hZ (hw _ (List.mem_of_getElem? (i := 8) rfl))) (by decide) (backOf (W := 0) (rm_cl l Z a0 hw [] ((((cc / (4092 : Int64)) * (4096 : Int64)) + (cc - (cc / (4092 : Int64)) * (4092 : Int64))) + (4 : Int64)) h0 n0 Z0) hZ (hw _ (List.mem_of_getElem? (i := 8) rfl)) (hw _ (List.mem_of_getElem? (i := 7) rfl)) (by decide) (by decide)) (g := (mkF m 144 #[.val (.long p0), .second, .val (.long p1), .second, .val (.int (1 : Int32)), .val (.long bb), .second, .val (.long cc), .second, .val (.long (cc / (4092 : Int64))), .second, .val (.long (cc - (cc / (4092 : Int64)) * (4092 : Int64))), .second, .val (.long ((((cc / (4092 : Int64)) * (4096 : Int64)) + (cc - (cc / (4092 : Int64)) * (4092 : Int64))) + (4 : Int64))), .second, .unset] [(.long ((((cc / (4092 : Int64)) * (4096 : Int64)) + (cc - (cc / (4092 : Int64)) * (4092 : Int64))) + (4 : Int64)))])) rfl (by rw [hml]; rfl) (argsL := [(.long ((((cc / (4092 : Int64)) * (4096 : Int64)) + (cc - (cc / (4092 : Int64)) * (4092 : Int64))) + (4 : Int64)))]) (rest := []) (lenOf own_pd__28_J_29_J rfl) rfl (by show 2 * 0 + _ ≤ _; exact Nat.le_of_eq rfl) (hb hby at_144) (fun _ _ => ⟨rfl, e3, (by decide : 0 + 0 ≤ _), (by decide : 0 + 0 ≤ _)⟩)
        dsimp only [Pt.U, Pt.locs, Pt.cells, Pt.slots] at X5 l5 y5 z5 st5 hQ5
        subst l5 y5 z5
        obtain ⟨rfl, Nq5, e5⟩ := hQ5
        have N5 := Fr.app N3 Nq5
        refine own_Goes.st ?_ st5
        show own_Goes p.tables e below P (T5.setTop (mkF m 147 #[.val (.long p0), .second, .val (.long p1), .second, .val (.int (1 : Int32)), .val (.long bb), .second, .val (.long cc), .second, .val (.long (cc / (4092 : Int64))), .second, .val (.long (cc - (cc / (4092 : Int64)) * (4092 : Int64))), .second, .val (.long ((((cc / (4092 : Int64)) * (4096 : Int64)) + (cc - (cc / (4092 : Int64)) * (4092 : Int64))) + (4 : Int64))), .second, .unset] [(.long (own_cl ((((cc / (4092 : Int64)) * (4096 : Int64)) + (cc - (cc / (4092 : Int64)) * (4092 : Int64))) + (4 : Int64))))]))
        refine own_Goes.st ?_ (fun _ k => XS.lload X5.here hx rfl (hb hby at_147) rfl k)
        show own_Goes p.tables e below P (T5.setTop (mkF m 149 #[.val (.long p0), .second, .val (.long p1), .second, .val (.int (1 : Int32)), .val (.long bb), .second, .val (.long cc), .second, .val (.long (cc / (4092 : Int64))), .second, .val (.long (cc - (cc / (4092 : Int64)) * (4092 : Int64))), .second, .val (.long ((((cc / (4092 : Int64)) * (4096 : Int64)) + (cc - (cc / (4092 : Int64)) * (4092 : Int64))) + (4 : Int64))), .second, .unset] [(.long cc), (.long (own_cl ((((cc / (4092 : Int64)) * (4096 : Int64)) + (cc - (cc / (4092 : Int64)) * (4092 : Int64))) + (4 : Int64))))]))
        refine own_Goes.st ?_ (fun _ k => XS.lcmp X5.here hx rfl (hb hby at_149) rfl k)
        show own_Goes p.tables e below P (T5.setTop (mkF m 150 #[.val (.long p0), .second, .val (.long p1), .second, .val (.int (1 : Int32)), .val (.long bb), .second, .val (.long cc), .second, .val (.long (cc / (4092 : Int64))), .second, .val (.long (cc - (cc / (4092 : Int64)) * (4092 : Int64))), .second, .val (.long ((((cc / (4092 : Int64)) * (4096 : Int64)) + (cc - (cc / (4092 : Int64)) * (4092 : Int64))) + (4 : Int64))), .second, .unset] [(.int (lcmpW (own_cl ((((cc / (4092 : Int64)) * (4096 : Int64)) + (cc - (cc / (4092 : Int64)) * (4092 : Int64))) + (4 : Int64))) cc))]))
        refine own_Goes.st ?_ (fun _ k => XS.ifNo X5.here hx rfl (hb hby at_150) rfl ((if0 _ _).trans (teq ((lw_eq _ _).mpr (own_second1 hcc.symm hr2))).2) k)
        show own_Goes p.tables e below P (T5.setTop (mkF m 153 #[.val (.long p0), .second, .val (.long p1), .second, .val (.int (1 : Int32)), .val (.long bb), .second, .val (.long cc), .second, .val (.long (cc / (4092 : Int64))), .second, .val (.long (cc - (cc / (4092 : Int64)) * (4092 : Int64))), .second, .val (.long ((((cc / (4092 : Int64)) * (4096 : Int64)) + (cc - (cc / (4092 : Int64)) * (4092 : Int64))) + (4 : Int64))), .second, .unset] []))
        refine own_Goes.st ?_ (fun _ k => XS.iconst X5.here hx rfl (hb hby at_153) k)
        show own_Goes p.tables e below P (T5.setTop (mkF m 154 #[.val (.long p0), .second, .val (.long p1), .second, .val (.int (1 : Int32)), .val (.long bb), .second, .val (.long cc), .second, .val (.long (cc / (4092 : Int64))), .second, .val (.long (cc - (cc / (4092 : Int64)) * (4092 : Int64))), .second, .val (.long ((((cc / (4092 : Int64)) * (4096 : Int64)) + (cc - (cc / (4092 : Int64)) * (4092 : Int64))) + (4 : Int64))), .second, .unset] [(.int (1 : Int32))]))
        refine own_Goes.st ?_ (fun _ k => XS.goto X5.here hx rfl (pc0 := 154) (pc' := 158) rfl (hb hby at_154) (by decide) (by decide) k)
        show own_Goes p.tables e below P (T5.setTop (mkF m 158 #[.val (.long p0), .second, .val (.long p1), .second, .val (.int (1 : Int32)), .val (.long bb), .second, .val (.long cc), .second, .val (.long (cc / (4092 : Int64))), .second, .val (.long (cc - (cc / (4092 : Int64)) * (4092 : Int64))), .second, .val (.long ((((cc / (4092 : Int64)) * (4096 : Int64)) + (cc - (cc / (4092 : Int64)) * (4092 : Int64))) + (4 : Int64))), .second, .unset] [(.int (1 : Int32))]))
        refine own_Goes.st ?_ (fun _ k => XS.istore X5.here hx rfl (hb hby at_158) rfl (l' := #[.val (.long p0), .second, .val (.long p1), .second, .val (.int (1 : Int32)), .val (.long bb), .second, .val (.long cc), .second, .val (.long (cc / (4092 : Int64))), .second, .val (.long (cc - (cc / (4092 : Int64)) * (4092 : Int64))), .second, .val (.long ((((cc / (4092 : Int64)) * (4096 : Int64)) + (cc - (cc / (4092 : Int64)) * (4092 : Int64))) + (4 : Int64))), .second, .val (.int (1 : Int32))]) rfl k)
        show own_Goes p.tables e below P (T5.setTop (mkF m 160 #[.val (.long p0), .second, .val (.long p1), .second, .val (.int (1 : Int32)), .val (.long bb), .second, .val (.long cc), .second, .val (.long (cc / (4092 : Int64))), .second, .val (.long (cc - (cc / (4092 : Int64)) * (4092 : Int64))), .second, .val (.long ((((cc / (4092 : Int64)) * (4096 : Int64)) + (cc - (cc / (4092 : Int64)) * (4092 : Int64))) + (4 : Int64))), .second, .val (.int (1 : Int32))] []))
        refine own_Goes.st ?_ (fun _ k => XS.iload X5.here hx rfl (hb hby at_160) rfl k)
        show own_Goes p.tables e below P (T5.setTop (mkF m 162 #[.val (.long p0), .second, .val (.long p1), .second, .val (.int (1 : Int32)), .val (.long bb), .second, .val (.long cc), .second, .val (.long (cc / (4092 : Int64))), .second, .val (.long (cc - (cc / (4092 : Int64)) * (4092 : Int64))), .second, .val (.long ((((cc / (4092 : Int64)) * (4096 : Int64)) + (cc - (cc / (4092 : Int64)) * (4092 : Int64))) + (4 : Int64))), .second, .val (.int (1 : Int32))] [(.int (1 : Int32))]))
        refine own_Goes.st ?_ (fun _ k => XS.ifNo X5.here hx rfl (hb hby at_162) rfl ((if0 _ _).trans (feq (by decide : ¬ ((1 : Int32) = (0 : Int32)))).1) k)
        show own_Goes p.tables e below P (T5.setTop (mkF m 165 #[.val (.long p0), .second, .val (.long p1), .second, .val (.int (1 : Int32)), .val (.long bb), .second, .val (.long cc), .second, .val (.long (cc / (4092 : Int64))), .second, .val (.long (cc - (cc / (4092 : Int64)) * (4092 : Int64))), .second, .val (.long ((((cc / (4092 : Int64)) * (4096 : Int64)) + (cc - (cc / (4092 : Int64)) * (4092 : Int64))) + (4 : Int64))), .second, .val (.int (1 : Int32))] []))
        refine own_Goes.st ?_ (fun _ k => XS.iload X5.here hx rfl (hb hby at_165) rfl k)
        show own_Goes p.tables e below P (T5.setTop (mkF m 167 #[.val (.long p0), .second, .val (.long p1), .second, .val (.int (1 : Int32)), .val (.long bb), .second, .val (.long cc), .second, .val (.long (cc / (4092 : Int64))), .second, .val (.long (cc - (cc / (4092 : Int64)) * (4092 : Int64))), .second, .val (.long ((((cc / (4092 : Int64)) * (4096 : Int64)) + (cc - (cc / (4092 : Int64)) * (4092 : Int64))) + (4 : Int64))), .second, .val (.int (1 : Int32))] [(.int (1 : Int32))]))
        refine own_Goes.st ?_ (fun _ k => XS.ifNo X5.here hx rfl (hb hby at_167) rfl ((if0 _ _).trans (feq (by decide : ¬ ((1 : Int32) = (0 : Int32)))).1) k)
        show own_Goes p.tables e below P (T5.setTop (mkF m 170 #[.val (.long p0), .second, .val (.long p1), .second, .val (.int (1 : Int32)), .val (.long bb), .second, .val (.long cc), .second, .val (.long (cc / (4092 : Int64))), .second, .val (.long (cc - (cc / (4092 : Int64)) * (4092 : Int64))), .second, .val (.long ((((cc / (4092 : Int64)) * (4096 : Int64)) + (cc - (cc / (4092 : Int64)) * (4092 : Int64))) + (4 : Int64))), .second, .val (.int (1 : Int32))] []))
        refine own_Goes.st ?_ (fun _ k => XS.iconst X5.here hx rfl (hb hby at_170) k)
        show own_Goes p.tables e below P (T5.setTop (mkF m 171 #[.val (.long p0), .second, .val (.long p1), .second, .val (.int (1 : Int32)), .val (.long bb), .second, .val (.long cc), .second, .val (.long (cc / (4092 : Int64))), .second, .val (.long (cc - (cc / (4092 : Int64)) * (4092 : Int64))), .second, .val (.long ((((cc / (4092 : Int64)) * (4096 : Int64)) + (cc - (cc / (4092 : Int64)) * (4092 : Int64))) + (4 : Int64))), .second, .val (.int (1 : Int32))] [(.int (1 : Int32))]))
        refine own_Goes.st ?_ (fun _ k => XS.goto X5.here hx rfl (pc0 := 171) (pc' := 175) rfl (hb hby at_171) (by decide) (by decide) k)
        show own_Goes p.tables e below P (T5.setTop (mkF m 175 #[.val (.long p0), .second, .val (.long p1), .second, .val (.int (1 : Int32)), .val (.long bb), .second, .val (.long cc), .second, .val (.long (cc / (4092 : Int64))), .second, .val (.long (cc - (cc / (4092 : Int64)) * (4092 : Int64))), .second, .val (.long ((((cc / (4092 : Int64)) * (4096 : Int64)) + (cc - (cc / (4092 : Int64)) * (4092 : Int64))) + (4 : Int64))), .second, .val (.int (1 : Int32))] [(.int (1 : Int32))]))
        obtain ⟨fs, hr, hrun, hended, hW, hsame⟩ := X5.leave (v := some (.int (1 : Int32))) (fun h => by rw [Bd.returns] at h; cases h)
        exact own_Goes.fin _ _ (retOut X5 hx (t := .boolean) Bd.returns rfl (Or.inl ⟨rfl, Or.inr (Or.inl rfl), _, rfl⟩) (hb hby at_175) hr) (hPP _ _ ⟨hrun, hended, _, _, rfl, (by show Q_law n0 _ _; exact ⟨rfl, N5⟩), ⟨_, rfl⟩, hW, hsame.mono (by decide) (by decide)⟩)
    · skip
      refine own_Goes.st ?_ (fun _ k => XS.ifYes X0.here hx rfl (pc0 := 39) (pc' := 53) rfl (hb hby at_39) rfl ((if0 _ _).trans (feq (fun q => hr ((lw_eq _ _).mp q))).2) (by decide) (by decide) k)
      show own_Goes p.tables e below P (s₁.setTop (mkF m 53 #[.val (.long p0), .second, .val (.long p1), .second, .val (.int (1 : Int32)), .val (.long bb), .second, .val (.long (bb / (4096 : Int64))), .second, .val (.long (bb - (bb / (4096 : Int64)) * (4096 : Int64))), .second, .unset, .unset, .unset, .unset, .unset] []))
      refine own_Goes.st ?_ (fun _ k => XS.lload X0.here hx rfl (hb hby at_53) rfl k)
      show own_Goes p.tables e below P (s₁.setTop (mkF m 55 #[.val (.long p0), .second, .val (.long p1), .second, .val (.int (1 : Int32)), .val (.long bb), .second, .val (.long (bb / (4096 : Int64))), .second, .val (.long (bb - (bb / (4096 : Int64)) * (4096 : Int64))), .second, .unset, .unset, .unset, .unset, .unset] [(.long (bb / (4096 : Int64)))]))
      refine own_Goes.st ?_ (X0.ldc2Long hx hown (mvT hZ (hw _ (List.mem_of_getElem? (i := 3) rfl))) (g := (mkF m 55 #[.val (.long p0), .second, .val (.long p1), .second, .val (.int (1 : Int32)), .val (.long bb), .second, .val (.long (bb / (4096 : Int64))), .second, .val (.long (bb - (bb / (4096 : Int64)) * (4096 : Int64))), .second, .unset, .unset, .unset, .unset, .unset] [(.long (bb / (4096 : Int64)))])) rfl (hb hby at_55))
      show own_Goes p.tables e below P (s₁.setTop (mkF m 58 #[.val (.long p0), .second, .val (.long p1), .second, .val (.int (1 : Int32)), .val (.long bb), .second, .val (.long (bb / (4096 : Int64))), .second, .val (.long (bb - (bb / (4096 : Int64)) * (4096 : Int64))), .second, .unset, .unset, .unset, .unset, .unset] [(.long (4092 : Int64)), (.long (bb / (4096 : Int64)))]))
      refine own_Goes.st ?_ (fun _ k => XS.lmul X0.here hx rfl (hb hby at_58) rfl k)
      show own_Goes p.tables e below P (s₁.setTop (mkF m 59 #[.val (.long p0), .second, .val (.long p1), .second, .val (.int (1 : Int32)), .val (.long bb), .second, .val (.long (bb / (4096 : Int64))), .second, .val (.long (bb - (bb / (4096 : Int64)) * (4096 : Int64))), .second, .unset, .unset, .unset, .unset, .unset] [(.long ((bb / (4096 : Int64)) * (4092 : Int64)))]))
      refine own_Goes.st ?_ (fun _ k => XS.lload X0.here hx rfl (hb hby at_59) rfl k)
      show own_Goes p.tables e below P (s₁.setTop (mkF m 61 #[.val (.long p0), .second, .val (.long p1), .second, .val (.int (1 : Int32)), .val (.long bb), .second, .val (.long (bb / (4096 : Int64))), .second, .val (.long (bb - (bb / (4096 : Int64)) * (4096 : Int64))), .second, .unset, .unset, .unset, .unset, .unset] [(.long (bb - (bb / (4096 : Int64)) * (4096 : Int64))), (.long ((bb / (4096 : Int64)) * (4092 : Int64)))]))
      refine own_Goes.st ?_ (fun _ k => XS.ladd X0.here hx rfl (hb hby at_61) rfl k)
      show own_Goes p.tables e below P (s₁.setTop (mkF m 62 #[.val (.long p0), .second, .val (.long p1), .second, .val (.int (1 : Int32)), .val (.long bb), .second, .val (.long (bb / (4096 : Int64))), .second, .val (.long (bb - (bb / (4096 : Int64)) * (4096 : Int64))), .second, .unset, .unset, .unset, .unset, .unset] [(.long (((bb / (4096 : Int64)) * (4092 : Int64)) + (bb - (bb / (4096 : Int64)) * (4096 : Int64))))]))
      refine own_Goes.st ?_ (X0.ldc2Long hx hown (mvT hZ (hw _ (List.mem_of_getElem? (i := 4) rfl))) (g := (mkF m 62 #[.val (.long p0), .second, .val (.long p1), .second, .val (.int (1 : Int32)), .val (.long bb), .second, .val (.long (bb / (4096 : Int64))), .second, .val (.long (bb - (bb / (4096 : Int64)) * (4096 : Int64))), .second, .unset, .unset, .unset, .unset, .unset] [(.long (((bb / (4096 : Int64)) * (4092 : Int64)) + (bb - (bb / (4096 : Int64)) * (4096 : Int64))))])) rfl (hb hby at_62))
      show own_Goes p.tables e below P (s₁.setTop (mkF m 65 #[.val (.long p0), .second, .val (.long p1), .second, .val (.int (1 : Int32)), .val (.long bb), .second, .val (.long (bb / (4096 : Int64))), .second, .val (.long (bb - (bb / (4096 : Int64)) * (4096 : Int64))), .second, .unset, .unset, .unset, .unset, .unset] [(.long (4 : Int64)), (.long (((bb / (4096 : Int64)) * (4092 : Int64)) + (bb - (bb / (4096 : Int64)) * (4096 : Int64))))]))
      refine own_Goes.st ?_ (fun _ k => XS.lsub X0.here hx rfl (hb hby at_65) rfl k)
      show own_Goes p.tables e below P (s₁.setTop (mkF m 66 #[.val (.long p0), .second, .val (.long p1), .second, .val (.int (1 : Int32)), .val (.long bb), .second, .val (.long (bb / (4096 : Int64))), .second, .val (.long (bb - (bb / (4096 : Int64)) * (4096 : Int64))), .second, .unset, .unset, .unset, .unset, .unset] [(.long ((((bb / (4096 : Int64)) * (4092 : Int64)) + (bb - (bb / (4096 : Int64)) * (4096 : Int64))) - (4 : Int64)))]))
      refine own_Goes.st ?_ (fun _ k => XS.lstore X0.here hx rfl (hb hby at_66) rfl (l' := #[.val (.long p0), .second, .val (.long p1), .second, .val (.int (1 : Int32)), .val (.long bb), .second, .val (.long (bb / (4096 : Int64))), .second, .val (.long (bb - (bb / (4096 : Int64)) * (4096 : Int64))), .second, .val (.long ((((bb / (4096 : Int64)) * (4092 : Int64)) + (bb - (bb / (4096 : Int64)) * (4096 : Int64))) - (4 : Int64))), .second, .unset, .unset, .unset]) rfl k)
      show own_Goes p.tables e below P (s₁.setTop (mkF m 68 #[.val (.long p0), .second, .val (.long p1), .second, .val (.int (1 : Int32)), .val (.long bb), .second, .val (.long (bb / (4096 : Int64))), .second, .val (.long (bb - (bb / (4096 : Int64)) * (4096 : Int64))), .second, .val (.long ((((bb / (4096 : Int64)) * (4092 : Int64)) + (bb - (bb / (4096 : Int64)) * (4096 : Int64))) - (4 : Int64))), .second, .unset, .unset, .unset] []))
      refine own_Goes.st ?_ (fun _ k => XS.lload X0.here hx rfl (hb hby at_68) rfl k)
      show own_Goes p.tables e below P (s₁.setTop (mkF m 70 #[.val (.long p0), .second, .val (.long p1), .second, .val (.int (1 : Int32)), .val (.long bb), .second, .val (.long (bb / (4096 : Int64))), .second, .val (.long (bb - (bb / (4096 : Int64)) * (4096 : Int64))), .second, .val (.long ((((bb / (4096 : Int64)) * (4092 : Int64)) + (bb - (bb / (4096 : Int64)) * (4096 : Int64))) - (4 : Int64))), .second, .unset, .unset, .unset] [(.long bb)]))
      obtain ⟨_, _, ⟨T6, L6, k6, n6⟩, -, X6, ⟨Lc6, hQ6, l6, y6, z6⟩, st6⟩ := Jvm.LawKit.callS X0 hx (y := (⟨"com/example/shrike/shrike/io/Pages", "contentLength", "(J)J"⟩ : MethodName)) hown (mvT hZ (hw _ (List.mem_of_getElem? (i := 5) rfl))) (mvT hZ (hw _ (List.mem_of_getElem? (i := 6) rfl))) (mvT hZ (hw _ (List.mem_of_getElem? (i := 7) rfl))) (mvT hZ (hw _ (List.mem_of_getElem? (i := 8) rfl))) (by decide) (backOf (W := 0) (rm_cl l Z a0 hw [] bb h0 n0 Z0) hZ (hw _ (List.mem_of_getElem? (i := 8) rfl)) (hw _ (List.mem_of_getElem? (i := 7) rfl)) (by decide) (by decide)) (g := (mkF m 70 #[.val (.long p0), .second, .val (.long p1), .second, .val (.int (1 : Int32)), .val (.long bb), .second, .val (.long (bb / (4096 : Int64))), .second, .val (.long (bb - (bb / (4096 : Int64)) * (4096 : Int64))), .second, .val (.long ((((bb / (4096 : Int64)) * (4092 : Int64)) + (bb - (bb / (4096 : Int64)) * (4096 : Int64))) - (4 : Int64))), .second, .unset, .unset, .unset] [(.long bb)])) rfl (by rw [hml]; rfl) (argsL := [(.long bb)]) (rest := []) (lenOf own_pd__28_J_29_J rfl) rfl (by show 2 * 0 + _ ≤ _; exact Nat.le_of_eq rfl) (hb hby at_70) (fun _ _ => ⟨rfl, e0, (by decide : 0 + 0 ≤ _), (by decide : 0 + 0 ≤ _)⟩)
      dsimp only [Pt.U, Pt.locs, Pt.cells, Pt.slots] at X6 l6 y6 z6 st6 hQ6
      subst l6 y6 z6
      obtain ⟨rfl, Nq6, e6⟩ := hQ6
      have N6 := Fr.app N0 Nq6
      refine own_Goes.st ?_ st6
      show own_Goes p.tables e below P (T6.setTop (mkF m 73 #[.val (.long p0), .second, .val (.long p1), .second, .val (.int (1 : Int32)), .val (.long bb), .second, .val (.long (bb / (4096 : Int64))), .second, .val (.long (bb - (bb / (4096 : Int64)) * (4096 : Int64))), .second, .val (.long ((((bb / (4096 : Int64)) * (4092 : Int64)) + (bb - (bb / (4096 : Int64)) * (4096 : Int64))) - (4 : Int64))), .second, .unset, .unset, .unset] [(.long (own_cl bb))]))
      refine own_Goes.st ?_ (fun _ k => XS.lload X6.here hx rfl (hb hby at_73) rfl k)
      show own_Goes p.tables e below P (T6.setTop (mkF m 75 #[.val (.long p0), .second, .val (.long p1), .second, .val (.int (1 : Int32)), .val (.long bb), .second, .val (.long (bb / (4096 : Int64))), .second, .val (.long (bb - (bb / (4096 : Int64)) * (4096 : Int64))), .second, .val (.long ((((bb / (4096 : Int64)) * (4092 : Int64)) + (bb - (bb / (4096 : Int64)) * (4096 : Int64))) - (4 : Int64))), .second, .unset, .unset, .unset] [(.long ((((bb / (4096 : Int64)) * (4092 : Int64)) + (bb - (bb / (4096 : Int64)) * (4096 : Int64))) - (4 : Int64))), (.long (own_cl bb))]))
      refine own_Goes.st ?_ (fun _ k => XS.lcmp X6.here hx rfl (hb hby at_75) rfl k)
      show own_Goes p.tables e below P (T6.setTop (mkF m 76 #[.val (.long p0), .second, .val (.long p1), .second, .val (.int (1 : Int32)), .val (.long bb), .second, .val (.long (bb / (4096 : Int64))), .second, .val (.long (bb - (bb / (4096 : Int64)) * (4096 : Int64))), .second, .val (.long ((((bb / (4096 : Int64)) * (4092 : Int64)) + (bb - (bb / (4096 : Int64)) * (4096 : Int64))) - (4 : Int64))), .second, .unset, .unset, .unset] [(.int (lcmpW (own_cl bb) ((((bb / (4096 : Int64)) * (4092 : Int64)) + (bb - (bb / (4096 : Int64)) * (4096 : Int64))) - (4 : Int64))))]))
      refine own_Goes.st ?_ (fun _ k => XS.ifNo X6.here hx rfl (hb hby at_76) rfl ((if0 _ _).trans (teq ((lw_eq _ _).mpr (own_first1 hbb.symm h1 hr))).2) k)
      show own_Goes p.tables e below P (T6.setTop (mkF m 79 #[.val (.long p0), .second, .val (.long p1), .second, .val (.int (1 : Int32)), .val (.long bb), .second, .val (.long (bb / (4096 : Int64))), .second, .val (.long (bb - (bb / (4096 : Int64)) * (4096 : Int64))), .second, .val (.long ((((bb / (4096 : Int64)) * (4092 : Int64)) + (bb - (bb / (4096 : Int64)) * (4096 : Int64))) - (4 : Int64))), .second, .unset, .unset, .unset] []))
      refine own_Goes.st ?_ (fun _ k => XS.iconst X6.here hx rfl (hb hby at_79) k)
      show own_Goes p.tables e below P (T6.setTop (mkF m 80 #[.val (.long p0), .second, .val (.long p1), .second, .val (.int (1 : Int32)), .val (.long bb), .second, .val (.long (bb / (4096 : Int64))), .second, .val (.long (bb - (bb / (4096 : Int64)) * (4096 : Int64))), .second, .val (.long ((((bb / (4096 : Int64)) * (4092 : Int64)) + (bb - (bb / (4096 : Int64)) * (4096 : Int64))) - (4 : Int64))), .second, .unset, .unset, .unset] [(.int (1 : Int32))]))
      refine own_Goes.st ?_ (fun _ k => XS.goto X6.here hx rfl (pc0 := 80) (pc' := 84) rfl (hb hby at_80) (by decide) (by decide) k)
      show own_Goes p.tables e below P (T6.setTop (mkF m 84 #[.val (.long p0), .second, .val (.long p1), .second, .val (.int (1 : Int32)), .val (.long bb), .second, .val (.long (bb / (4096 : Int64))), .second, .val (.long (bb - (bb / (4096 : Int64)) * (4096 : Int64))), .second, .val (.long ((((bb / (4096 : Int64)) * (4092 : Int64)) + (bb - (bb / (4096 : Int64)) * (4096 : Int64))) - (4 : Int64))), .second, .unset, .unset, .unset] [(.int (1 : Int32))]))
      refine own_Goes.st ?_ (fun _ k => XS.istore X6.here hx rfl (hb hby at_84) rfl (l' := #[.val (.long p0), .second, .val (.long p1), .second, .val (.int (1 : Int32)), .val (.long bb), .second, .val (.long (bb / (4096 : Int64))), .second, .val (.long (bb - (bb / (4096 : Int64)) * (4096 : Int64))), .second, .val (.long ((((bb / (4096 : Int64)) * (4092 : Int64)) + (bb - (bb / (4096 : Int64)) * (4096 : Int64))) - (4 : Int64))), .second, .unset, .unset, .unset]) rfl k)
      show own_Goes p.tables e below P (T6.setTop (mkF m 86 #[.val (.long p0), .second, .val (.long p1), .second, .val (.int (1 : Int32)), .val (.long bb), .second, .val (.long (bb / (4096 : Int64))), .second, .val (.long (bb - (bb / (4096 : Int64)) * (4096 : Int64))), .second, .val (.long ((((bb / (4096 : Int64)) * (4092 : Int64)) + (bb - (bb / (4096 : Int64)) * (4096 : Int64))) - (4 : Int64))), .second, .unset, .unset, .unset] []))
      refine own_Goes.st ?_ (fun _ k => XS.lloadN X6.here hx rfl (hb hby at_86) rfl k)
      show own_Goes p.tables e below P (T6.setTop (mkF m 87 #[.val (.long p0), .second, .val (.long p1), .second, .val (.int (1 : Int32)), .val (.long bb), .second, .val (.long (bb / (4096 : Int64))), .second, .val (.long (bb - (bb / (4096 : Int64)) * (4096 : Int64))), .second, .val (.long ((((bb / (4096 : Int64)) * (4092 : Int64)) + (bb - (bb / (4096 : Int64)) * (4096 : Int64))) - (4 : Int64))), .second, .unset, .unset, .unset] [(.long p1)]))
      refine own_Goes.st ?_ (X6.ldc2Long hx hown (mvT hZ (hw _ (List.mem_of_getElem? (i := 11) rfl))) (g := (mkF m 87 #[.val (.long p0), .second, .val (.long p1), .second, .val (.int (1 : Int32)), .val (.long bb), .second, .val (.long (bb / (4096 : Int64))), .second, .val (.long (bb - (bb / (4096 : Int64)) * (4096 : Int64))), .second, .val (.long ((((bb / (4096 : Int64)) * (4092 : Int64)) + (bb - (bb / (4096 : Int64)) * (4096 : Int64))) - (4 : Int64))), .second, .unset, .unset, .unset] [(.long p1)])) rfl (hb hby at_87))
      show own_Goes p.tables e below P (T6.setTop (mkF m 90 #[.val (.long p0), .second, .val (.long p1), .second, .val (.int (1 : Int32)), .val (.long bb), .second, .val (.long (bb / (4096 : Int64))), .second, .val (.long (bb - (bb / (4096 : Int64)) * (4096 : Int64))), .second, .val (.long ((((bb / (4096 : Int64)) * (4092 : Int64)) + (bb - (bb / (4096 : Int64)) * (4096 : Int64))) - (4 : Int64))), .second, .unset, .unset, .unset] [(.long (4611686018427387903 : Int64)), (.long p1)]))
      refine own_Goes.st ?_ (fun _ k => XS.land X6.here hx rfl (hb hby at_90) rfl k)
      show own_Goes p.tables e below P (T6.setTop (mkF m 91 #[.val (.long p0), .second, .val (.long p1), .second, .val (.int (1 : Int32)), .val (.long bb), .second, .val (.long (bb / (4096 : Int64))), .second, .val (.long (bb - (bb / (4096 : Int64)) * (4096 : Int64))), .second, .val (.long ((((bb / (4096 : Int64)) * (4092 : Int64)) + (bb - (bb / (4096 : Int64)) * (4096 : Int64))) - (4 : Int64))), .second, .unset, .unset, .unset] [(.long (p1 &&& (4611686018427387903 : Int64)))]))
      refine own_Goes.st ?_ (fun _ k => XS.lstore X6.here hx rfl (hb hby at_91) rfl (l' := #[.val (.long p0), .second, .val (.long p1), .second, .val (.int (1 : Int32)), .val (.long bb), .second, .val (.long (p1 &&& (4611686018427387903 : Int64))), .second, .val (.long (bb - (bb / (4096 : Int64)) * (4096 : Int64))), .second, .val (.long ((((bb / (4096 : Int64)) * (4092 : Int64)) + (bb - (bb / (4096 : Int64)) * (4096 : Int64))) - (4 : Int64))), .second, .unset, .unset, .unset]) rfl k)
      show own_Goes p.tables e below P (T6.setTop (mkF m 93 #[.val (.long p0), .second, .val (.long p1), .second, .val (.int (1 : Int32)), .val (.long bb), .second, .val (.long (p1 &&& (4611686018427387903 : Int64))), .second, .val (.long (bb - (bb / (4096 : Int64)) * (4096 : Int64))), .second, .val (.long ((((bb / (4096 : Int64)) * (4092 : Int64)) + (bb - (bb / (4096 : Int64)) * (4096 : Int64))) - (4 : Int64))), .second, .unset, .unset, .unset] []))
      generalize hcc : (p1 &&& (4611686018427387903 : Int64)) = cc
      show own_Goes p.tables e below P (T6.setTop (mkF m 93 #[.val (.long p0), .second, .val (.long p1), .second, .val (.int (1 : Int32)), .val (.long bb), .second, .val (.long cc), .second, .val (.long (bb - (bb / (4096 : Int64)) * (4096 : Int64))), .second, .val (.long ((((bb / (4096 : Int64)) * (4092 : Int64)) + (bb - (bb / (4096 : Int64)) * (4096 : Int64))) - (4 : Int64))), .second, .unset, .unset, .unset] []))
      refine own_Goes.st ?_ (fun _ k => XS.lload X6.here hx rfl (hb hby at_93) rfl k)
      show own_Goes p.tables e below P (T6.setTop (mkF m 95 #[.val (.long p0), .second, .val (.long p1), .second, .val (.int (1 : Int32)), .val (.long bb), .second, .val (.long cc), .second, .val (.long (bb - (bb / (4096 : Int64)) * (4096 : Int64))), .second, .val (.long ((((bb / (4096 : Int64)) * (4092 : Int64)) + (bb - (bb / (4096 : Int64)) * (4096 : Int64))) - (4 : Int64))), .second, .unset, .unset, .unset] [(.long cc)]))
      refine own_Goes.st ?_ (X6.ldc2Long hx hown (mvT hZ (hw _ (List.mem_of_getElem? (i := 3) rfl))) (g := (mkF m 95 #[.val (.long p0), .second, .val (.long p1), .second, .val (.int (1 : Int32)), .val (.long bb), .second, .val (.long cc), .second, .val (.long (bb - (bb / (4096 : Int64)) * (4096 : Int64))), .second, .val (.long ((((bb / (4096 : Int64)) * (4092 : Int64)) + (bb - (bb / (4096 : Int64)) * (4096 : Int64))) - (4 : Int64))), .second, .unset, .unset, .unset] [(.long cc)])) rfl (hb hby at_95))
      show own_Goes p.tables e below P (T6.setTop (mkF m 98 #[.val (.long p0), .second, .val (.long p1), .second, .val (.int (1 : Int32)), .val (.long bb), .second, .val (.long cc), .second, .val (.long (bb - (bb / (4096 : Int64)) * (4096 : Int64))), .second, .val (.long ((((bb / (4096 : Int64)) * (4092 : Int64)) + (bb - (bb / (4096 : Int64)) * (4096 : Int64))) - (4 : Int64))), .second, .unset, .unset, .unset] [(.long (4092 : Int64)), (.long cc)]))
      refine own_Goes.st ?_ (fun _ k => XS.ldiv X6.here hx rfl (hb hby at_98) rfl (by decide) k)
      show own_Goes p.tables e below P (T6.setTop (mkF m 99 #[.val (.long p0), .second, .val (.long p1), .second, .val (.int (1 : Int32)), .val (.long bb), .second, .val (.long cc), .second, .val (.long (bb - (bb / (4096 : Int64)) * (4096 : Int64))), .second, .val (.long ((((bb / (4096 : Int64)) * (4092 : Int64)) + (bb - (bb / (4096 : Int64)) * (4096 : Int64))) - (4 : Int64))), .second, .unset, .unset, .unset] [(.long (cc / (4092 : Int64)))]))
      refine own_Goes.st ?_ (fun _ k => XS.lstore X6.here hx rfl (hb hby at_99) rfl (l' := #[.val (.long p0), .second, .val (.long p1), .second, .val (.int (1 : Int32)), .val (.long bb), .second, .val (.long cc), .second, .val (.long (cc / (4092 : Int64))), .second, .val (.long ((((bb / (4096 : Int64)) * (4092 : Int64)) + (bb - (bb / (4096 : Int64)) * (4096 : Int64))) - (4 : Int64))), .second, .unset, .unset, .unset]) rfl k)
      show own_Goes p.tables e below P (T6.setTop (mkF m 101 #[.val (.long p0), .second, .val (.long p1), .second, .val (.int (1 : Int32)), .val (.long bb), .second, .val (.long cc), .second, .val (.long (cc / (4092 : Int64))), .second, .val (.long ((((bb / (4096 : Int64)) * (4092 : Int64)) + (bb - (bb / (4096 : Int64)) * (4096 : Int64))) - (4 : Int64))), .second, .unset, .unset, .unset] []))
      refine own_Goes.st ?_ (fun _ k => XS.lload X6.here hx rfl (hb hby at_101) rfl k)
      show own_Goes p.tables e below P (T6.setTop (mkF m 103 #[.val (.long p0), .second, .val (.long p1), .second, .val (.int (1 : Int32)), .val (.long bb), .second, .val (.long cc), .second, .val (.long (cc / (4092 : Int64))), .second, .val (.long ((((bb / (4096 : Int64)) * (4092 : Int64)) + (bb - (bb / (4096 : Int64)) * (4096 : Int64))) - (4 : Int64))), .second, .unset, .unset, .unset] [(.long cc)]))
      refine own_Goes.st ?_ (X6.ldc2Long hx hown (mvT hZ (hw _ (List.mem_of_getElem? (i := 3) rfl))) (g := (mkF m 103 #[.val (.long p0), .second, .val (.long p1), .second, .val (.int (1 : Int32)), .val (.long bb), .second, .val (.long cc), .second, .val (.long (cc / (4092 : Int64))), .second, .val (.long ((((bb / (4096 : Int64)) * (4092 : Int64)) + (bb - (bb / (4096 : Int64)) * (4096 : Int64))) - (4 : Int64))), .second, .unset, .unset, .unset] [(.long cc)])) rfl (hb hby at_103))
      show own_Goes p.tables e below P (T6.setTop (mkF m 106 #[.val (.long p0), .second, .val (.long p1), .second, .val (.int (1 : Int32)), .val (.long bb), .second, .val (.long cc), .second, .val (.long (cc / (4092 : Int64))), .second, .val (.long ((((bb / (4096 : Int64)) * (4092 : Int64)) + (bb - (bb / (4096 : Int64)) * (4096 : Int64))) - (4 : Int64))), .second, .unset, .unset, .unset] [(.long (4092 : Int64)), (.long cc)]))
      refine own_Goes.st ?_ (fun _ k => XS.lrem X6.here hx rfl (hb hby at_106) rfl (by decide) k)
      show own_Goes p.tables e below P (T6.setTop (mkF m 107 #[.val (.long p0), .second, .val (.long p1), .second, .val (.int (1 : Int32)), .val (.long bb), .second, .val (.long cc), .second, .val (.long (cc / (4092 : Int64))), .second, .val (.long ((((bb / (4096 : Int64)) * (4092 : Int64)) + (bb - (bb / (4096 : Int64)) * (4096 : Int64))) - (4 : Int64))), .second, .unset, .unset, .unset] [(.long (cc - (cc / (4092 : Int64)) * (4092 : Int64)))]))
      refine own_Goes.st ?_ (fun _ k => XS.lstore X6.here hx rfl (hb hby at_107) rfl (l' := #[.val (.long p0), .second, .val (.long p1), .second, .val (.int (1 : Int32)), .val (.long bb), .second, .val (.long cc), .second, .val (.long (cc / (4092 : Int64))), .second, .val (.long (cc - (cc / (4092 : Int64)) * (4092 : Int64))), .second, .unset, .unset, .unset]) rfl k)
      show own_Goes p.tables e below P (T6.setTop (mkF m 109 #[.val (.long p0), .second, .val (.long p1), .second, .val (.int (1 : Int32)), .val (.long bb), .second, .val (.long cc), .second, .val (.long (cc / (4092 : Int64))), .second, .val (.long (cc - (cc / (4092 : Int64)) * (4092 : Int64))), .second, .unset, .unset, .unset] []))
      refine own_Goes.st ?_ (fun _ k => XS.lload X6.here hx rfl (hb hby at_109) rfl k)
      show own_Goes p.tables e below P (T6.setTop (mkF m 111 #[.val (.long p0), .second, .val (.long p1), .second, .val (.int (1 : Int32)), .val (.long bb), .second, .val (.long cc), .second, .val (.long (cc / (4092 : Int64))), .second, .val (.long (cc - (cc / (4092 : Int64)) * (4092 : Int64))), .second, .unset, .unset, .unset] [(.long (cc - (cc / (4092 : Int64)) * (4092 : Int64)))]))
      refine own_Goes.st ?_ (fun _ k => XS.lconst X6.here hx rfl (hb hby at_111) k)
      show own_Goes p.tables e below P (T6.setTop (mkF m 112 #[.val (.long p0), .second, .val (.long p1), .second, .val (.int (1 : Int32)), .val (.long bb), .second, .val (.long cc), .second, .val (.long (cc / (4092 : Int64))), .second, .val (.long (cc - (cc / (4092 : Int64)) * (4092 : Int64))), .second, .unset, .unset, .unset] [(.long (0 : Int64)), (.long (cc - (cc / (4092 : Int64)) * (4092 : Int64)))]))
      refine own_Goes.st ?_ (fun _ k => XS.lcmp X6.here hx rfl (hb hby at_112) rfl k)
      show own_Goes p.tables e below P (T6.setTop (mkF m 113 #[.val (.long p0), .second, .val (.long p1), .second, .val (.int (1 : Int32)), .val (.long bb), .second, .val (.long cc), .second, .val (.long (cc / (4092 : Int64))), .second, .val (.long (cc - (cc / (4092 : Int64)) * (4092 : Int64))), .second, .unset, .unset, .unset] [(.int (lcmpW (cc - (cc / (4092 : Int64)) * (4092 : Int64)) (0 : Int64)))]))
      by_cases hr2 : (cc - (cc / (4092 : Int64)) * (4092 : Int64)) = (0 : Int64)
      · skip
        refine own_Goes.st ?_ (fun _ k => XS.ifNo X6.here hx rfl (hb hby at_113) rfl ((if0 _ _).trans (teq ((lw_eq _ _).mpr hr2)).2) k)
        show own_Goes p.tables e below P (T6.setTop (mkF m 116 #[.val (.long p0), .second, .val (.long p1), .second, .val (.int (1 : Int32)), .val (.long bb), .second, .val (.long cc), .second, .val (.long (cc / (4092 : Int64))), .second, .val (.long (cc - (cc / (4092 : Int64)) * (4092 : Int64))), .second, .unset, .unset, .unset] []))
        refine own_Goes.st ?_ (fun _ k => XS.lload X6.here hx rfl (hb hby at_116) rfl k)
        show own_Goes p.tables e below P (T6.setTop (mkF m 118 #[.val (.long p0), .second, .val (.long p1), .second, .val (.int (1 : Int32)), .val (.long bb), .second, .val (.long cc), .second, .val (.long (cc / (4092 : Int64))), .second, .val (.long (cc - (cc / (4092 : Int64)) * (4092 : Int64))), .second, .unset, .unset, .unset] [(.long (cc / (4092 : Int64)))]))
        refine own_Goes.st ?_ (X6.ldc2Long hx hown (mvT hZ (hw _ (List.mem_of_getElem? (i := 2) rfl))) (g := (mkF m 118 #[.val (.long p0), .second, .val (.long p1), .second, .val (.int (1 : Int32)), .val (.long bb), .second, .val (.long cc), .second, .val (.long (cc / (4092 : Int64))), .second, .val (.long (cc - (cc / (4092 : Int64)) * (4092 : Int64))), .second, .unset, .unset, .unset] [(.long (cc / (4092 : Int64)))])) rfl (hb hby at_118))
        show own_Goes p.tables e below P (T6.setTop (mkF m 121 #[.val (.long p0), .second, .val (.long p1), .second, .val (.int (1 : Int32)), .val (.long bb), .second, .val (.long cc), .second, .val (.long (cc / (4092 : Int64))), .second, .val (.long (cc - (cc / (4092 : Int64)) * (4092 : Int64))), .second, .unset, .unset, .unset] [(.long (4096 : Int64)), (.long (cc / (4092 : Int64)))]))
        refine own_Goes.st ?_ (fun _ k => XS.lmul X6.here hx rfl (hb hby at_121) rfl k)
        show own_Goes p.tables e below P (T6.setTop (mkF m 122 #[.val (.long p0), .second, .val (.long p1), .second, .val (.int (1 : Int32)), .val (.long bb), .second, .val (.long cc), .second, .val (.long (cc / (4092 : Int64))), .second, .val (.long (cc - (cc / (4092 : Int64)) * (4092 : Int64))), .second, .unset, .unset, .unset] [(.long ((cc / (4092 : Int64)) * (4096 : Int64)))]))
        refine own_Goes.st ?_ (fun _ k => XS.lstore X6.here hx rfl (hb hby at_122) rfl (l' := #[.val (.long p0), .second, .val (.long p1), .second, .val (.int (1 : Int32)), .val (.long bb), .second, .val (.long cc), .second, .val (.long (cc / (4092 : Int64))), .second, .val (.long (cc - (cc / (4092 : Int64)) * (4092 : Int64))), .second, .val (.long ((cc / (4092 : Int64)) * (4096 : Int64))), .second, .unset]) rfl k)
        show own_Goes p.tables e below P (T6.setTop (mkF m 124 #[.val (.long p0), .second, .val (.long p1), .second, .val (.int (1 : Int32)), .val (.long bb), .second, .val (.long cc), .second, .val (.long (cc / (4092 : Int64))), .second, .val (.long (cc - (cc / (4092 : Int64)) * (4092 : Int64))), .second, .val (.long ((cc / (4092 : Int64)) * (4096 : Int64))), .second, .unset] []))
        refine own_Goes.st ?_ (fun _ k => XS.goto X6.here hx rfl (pc0 := 124) (pc' := 142) rfl (hb hby at_124) (by decide) (by decide) k)
        show own_Goes p.tables e below P (T6.setTop (mkF m 142 #[.val (.long p0), .second, .val (.long p1), .second, .val (.int (1 : Int32)), .val (.long bb), .second, .val (.long cc), .second, .val (.long (cc / (4092 : Int64))), .second, .val (.long (cc - (cc / (4092 : Int64)) * (4092 : Int64))), .second, .val (.long ((cc / (4092 : Int64)) * (4096 : Int64))), .second, .unset] []))
        refine own_Goes.st ?_ (fun _ k => XS.lload X6.here hx rfl (hb hby at_142) rfl k)
        show own_Goes p.tables e below P (T6.setTop (mkF m 144 #[.val (.long p0), .second, .val (.long p1), .second, .val (.int (1 : Int32)), .val (.long bb), .second, .val (.long cc), .second, .val (.long (cc / (4092 : Int64))), .second, .val (.long (cc - (cc / (4092 : Int64)) * (4092 : Int64))), .second, .val (.long ((cc / (4092 : Int64)) * (4096 : Int64))), .second, .unset] [(.long ((cc / (4092 : Int64)) * (4096 : Int64)))]))
        obtain ⟨_, _, ⟨T7, L7, k7, n7⟩, -, X7, ⟨Lc7, hQ7, l7, y7, z7⟩, st7⟩ := Jvm.LawKit.callS X6 hx (y := (⟨"com/example/shrike/shrike/io/Pages", "contentLength", "(J)J"⟩ : MethodName)) hown (mvT hZ (hw _ (List.mem_of_getElem? (i := 5) rfl))) (mvT hZ (hw _ (List.mem_of_getElem? (i := 6) rfl))) (mvT hZ (hw _ (List.mem_of_getElem? (i := 7) rfl))) (mvT hZ (hw _ (List.mem_of_getElem? (i := 8) rfl))) (by decide) (backOf (W := 0) (rm_cl l Z a0 hw [] ((cc / (4092 : Int64)) * (4096 : Int64)) h0 n0 Z0) hZ (hw _ (List.mem_of_getElem? (i := 8) rfl)) (hw _ (List.mem_of_getElem? (i := 7) rfl)) (by decide) (by decide)) (g := (mkF m 144 #[.val (.long p0), .second, .val (.long p1), .second, .val (.int (1 : Int32)), .val (.long bb), .second, .val (.long cc), .second, .val (.long (cc / (4092 : Int64))), .second, .val (.long (cc - (cc / (4092 : Int64)) * (4092 : Int64))), .second, .val (.long ((cc / (4092 : Int64)) * (4096 : Int64))), .second, .unset] [(.long ((cc / (4092 : Int64)) * (4096 : Int64)))])) rfl (by rw [hml]; rfl) (argsL := [(.long ((cc / (4092 : Int64)) * (4096 : Int64)))]) (rest := []) (lenOf own_pd__28_J_29_J rfl) rfl (by show 2 * 0 + _ ≤ _; exact Nat.le_of_eq rfl) (hb hby at_144) (fun _ _ => ⟨rfl, e6, (by decide : 0 + 0 ≤ _), (by decide : 0 + 0 ≤ _)⟩)
        dsimp only [Pt.U, Pt.locs, Pt.cells, Pt.slots] at X7 l7 y7 z7 st7 hQ7
        subst l7 y7 z7
        obtain ⟨rfl, Nq7, e7⟩ := hQ7
        have N7 := Fr.app N6 Nq7
        refine own_Goes.st ?_ st7
        show own_Goes p.tables e below P (T7.setTop (mkF m 147 #[.val (.long p0), .second, .val (.long p1), .second, .val (.int (1 : Int32)), .val (.long bb), .second, .val (.long cc), .second, .val (.long (cc / (4092 : Int64))), .second, .val (.long (cc - (cc / (4092 : Int64)) * (4092 : Int64))), .second, .val (.long ((cc / (4092 : Int64)) * (4096 : Int64))), .second, .unset] [(.long (own_cl ((cc / (4092 : Int64)) * (4096 : Int64))))]))
        refine own_Goes.st ?_ (fun _ k => XS.lload X7.here hx rfl (hb hby at_147) rfl k)
        show own_Goes p.tables e below P (T7.setTop (mkF m 149 #[.val (.long p0), .second, .val (.long p1), .second, .val (.int (1 : Int32)), .val (.long bb), .second, .val (.long cc), .second, .val (.long (cc / (4092 : Int64))), .second, .val (.long (cc - (cc / (4092 : Int64)) * (4092 : Int64))), .second, .val (.long ((cc / (4092 : Int64)) * (4096 : Int64))), .second, .unset] [(.long cc), (.long (own_cl ((cc / (4092 : Int64)) * (4096 : Int64))))]))
        refine own_Goes.st ?_ (fun _ k => XS.lcmp X7.here hx rfl (hb hby at_149) rfl k)
        show own_Goes p.tables e below P (T7.setTop (mkF m 150 #[.val (.long p0), .second, .val (.long p1), .second, .val (.int (1 : Int32)), .val (.long bb), .second, .val (.long cc), .second, .val (.long (cc / (4092 : Int64))), .second, .val (.long (cc - (cc / (4092 : Int64)) * (4092 : Int64))), .second, .val (.long ((cc / (4092 : Int64)) * (4096 : Int64))), .second, .unset] [(.int (lcmpW (own_cl ((cc / (4092 : Int64)) * (4096 : Int64))) cc))]))
        refine own_Goes.st ?_ (fun _ k => XS.ifNo X7.here hx rfl (hb hby at_150) rfl ((if0 _ _).trans (teq ((lw_eq _ _).mpr (own_second0 hcc.symm hr2))).2) k)
        show own_Goes p.tables e below P (T7.setTop (mkF m 153 #[.val (.long p0), .second, .val (.long p1), .second, .val (.int (1 : Int32)), .val (.long bb), .second, .val (.long cc), .second, .val (.long (cc / (4092 : Int64))), .second, .val (.long (cc - (cc / (4092 : Int64)) * (4092 : Int64))), .second, .val (.long ((cc / (4092 : Int64)) * (4096 : Int64))), .second, .unset] []))
        refine own_Goes.st ?_ (fun _ k => XS.iconst X7.here hx rfl (hb hby at_153) k)
        show own_Goes p.tables e below P (T7.setTop (mkF m 154 #[.val (.long p0), .second, .val (.long p1), .second, .val (.int (1 : Int32)), .val (.long bb), .second, .val (.long cc), .second, .val (.long (cc / (4092 : Int64))), .second, .val (.long (cc - (cc / (4092 : Int64)) * (4092 : Int64))), .second, .val (.long ((cc / (4092 : Int64)) * (4096 : Int64))), .second, .unset] [(.int (1 : Int32))]))
        refine own_Goes.st ?_ (fun _ k => XS.goto X7.here hx rfl (pc0 := 154) (pc' := 158) rfl (hb hby at_154) (by decide) (by decide) k)
        show own_Goes p.tables e below P (T7.setTop (mkF m 158 #[.val (.long p0), .second, .val (.long p1), .second, .val (.int (1 : Int32)), .val (.long bb), .second, .val (.long cc), .second, .val (.long (cc / (4092 : Int64))), .second, .val (.long (cc - (cc / (4092 : Int64)) * (4092 : Int64))), .second, .val (.long ((cc / (4092 : Int64)) * (4096 : Int64))), .second, .unset] [(.int (1 : Int32))]))
        refine own_Goes.st ?_ (fun _ k => XS.istore X7.here hx rfl (hb hby at_158) rfl (l' := #[.val (.long p0), .second, .val (.long p1), .second, .val (.int (1 : Int32)), .val (.long bb), .second, .val (.long cc), .second, .val (.long (cc / (4092 : Int64))), .second, .val (.long (cc - (cc / (4092 : Int64)) * (4092 : Int64))), .second, .val (.long ((cc / (4092 : Int64)) * (4096 : Int64))), .second, .val (.int (1 : Int32))]) rfl k)
        show own_Goes p.tables e below P (T7.setTop (mkF m 160 #[.val (.long p0), .second, .val (.long p1), .second, .val (.int (1 : Int32)), .val (.long bb), .second, .val (.long cc), .second, .val (.long (cc / (4092 : Int64))), .second, .val (.long (cc - (cc / (4092 : Int64)) * (4092 : Int64))), .second, .val (.long ((cc / (4092 : Int64)) * (4096 : Int64))), .second, .val (.int (1 : Int32))] []))
        refine own_Goes.st ?_ (fun _ k => XS.iload X7.here hx rfl (hb hby at_160) rfl k)
        show own_Goes p.tables e below P (T7.setTop (mkF m 162 #[.val (.long p0), .second, .val (.long p1), .second, .val (.int (1 : Int32)), .val (.long bb), .second, .val (.long cc), .second, .val (.long (cc / (4092 : Int64))), .second, .val (.long (cc - (cc / (4092 : Int64)) * (4092 : Int64))), .second, .val (.long ((cc / (4092 : Int64)) * (4096 : Int64))), .second, .val (.int (1 : Int32))] [(.int (1 : Int32))]))
        refine own_Goes.st ?_ (fun _ k => XS.ifNo X7.here hx rfl (hb hby at_162) rfl ((if0 _ _).trans (feq (by decide : ¬ ((1 : Int32) = (0 : Int32)))).1) k)
        show own_Goes p.tables e below P (T7.setTop (mkF m 165 #[.val (.long p0), .second, .val (.long p1), .second, .val (.int (1 : Int32)), .val (.long bb), .second, .val (.long cc), .second, .val (.long (cc / (4092 : Int64))), .second, .val (.long (cc - (cc / (4092 : Int64)) * (4092 : Int64))), .second, .val (.long ((cc / (4092 : Int64)) * (4096 : Int64))), .second, .val (.int (1 : Int32))] []))
        refine own_Goes.st ?_ (fun _ k => XS.iload X7.here hx rfl (hb hby at_165) rfl k)
        show own_Goes p.tables e below P (T7.setTop (mkF m 167 #[.val (.long p0), .second, .val (.long p1), .second, .val (.int (1 : Int32)), .val (.long bb), .second, .val (.long cc), .second, .val (.long (cc / (4092 : Int64))), .second, .val (.long (cc - (cc / (4092 : Int64)) * (4092 : Int64))), .second, .val (.long ((cc / (4092 : Int64)) * (4096 : Int64))), .second, .val (.int (1 : Int32))] [(.int (1 : Int32))]))
        refine own_Goes.st ?_ (fun _ k => XS.ifNo X7.here hx rfl (hb hby at_167) rfl ((if0 _ _).trans (feq (by decide : ¬ ((1 : Int32) = (0 : Int32)))).1) k)
        show own_Goes p.tables e below P (T7.setTop (mkF m 170 #[.val (.long p0), .second, .val (.long p1), .second, .val (.int (1 : Int32)), .val (.long bb), .second, .val (.long cc), .second, .val (.long (cc / (4092 : Int64))), .second, .val (.long (cc - (cc / (4092 : Int64)) * (4092 : Int64))), .second, .val (.long ((cc / (4092 : Int64)) * (4096 : Int64))), .second, .val (.int (1 : Int32))] []))
        refine own_Goes.st ?_ (fun _ k => XS.iconst X7.here hx rfl (hb hby at_170) k)
        show own_Goes p.tables e below P (T7.setTop (mkF m 171 #[.val (.long p0), .second, .val (.long p1), .second, .val (.int (1 : Int32)), .val (.long bb), .second, .val (.long cc), .second, .val (.long (cc / (4092 : Int64))), .second, .val (.long (cc - (cc / (4092 : Int64)) * (4092 : Int64))), .second, .val (.long ((cc / (4092 : Int64)) * (4096 : Int64))), .second, .val (.int (1 : Int32))] [(.int (1 : Int32))]))
        refine own_Goes.st ?_ (fun _ k => XS.goto X7.here hx rfl (pc0 := 171) (pc' := 175) rfl (hb hby at_171) (by decide) (by decide) k)
        show own_Goes p.tables e below P (T7.setTop (mkF m 175 #[.val (.long p0), .second, .val (.long p1), .second, .val (.int (1 : Int32)), .val (.long bb), .second, .val (.long cc), .second, .val (.long (cc / (4092 : Int64))), .second, .val (.long (cc - (cc / (4092 : Int64)) * (4092 : Int64))), .second, .val (.long ((cc / (4092 : Int64)) * (4096 : Int64))), .second, .val (.int (1 : Int32))] [(.int (1 : Int32))]))
        obtain ⟨fs, hr, hrun, hended, hW, hsame⟩ := X7.leave (v := some (.int (1 : Int32))) (fun h => by rw [Bd.returns] at h; cases h)
        exact own_Goes.fin _ _ (retOut X7 hx (t := .boolean) Bd.returns rfl (Or.inl ⟨rfl, Or.inr (Or.inl rfl), _, rfl⟩) (hb hby at_175) hr) (hPP _ _ ⟨hrun, hended, _, _, rfl, (by show Q_law n0 _ _; exact ⟨rfl, N7⟩), ⟨_, rfl⟩, hW, hsame.mono (by decide) (by decide)⟩)
      · skip
        refine own_Goes.st ?_ (fun _ k => XS.ifYes X6.here hx rfl (pc0 := 113) (pc' := 127) rfl (hb hby at_113) rfl ((if0 _ _).trans (feq (fun q => hr2 ((lw_eq _ _).mp q))).2) (by decide) (by decide) k)
        show own_Goes p.tables e below P (T6.setTop (mkF m 127 #[.val (.long p0), .second, .val (.long p1), .second, .val (.int (1 : Int32)), .val (.long bb), .second, .val (.long cc), .second, .val (.long (cc / (4092 : Int64))), .second, .val (.long (cc - (cc / (4092 : Int64)) * (4092 : Int64))), .second, .unset, .unset, .unset] []))
        refine own_Goes.st ?_ (fun _ k => XS.lload X6.here hx rfl (hb hby at_127) rfl k)
        show own_Goes p.tables e below P (T6.setTop (mkF m 129 #[.val (.long p0), .second, .val (.long p1), .second, .val (.int (1 : Int32)), .val (.long bb), .second, .val (.long cc), .second, .val (.long (cc / (4092 : Int64))), .second, .val (.long (cc - (cc / (4092 : Int64)) * (4092 : Int64))), .second, .unset, .unset, .unset] [(.long (cc / (4092 : Int64)))]))
        refine own_Goes.st ?_ (X6.ldc2Long hx hown (mvT hZ (hw _ (List.mem_of_getElem? (i := 2) rfl))) (g := (mkF m 129 #[.val (.long p0), .second, .val (.long p1), .second, .val (.int (1 : Int32)), .val (.long bb), .second, .val (.long cc), .second, .val (.long (cc / (4092 : Int64))), .second, .val (.long (cc - (cc / (4092 : Int64)) * (4092 : Int64))), .second, .unset, .unset, .unset] [(.long (cc / (4092 : Int64)))])) rfl (hb hby at_129))
        show own_Goes p.tables e below P (T6.setTop (mkF m 132 #[.val (.long p0), .second, .val (.long p1), .second, .val (.int (1 : Int32)), .val (.long bb), .second, .val (.long cc), .second, .val (.long (cc / (4092 : Int64))), .second, .val (.long (cc - (cc / (4092 : Int64)) * (4092 : Int64))), .second, .unset, .unset, .unset] [(.long (4096 : Int64)), (.long (cc / (4092 : Int64)))]))
        refine own_Goes.st ?_ (fun _ k => XS.lmul X6.here hx rfl (hb hby at_132) rfl k)
        show own_Goes p.tables e below P (T6.setTop (mkF m 133 #[.val (.long p0), .second, .val (.long p1), .second, .val (.int (1 : Int32)), .val (.long bb), .second, .val (.long cc), .second, .val (.long (cc / (4092 : Int64))), .second, .val (.long (cc - (cc / (4092 : Int64)) * (4092 : Int64))), .second, .unset, .unset, .unset] [(.long ((cc / (4092 : Int64)) * (4096 : Int64)))]))
        refine own_Goes.st ?_ (fun _ k => XS.lload X6.here hx rfl (hb hby at_133) rfl k)
        show own_Goes p.tables e below P (T6.setTop (mkF m 135 #[.val (.long p0), .second, .val (.long p1), .second, .val (.int (1 : Int32)), .val (.long bb), .second, .val (.long cc), .second, .val (.long (cc / (4092 : Int64))), .second, .val (.long (cc - (cc / (4092 : Int64)) * (4092 : Int64))), .second, .unset, .unset, .unset] [(.long (cc - (cc / (4092 : Int64)) * (4092 : Int64))), (.long ((cc / (4092 : Int64)) * (4096 : Int64)))]))
        refine own_Goes.st ?_ (fun _ k => XS.ladd X6.here hx rfl (hb hby at_135) rfl k)
        show own_Goes p.tables e below P (T6.setTop (mkF m 136 #[.val (.long p0), .second, .val (.long p1), .second, .val (.int (1 : Int32)), .val (.long bb), .second, .val (.long cc), .second, .val (.long (cc / (4092 : Int64))), .second, .val (.long (cc - (cc / (4092 : Int64)) * (4092 : Int64))), .second, .unset, .unset, .unset] [(.long (((cc / (4092 : Int64)) * (4096 : Int64)) + (cc - (cc / (4092 : Int64)) * (4092 : Int64))))]))
        refine own_Goes.st ?_ (X6.ldc2Long hx hown (mvT hZ (hw _ (List.mem_of_getElem? (i := 4) rfl))) (g := (mkF m 136 #[.val (.long p0), .second, .val (.long p1), .second, .val (.int (1 : Int32)), .val (.long bb), .second, .val (.long cc), .second, .val (.long (cc / (4092 : Int64))), .second, .val (.long (cc - (cc / (4092 : Int64)) * (4092 : Int64))), .second, .unset, .unset, .unset] [(.long (((cc / (4092 : Int64)) * (4096 : Int64)) + (cc - (cc / (4092 : Int64)) * (4092 : Int64))))])) rfl (hb hby at_136))
        show own_Goes p.tables e below P (T6.setTop (mkF m 139 #[.val (.long p0), .second, .val (.long p1), .second, .val (.int (1 : Int32)), .val (.long bb), .second, .val (.long cc), .second, .val (.long (cc / (4092 : Int64))), .second, .val (.long (cc - (cc / (4092 : Int64)) * (4092 : Int64))), .second, .unset, .unset, .unset] [(.long (4 : Int64)), (.long (((cc / (4092 : Int64)) * (4096 : Int64)) + (cc - (cc / (4092 : Int64)) * (4092 : Int64))))]))
        refine own_Goes.st ?_ (fun _ k => XS.ladd X6.here hx rfl (hb hby at_139) rfl k)
        show own_Goes p.tables e below P (T6.setTop (mkF m 140 #[.val (.long p0), .second, .val (.long p1), .second, .val (.int (1 : Int32)), .val (.long bb), .second, .val (.long cc), .second, .val (.long (cc / (4092 : Int64))), .second, .val (.long (cc - (cc / (4092 : Int64)) * (4092 : Int64))), .second, .unset, .unset, .unset] [(.long ((((cc / (4092 : Int64)) * (4096 : Int64)) + (cc - (cc / (4092 : Int64)) * (4092 : Int64))) + (4 : Int64)))]))
        refine own_Goes.st ?_ (fun _ k => XS.lstore X6.here hx rfl (hb hby at_140) rfl (l' := #[.val (.long p0), .second, .val (.long p1), .second, .val (.int (1 : Int32)), .val (.long bb), .second, .val (.long cc), .second, .val (.long (cc / (4092 : Int64))), .second, .val (.long (cc - (cc / (4092 : Int64)) * (4092 : Int64))), .second, .val (.long ((((cc / (4092 : Int64)) * (4096 : Int64)) + (cc - (cc / (4092 : Int64)) * (4092 : Int64))) + (4 : Int64))), .second, .unset]) rfl k)
        show own_Goes p.tables e below P (T6.setTop (mkF m 142 #[.val (.long p0), .second, .val (.long p1), .second, .val (.int (1 : Int32)), .val (.long bb), .second, .val (.long cc), .second, .val (.long (cc / (4092 : Int64))), .second, .val (.long (cc - (cc / (4092 : Int64)) * (4092 : Int64))), .second, .val (.long ((((cc / (4092 : Int64)) * (4096 : Int64)) + (cc - (cc / (4092 : Int64)) * (4092 : Int64))) + (4 : Int64))), .second, .unset] []))
        refine own_Goes.st ?_ (fun _ k => XS.lload X6.here hx rfl (hb hby at_142) rfl k)
        show own_Goes p.tables e below P (T6.setTop (mkF m 144 #[.val (.long p0), .second, .val (.long p1), .second, .val (.int (1 : Int32)), .val (.long bb), .second, .val (.long cc), .second, .val (.long (cc / (4092 : Int64))), .second, .val (.long (cc - (cc / (4092 : Int64)) * (4092 : Int64))), .second, .val (.long ((((cc / (4092 : Int64)) * (4096 : Int64)) + (cc - (cc / (4092 : Int64)) * (4092 : Int64))) + (4 : Int64))), .second, .unset] [(.long ((((cc / (4092 : Int64)) * (4096 : Int64)) + (cc - (cc / (4092 : Int64)) * (4092 : Int64))) + (4 : Int64)))]))
        obtain ⟨_, _, ⟨T8, L8, k8, n8⟩, -, X8, ⟨Lc8, hQ8, l8, y8, z8⟩, st8⟩ := Jvm.LawKit.callS X6 hx (y := (⟨"com/example/shrike/shrike/io/Pages", "contentLength", "(J)J"⟩ : MethodName)) hown (mvT hZ (hw _ (List.mem_of_getElem? (i := 5) rfl))) (mvT hZ (hw _ (List.mem_of_getElem? (i := 6) rfl))) (mvT hZ (hw _ (List.mem_of_getElem? (i := 7) rfl))) (mvT hZ (hw _ (List.mem_of_getElem? (i := 8) rfl))) (by decide) (backOf (W := 0) (rm_cl l Z a0 hw [] ((((cc / (4092 : Int64)) * (4096 : Int64)) + (cc - (cc / (4092 : Int64)) * (4092 : Int64))) + (4 : Int64)) h0 n0 Z0) hZ (hw _ (List.mem_of_getElem? (i := 8) rfl)) (hw _ (List.mem_of_getElem? (i := 7) rfl)) (by decide) (by decide)) (g := (mkF m 144 #[.val (.long p0), .second, .val (.long p1), .second, .val (.int (1 : Int32)), .val (.long bb), .second, .val (.long cc), .second, .val (.long (cc / (4092 : Int64))), .second, .val (.long (cc - (cc / (4092 : Int64)) * (4092 : Int64))), .second, .val (.long ((((cc / (4092 : Int64)) * (4096 : Int64)) + (cc - (cc / (4092 : Int64)) * (4092 : Int64))) + (4 : Int64))), .second, .unset] [(.long ((((cc / (4092 : Int64)) * (4096 : Int64)) + (cc - (cc / (4092 : Int64)) * (4092 : Int64))) + (4 : Int64)))])) rfl (by rw [hml]; rfl) (argsL := [(.long ((((cc / (4092 : Int64)) * (4096 : Int64)) + (cc - (cc / (4092 : Int64)) * (4092 : Int64))) + (4 : Int64)))]) (rest := []) (lenOf own_pd__28_J_29_J rfl) rfl (by show 2 * 0 + _ ≤ _; exact Nat.le_of_eq rfl) (hb hby at_144) (fun _ _ => ⟨rfl, e6, (by decide : 0 + 0 ≤ _), (by decide : 0 + 0 ≤ _)⟩)
        dsimp only [Pt.U, Pt.locs, Pt.cells, Pt.slots] at X8 l8 y8 z8 st8 hQ8
        subst l8 y8 z8
        obtain ⟨rfl, Nq8, e8⟩ := hQ8
        have N8 := Fr.app N6 Nq8
        refine own_Goes.st ?_ st8
        show own_Goes p.tables e below P (T8.setTop (mkF m 147 #[.val (.long p0), .second, .val (.long p1), .second, .val (.int (1 : Int32)), .val (.long bb), .second, .val (.long cc), .second, .val (.long (cc / (4092 : Int64))), .second, .val (.long (cc - (cc / (4092 : Int64)) * (4092 : Int64))), .second, .val (.long ((((cc / (4092 : Int64)) * (4096 : Int64)) + (cc - (cc / (4092 : Int64)) * (4092 : Int64))) + (4 : Int64))), .second, .unset] [(.long (own_cl ((((cc / (4092 : Int64)) * (4096 : Int64)) + (cc - (cc / (4092 : Int64)) * (4092 : Int64))) + (4 : Int64))))]))
        refine own_Goes.st ?_ (fun _ k => XS.lload X8.here hx rfl (hb hby at_147) rfl k)
        show own_Goes p.tables e below P (T8.setTop (mkF m 149 #[.val (.long p0), .second, .val (.long p1), .second, .val (.int (1 : Int32)), .val (.long bb), .second, .val (.long cc), .second, .val (.long (cc / (4092 : Int64))), .second, .val (.long (cc - (cc / (4092 : Int64)) * (4092 : Int64))), .second, .val (.long ((((cc / (4092 : Int64)) * (4096 : Int64)) + (cc - (cc / (4092 : Int64)) * (4092 : Int64))) + (4 : Int64))), .second, .unset] [(.long cc), (.long (own_cl ((((cc / (4092 : Int64)) * (4096 : Int64)) + (cc - (cc / (4092 : Int64)) * (4092 : Int64))) + (4 : Int64))))]))
        refine own_Goes.st ?_ (fun _ k => XS.lcmp X8.here hx rfl (hb hby at_149) rfl k)
        show own_Goes p.tables e below P (T8.setTop (mkF m 150 #[.val (.long p0), .second, .val (.long p1), .second, .val (.int (1 : Int32)), .val (.long bb), .second, .val (.long cc), .second, .val (.long (cc / (4092 : Int64))), .second, .val (.long (cc - (cc / (4092 : Int64)) * (4092 : Int64))), .second, .val (.long ((((cc / (4092 : Int64)) * (4096 : Int64)) + (cc - (cc / (4092 : Int64)) * (4092 : Int64))) + (4 : Int64))), .second, .unset] [(.int (lcmpW (own_cl ((((cc / (4092 : Int64)) * (4096 : Int64)) + (cc - (cc / (4092 : Int64)) * (4092 : Int64))) + (4 : Int64))) cc))]))
        refine own_Goes.st ?_ (fun _ k => XS.ifNo X8.here hx rfl (hb hby at_150) rfl ((if0 _ _).trans (teq ((lw_eq _ _).mpr (own_second1 hcc.symm hr2))).2) k)
        show own_Goes p.tables e below P (T8.setTop (mkF m 153 #[.val (.long p0), .second, .val (.long p1), .second, .val (.int (1 : Int32)), .val (.long bb), .second, .val (.long cc), .second, .val (.long (cc / (4092 : Int64))), .second, .val (.long (cc - (cc / (4092 : Int64)) * (4092 : Int64))), .second, .val (.long ((((cc / (4092 : Int64)) * (4096 : Int64)) + (cc - (cc / (4092 : Int64)) * (4092 : Int64))) + (4 : Int64))), .second, .unset] []))
        refine own_Goes.st ?_ (fun _ k => XS.iconst X8.here hx rfl (hb hby at_153) k)
        show own_Goes p.tables e below P (T8.setTop (mkF m 154 #[.val (.long p0), .second, .val (.long p1), .second, .val (.int (1 : Int32)), .val (.long bb), .second, .val (.long cc), .second, .val (.long (cc / (4092 : Int64))), .second, .val (.long (cc - (cc / (4092 : Int64)) * (4092 : Int64))), .second, .val (.long ((((cc / (4092 : Int64)) * (4096 : Int64)) + (cc - (cc / (4092 : Int64)) * (4092 : Int64))) + (4 : Int64))), .second, .unset] [(.int (1 : Int32))]))
        refine own_Goes.st ?_ (fun _ k => XS.goto X8.here hx rfl (pc0 := 154) (pc' := 158) rfl (hb hby at_154) (by decide) (by decide) k)
        show own_Goes p.tables e below P (T8.setTop (mkF m 158 #[.val (.long p0), .second, .val (.long p1), .second, .val (.int (1 : Int32)), .val (.long bb), .second, .val (.long cc), .second, .val (.long (cc / (4092 : Int64))), .second, .val (.long (cc - (cc / (4092 : Int64)) * (4092 : Int64))), .second, .val (.long ((((cc / (4092 : Int64)) * (4096 : Int64)) + (cc - (cc / (4092 : Int64)) * (4092 : Int64))) + (4 : Int64))), .second, .unset] [(.int (1 : Int32))]))
        refine own_Goes.st ?_ (fun _ k => XS.istore X8.here hx rfl (hb hby at_158) rfl (l' := #[.val (.long p0), .second, .val (.long p1), .second, .val (.int (1 : Int32)), .val (.long bb), .second, .val (.long cc), .second, .val (.long (cc / (4092 : Int64))), .second, .val (.long (cc - (cc / (4092 : Int64)) * (4092 : Int64))), .second, .val (.long ((((cc / (4092 : Int64)) * (4096 : Int64)) + (cc - (cc / (4092 : Int64)) * (4092 : Int64))) + (4 : Int64))), .second, .val (.int (1 : Int32))]) rfl k)
        show own_Goes p.tables e below P (T8.setTop (mkF m 160 #[.val (.long p0), .second, .val (.long p1), .second, .val (.int (1 : Int32)), .val (.long bb), .second, .val (.long cc), .second, .val (.long (cc / (4092 : Int64))), .second, .val (.long (cc - (cc / (4092 : Int64)) * (4092 : Int64))), .second, .val (.long ((((cc / (4092 : Int64)) * (4096 : Int64)) + (cc - (cc / (4092 : Int64)) * (4092 : Int64))) + (4 : Int64))), .second, .val (.int (1 : Int32))] []))
        refine own_Goes.st ?_ (fun _ k => XS.iload X8.here hx rfl (hb hby at_160) rfl k)
        show own_Goes p.tables e below P (T8.setTop (mkF m 162 #[.val (.long p0), .second, .val (.long p1), .second, .val (.int (1 : Int32)), .val (.long bb), .second, .val (.long cc), .second, .val (.long (cc / (4092 : Int64))), .second, .val (.long (cc - (cc / (4092 : Int64)) * (4092 : Int64))), .second, .val (.long ((((cc / (4092 : Int64)) * (4096 : Int64)) + (cc - (cc / (4092 : Int64)) * (4092 : Int64))) + (4 : Int64))), .second, .val (.int (1 : Int32))] [(.int (1 : Int32))]))
        refine own_Goes.st ?_ (fun _ k => XS.ifNo X8.here hx rfl (hb hby at_162) rfl ((if0 _ _).trans (feq (by decide : ¬ ((1 : Int32) = (0 : Int32)))).1) k)
        show own_Goes p.tables e below P (T8.setTop (mkF m 165 #[.val (.long p0), .second, .val (.long p1), .second, .val (.int (1 : Int32)), .val (.long bb), .second, .val (.long cc), .second, .val (.long (cc / (4092 : Int64))), .second, .val (.long (cc - (cc / (4092 : Int64)) * (4092 : Int64))), .second, .val (.long ((((cc / (4092 : Int64)) * (4096 : Int64)) + (cc - (cc / (4092 : Int64)) * (4092 : Int64))) + (4 : Int64))), .second, .val (.int (1 : Int32))] []))
        refine own_Goes.st ?_ (fun _ k => XS.iload X8.here hx rfl (hb hby at_165) rfl k)
        show own_Goes p.tables e below P (T8.setTop (mkF m 167 #[.val (.long p0), .second, .val (.long p1), .second, .val (.int (1 : Int32)), .val (.long bb), .second, .val (.long cc), .second, .val (.long (cc / (4092 : Int64))), .second, .val (.long (cc - (cc / (4092 : Int64)) * (4092 : Int64))), .second, .val (.long ((((cc / (4092 : Int64)) * (4096 : Int64)) + (cc - (cc / (4092 : Int64)) * (4092 : Int64))) + (4 : Int64))), .second, .val (.int (1 : Int32))] [(.int (1 : Int32))]))
        refine own_Goes.st ?_ (fun _ k => XS.ifNo X8.here hx rfl (hb hby at_167) rfl ((if0 _ _).trans (feq (by decide : ¬ ((1 : Int32) = (0 : Int32)))).1) k)
        show own_Goes p.tables e below P (T8.setTop (mkF m 170 #[.val (.long p0), .second, .val (.long p1), .second, .val (.int (1 : Int32)), .val (.long bb), .second, .val (.long cc), .second, .val (.long (cc / (4092 : Int64))), .second, .val (.long (cc - (cc / (4092 : Int64)) * (4092 : Int64))), .second, .val (.long ((((cc / (4092 : Int64)) * (4096 : Int64)) + (cc - (cc / (4092 : Int64)) * (4092 : Int64))) + (4 : Int64))), .second, .val (.int (1 : Int32))] []))
        refine own_Goes.st ?_ (fun _ k => XS.iconst X8.here hx rfl (hb hby at_170) k)
        show own_Goes p.tables e below P (T8.setTop (mkF m 171 #[.val (.long p0), .second, .val (.long p1), .second, .val (.int (1 : Int32)), .val (.long bb), .second, .val (.long cc), .second, .val (.long (cc / (4092 : Int64))), .second, .val (.long (cc - (cc / (4092 : Int64)) * (4092 : Int64))), .second, .val (.long ((((cc / (4092 : Int64)) * (4096 : Int64)) + (cc - (cc / (4092 : Int64)) * (4092 : Int64))) + (4 : Int64))), .second, .val (.int (1 : Int32))] [(.int (1 : Int32))]))
        refine own_Goes.st ?_ (fun _ k => XS.goto X8.here hx rfl (pc0 := 171) (pc' := 175) rfl (hb hby at_171) (by decide) (by decide) k)
        show own_Goes p.tables e below P (T8.setTop (mkF m 175 #[.val (.long p0), .second, .val (.long p1), .second, .val (.int (1 : Int32)), .val (.long bb), .second, .val (.long cc), .second, .val (.long (cc / (4092 : Int64))), .second, .val (.long (cc - (cc / (4092 : Int64)) * (4092 : Int64))), .second, .val (.long ((((cc / (4092 : Int64)) * (4096 : Int64)) + (cc - (cc / (4092 : Int64)) * (4092 : Int64))) + (4 : Int64))), .second, .val (.int (1 : Int32))] [(.int (1 : Int32))]))
        obtain ⟨fs, hr, hrun, hended, hW, hsame⟩ := X8.leave (v := some (.int (1 : Int32))) (fun h => by rw [Bd.returns] at h; cases h)
        exact own_Goes.fin _ _ (retOut X8 hx (t := .boolean) Bd.returns rfl (Or.inl ⟨rfl, Or.inr (Or.inl rfl), _, rfl⟩) (hb hby at_175) hr) (hPP _ _ ⟨hrun, hended, _, _, rfl, (by show Q_law n0 _ _; exact ⟨rfl, N8⟩), ⟨_, rfl⟩, hW, hsame.mono (by decide) (by decide)⟩)
set_option maxRecDepth 65536 in
set_option maxHeartbeats 40000000 in
theorem comes_1 {Post : Tables → Env → Array Value → State → Outcome → State → Prop} (hpost : ∀ tb e args s v u, (limb_1_1.after args s (.returned v) u = true ∧ limb_1_2.after args s (.returned v) u = true ∧ True) → FrameEnd s (.returned v) u (Jvm.fieldLocs frame_1_writes args s ++ Jvm.arrayLocs frame_1_arrays args s ++ Jvm.staticLocs frame_1_statics s) 0 0 → Post tb e args s (.returned v) u) :
    ArmFor flags0 classFile x code maxLocals ret World_1 tables_1 room_1 Calls_1 rest_1 Pre_1 Post := by
  intro l hfl _ _ p e ha hc hk s m args below hf hA hF happ hP
  obtain ⟨hcalls, hrest, hpre⟩ := hP
  obtain ⟨-, -, -, hnamed, -, -, -, hat⟩ := (Spec.applies_iff hf).mp happ
  obtain ⟨hg, hn⟩ := and_e (Cond.before_iff.mp (show (Jvm.Cond.and given_1 narrow_1).before args s = true from hpre))
  obtain ⟨hg0, hg1⟩ := and_e hg
  obtain ⟨hv0, hr0⟩ := and_e hg1
  obtain ⟨w0, w1, rfl⟩ : ∃ w0 w1 : Value, args = #[w0, w1] := by
    have hs : args.size = 2 := by simpa [Cond.value, given_1] using hg0
    obtain ⟨L⟩ := args
    match L, hs with
    | [w0, w1], _ => exact ⟨w0, w1, rfl⟩
  have hw := fun d (hd : d ∈ tables_1) => atoms_spec (ws := Jvm.Cond.code x code maxLocals ret :: tables_1) hat d (List.mem_cons_of_mem _ hd)
  have hfit : Fit s := fun {y c} hc i hi => by
    obtain ⟨ha, rfl⟩ := Array.getElem?_eq_some_iff.mp hc
    have q := List.all_eq_true.mp ((Array.all_eq_true_iff_forall_mem.mp hF) _ (Array.getElem_mem ha)) i (List.mem_range.mpr hi)
    simpa [Array.getElem?_eq_getElem hi] using q
  obtain ⟨i0, ei0⟩ := isL_v hv0
  obtain rfl : w0 = (.long i0) := Option.some.inj ei0
  obtain ⟨i1, ei1⟩ := isL_v hr0
  obtain rfl : w1 = (.long i1) := Option.some.inj ei1
  obtain ⟨n, o, h1, h2, h3, _, L, rfl, ⟨rfl, N⟩, hq⟩ := rm_law l s _ hw tables_1 i0 i1  s.heap s.heap.size (Nat.le_refl _)  p e ha hc hk s m _ below hf ((Spec.applies_iff_loose hf).mp happ).1 ⟨rfl, State.Warmed39.refl s, rfl⟩ trivial
  refine ⟨n, _, h1, h2, h3, hpost _ _ _ _ _ _ ⟨Cond.after_iff.mpr rfl, Cond.after_iff.mpr (eq_i res_at (Term.int_eval (1)) rfl), trivial⟩ ⟨hq.1, hq.2.1, (hq.2.2.sift fun y hy => Or.inr (N y hy)).mono (by decide) (by decide)⟩⟩
theorem main_1_1 : Claimed_1_1 := comes_1 fun _ _ _ _ _ _ h hF => ⟨h.1, hF⟩
theorem main_1_2 : Claimed_1_2 := comes_1 fun _ _ _ _ _ _ h hF => ⟨h.2.1, hF⟩
end Jvm.Pilot.@@N@@
namespace Jvm.Pilot.@@N@@
open Jvm Jvm.ClassFile Sem Op Lib Jvm.Free Jvm.Stand Jvm.Pilot.@@N@@.Jvm.D
/-! MADE BY PROGRAM (witnessworld.py) out of the Statement's table words and the real class files: 9 classes; the members and pool entries that the words name. The judged class is class 1, her method 1. -/
namespace start1
open Jvm.ClassFile
def u (s : String) : CpInfo := .utf8 (stringToUtf16 s)
/-- a pool by its gaps: so many unusable entries, then the entry; so many at the end -/
def gap : Nat → List CpInfo → List CpInfo
  | 0, r => r
  | n + 1, r => .unusable :: gap n r
def poolList (es : List (Nat × CpInfo)) (last : Nat) : List CpInfo := es.foldr (fun e r => gap e.1 (e.2 :: r)) (gap last [])
def pool (es : List (Nat × CpInfo)) (last : Nat) : Array CpInfo := ⟨poolList es last⟩
def fileOf (pool : Array CpInfo) (this : Nat) (attrs : Array Attribute := #[]) (ms : Array MethodInfo := #[]) (fl : Nat := 33) (sup : Nat := 0) (ifs : Array Nat := #[]) (fds : Array FieldInfo := #[]) : ClassFile where
  minorVersion := 0
  majorVersion := 65
  constantPool := pool
  accessFlags := fl
  thisClass := this
  superClass := sup
  interfaces := ifs
  fields := fds
  methods := ms
  attributes := attrs
def plain (name : String) (sup : Option ClassId) : Class where
  name := name
  kind := .ordinary
  loader := none
  accessFlags := 33
  super := sup
  interfaces := #[]
  cf := none
  fields := #[]
  methods := #[]
  instanceTypes := #[]
  staticTypes := #[]
  resolved := #[]
  callSites := []
  init := .initialized
  statics := none
  mirror := none

def pool0 : Array CpInfo := pool [(5, u "<init>"), (0, u "()V"), (1, .class_ 10), (1, u "java/lang/Object")] 113

def k0m0 : Method := { name := "<init>", desc := "()V", sig := { parameters := [], returnType := none }, accessFlags := 1, code := none }
/-- java/lang/Object -/
def k0 : Class := { plain "java/lang/Object" none with
  accessFlags := 33
  interfaces := #[]
  cf := some (fileOf pool0 8 #[] #[{ accessFlags := 1, nameIndex := 5, descriptorIndex := 6, attributes := #[] }] 33 0 #[] #[])
  fields := #[]
  methods := #[k0m0]
  instanceTypes := #[]
  staticTypes := #[]
  resolved := Array.replicate 124 none
  statics := none }

def pool1 : Array CpInfo := pool [(2, .class_ 4), (1, u "java/lang/Object"), (0, u "<init>"), (0, u "()V"), (2, .long 9223372036854775807), (1, .long 9223372036854771712), (1, .long 4096), (1, .long 4092), (1, .long 4), (1, .methodref 20 21), (0, .class_ 22), (0, .nameAndType 23 24), (0, u "com/example/shrike/shrike/io/Pages"), (0, u "contentLength"), (0, u "(J)J"), (0, .long 4611686018427387903), (1, .class_ 28), (0, u "com/example/shrike/shrike/io/PagesContentLengthPinLaw"), (2, u "law"), (0, u "(JJ)Z")] 3

def k1m0 : Method := { name := "<init>", desc := "()V", sig := { parameters := [], returnType := none }, accessFlags := 2, code := none }
def k1c1 : Code := { maxStack := 4, maxLocals := 16, code := code, exceptionTable := #[], attributes := #[] }
def k1m1 : Method := { name := "law", desc := "(JJ)Z", sig := { parameters := [.long, .long], returnType := some .boolean }, accessFlags := 9, code := some k1c1 }
/-- com/example/shrike/shrike/io/PagesContentLengthPinLaw -/
def k1 : Class := { plain "com/example/shrike/shrike/io/PagesContentLengthPinLaw" (some 0) with
  accessFlags := 49
  interfaces := #[]
  cf := some (fileOf pool1 27 #[] #[{ accessFlags := 2, nameIndex := 5, descriptorIndex := 6, attributes := #[] }, { accessFlags := 9, nameIndex := 31, descriptorIndex := 32, attributes := #[] }] 49 2 #[] #[])
  fields := #[]
  methods := #[k1m0, k1m1]
  instanceTypes := #[]
  staticTypes := #[]
  resolved := Array.replicate 36 none
  statics := none }

def pool2 : Array CpInfo := pool [(3, .class_ 4), (0, u "com/example/shrike/shrike/io/Pages"), (1, .class_ 8), (1, u "java/lang/Object"), (0, u "<init>"), (0, u "()V"), (0, .long 4096), (1, .long 4), (53, u "PAGE_BYTES"), (0, u "I"), (2, u "CHECKSUM_BYTES"), (1, u "CONTENT_BYTES"), (3, u "contentLength"), (0, u "(J)J"), (9, .class_ 89), (0, u "com/example/shrike/shrike/io/Pages$Output"), (0, .class_ 91), (0, u "com/example/shrike/shrike/io/Pages$Input"), (0, .class_ 93), (0, u "com/example/shrike/shrike/io/Pages$Reader")] 18

def k2m0 : Method := { name := "<init>", desc := "()V", sig := { parameters := [], returnType := none }, accessFlags := 2, code := none }
def k2c1 : Code := { maxStack := 6, maxLocals := 4, code := prog_29_method_2_code, exceptionTable := #[], attributes := #[] }
def k2m1 : Method := { name := "contentLength", desc := "(J)J", sig := { parameters := [.long], returnType := some .long }, accessFlags := 8, code := some k2c1 }
/-- com/example/shrike/shrike/io/Pages -/
def k2 : Class := { plain "com/example/shrike/shrike/io/Pages" (some 0) with
  accessFlags := 48
  interfaces := #[]
  cf := some (fileOf pool2 3 #[.nestMembers #[88, 90, 92]] #[{ accessFlags := 2, nameIndex := 9, descriptorIndex := 10, attributes := #[] }, { accessFlags := 8, nameIndex := 77, descriptorIndex := 78, attributes := #[] }] 48 6 #[] #[{ accessFlags := 24, nameIndex := 67, descriptorIndex := 68, attributes := #[] }, { accessFlags := 24, nameIndex := 71, descriptorIndex := 68, attributes := #[] }, { accessFlags := 24, nameIndex := 73, descriptorIndex := 68, attributes := #[] }])
  fields := #[{ name := "PAGE_BYTES", type := .int, accessFlags := 24, slot := 0, constantValue := 0 }, { name := "CHECKSUM_BYTES", type := .int, accessFlags := 24, slot := 1, constantValue := 0 }, { name := "CONTENT_BYTES", type := .int, accessFlags := 24, slot := 2, constantValue := 0 }]
  methods := #[k2m0, k2m1]
  instanceTypes := #[]
  staticTypes := #[.int, .int, .int]
  resolved := Array.replicate 112 none
  statics := none }

def pool3 : Array CpInfo := pool [(1, u "java/lang/Cloneable"), (0, .class_ 1), (0, u "java/lang/Object"), (0, .class_ 3)] 3

/-- java/lang/Cloneable -/
def k3 : Class := { plain "java/lang/Cloneable" (some 0) with
  accessFlags := 1537
  interfaces := #[]
  cf := some (fileOf pool3 2 #[] #[] 1537 4 #[] #[])
  fields := #[]
  methods := #[]
  instanceTypes := #[]
  staticTypes := #[]
  resolved := Array.replicate 8 none
  statics := none }

def pool4 : Array CpInfo := pool [(1, u "java/io/Serializable"), (0, .class_ 1), (0, u "java/lang/Object"), (0, .class_ 3)] 3

/-- java/io/Serializable -/
def k4 : Class := { plain "java/io/Serializable" (some 0) with
  accessFlags := 1537
  interfaces := #[]
  cf := some (fileOf pool4 2 #[] #[] 1537 4 #[] #[])
  fields := #[]
  methods := #[]
  instanceTypes := #[]
  staticTypes := #[]
  resolved := Array.replicate 8 none
  statics := none }

/-- the primitive byte -/
def k5 : Class := { plain "byte" none with kind := .primitive 'B', accessFlags := 0x411 }
/-- [B -/
def k6 : Class := { plain "[B" (some 0) with kind := .array 5 .byte, interfaces := #[3, 4], accessFlags := 1041 }

/-- the primitive int -/
def k7 : Class := { plain "int" none with kind := .primitive 'I', accessFlags := 0x411 }
/-- [I -/
def k8 : Class := { plain "[I" (some 0) with kind := .array 7 .int, interfaces := #[3, 4], accessFlags := 1041 }

def heap : Heap := #[]
def classes : Array Class := #[k0, k1, k2, k3, k4, k5, k6, k7, k8]
def interned : List (Array UInt16 × Addr) := []
def slotsUsed : Nat := 0
def theMethod : MethodId := ⟨1, 1⟩
def args0 : Array Value := #[.long 5000, .long 5000]
def aboutOver (below : List Frame) : State where
  vm := { classes := classes, interned := interned.toArray }
  heap := heap
  slotsUsed := slotsUsed
  threads := #[{ frames := .invoking theMethod args0 :: below }]
def below0 : List Frame := [.native { method := ⟨0, 0⟩, args := #[] }]
def about1 : State := aboutOver below0
def p0 : Program := .bare "" "" ""
def e0 : Env := launch0.env 0 0 0
theorem w_frames : about1.frames = Frame.invoking theMethod args0 :: below0 := rfl
set_option maxRecDepth 65536 in
theorem w_args : argsFit about1.vm theMethod args0 = true := by decide +kernel
set_option maxRecDepth 65536 in
theorem w_heap : heapFits about1 = true := by decide +kernel
set_option maxRecDepth 65536 in
theorem w_runnable : about1.curStatus? = some .runnable := by decide +kernel
set_option maxRecDepth 65536 in
theorem w_alone : about1.alone = true := by decide +kernel
set_option maxRecDepth 65536 in
theorem w_named : about1.methodNamed? x = some theMethod := by decide +kernel
set_option maxRecDepth 65536 in
theorem w_hears : about1.hears theMethod below0 = true := by decide +kernel
set_option maxRecDepth 65536 in
theorem w_ripe : about1.ripe theMethod args0 below0 = true := by decide +kernel
theorem w_running : about1.status = .running := rfl
set_option maxRecDepth 65536 in
theorem w_room : about1.hasRoom e0.platform room_1 = true :=
  launch0.hasRoom_least _ room_1 (by decide +kernel) (by decide +kernel) (by decide +kernel) (by decide +kernel) (by decide +kernel) (by decide +kernel)
theorem allAtoms_all (ts : List Jvm.Cond) (a : Array Jvm.Value) (st : Jvm.State) : (allAtoms ts).before a st = ts.all (fun c => c.before a st) := by
  induction ts with
  | nil => rfl
  | cons c t ih =>
    show (Jvm.Cond.and c (allAtoms t)).before a st = _
    rw [Jvm.Cond.before_and, ih, List.all_cons]
def words1 : List Jvm.Cond := Jvm.Cond.code x code maxLocals ret :: tables_1
/-- a 'code' word, met by the world's own term for the bytes: nothing is compared byte by byte -/
theorem code_word {y : MethodName} {bytes : ByteArray} {mx : Nat} {rt : Option FieldType} {a : Array Value} {s : State} {m : MethodId} {meth : Method} {c : Code} (h1 : s.methodNamed? y = some m) (h2 : s.vm.method? m = some meth) (h3 : meth.code = some c) (h4 : c.code = bytes)
    (h5 : (c.maxLocals == mx && c.exceptionTable.isEmpty && decide (c.maxStack ≤ mostOperands) && decide (meth.sig.returnType = rt) && !meth.locks && decide (parseMethodDescriptor y.desc = some meth.sig)) = true) : (Jvm.Cond.code y bytes mx rt).before a s = true := by
  simp only [Bool.and_eq_true, beq_iff_eq, Bool.not_eq_true', decide_eq_true_eq] at h5
  obtain ⟨⟨⟨⟨⟨g1, g2⟩, g3⟩, g4⟩, g5⟩, g6⟩ := h5
  simp [Cond.before, Cond.holds, Cond.value, h1, h2, h3, h4, g1, g2, g3, g4, g5, g6]
def isCode : Jvm.Cond → Bool
  | .code _ _ _ _ => true
  | _ => false
theorem all_split {L : List Jvm.Cond} {P : Jvm.Cond → Bool} (h1 : L.all (fun c => isCode c || P c) = true) (h2 : ∀ c ∈ L.filter isCode, P c = true) : L.all P = true := by
  refine List.all_eq_true.mpr fun c hc => ?_
  have h := List.all_eq_true.mp h1 c hc
  rcases Bool.eq_false_or_eq_true (isCode c) with hi | hi
  · exact h2 c (List.mem_filter.mpr ⟨hc, hi⟩)
  · simpa [hi] using h
set_option maxRecDepth 65536 in
theorem w_c0 : (Jvm.Cond.code x code maxLocals ret).before args0 about1 = true := code_word (m := ⟨1, 1⟩) (meth := k1m1) (c := k1c1) (by decide +kernel) rfl rfl rfl (by decide +kernel)
set_option maxRecDepth 65536 in
theorem w_c1 : (Jvm.Cond.code ({ cls := "com/example/shrike/shrike/io/Pages", name := "contentLength", desc := "(J)J" } : Jvm.MethodName) prog_29_method_2_code (4 : Nat) (Option.some Jvm.ClassFile.FieldType.long)).before args0 about1 = true := code_word (m := ⟨2, 1⟩) (meth := k2m1) (c := k2c1) (by decide +kernel) rfl rfl rfl (by decide +kernel)
def codes1 : List Jvm.Cond := [Jvm.Cond.code x code maxLocals ret, Jvm.Cond.code ({ cls := "com/example/shrike/shrike/io/Pages", name := "contentLength", desc := "(J)J" } : Jvm.MethodName) prog_29_method_2_code (4 : Nat) (Option.some Jvm.ClassFile.FieldType.long)]
set_option maxRecDepth 65536 in
theorem codes_eq : words1.filter isCode = codes1 := rfl
theorem w_codes : ∀ c ∈ words1.filter isCode, c.before args0 about1 = true := by
  rw [codes_eq]
  intro c hc
  simp only [codes1, List.mem_cons, List.not_mem_nil, or_false] at hc
  rcases hc with rfl | rfl
  · exact w_c0
  · exact w_c1
set_option maxRecDepth 65536 in
theorem w_t1 : words1.all (fun c => isCode c || c.before args0 about1) = true := by decide +kernel
theorem w_tables : (allAtoms (Jvm.Cond.code x code maxLocals ret :: tables_1)).before args0 about1 = true := by
  rw [allAtoms_all]
  show words1.all (fun c => c.before args0 about1) = true
  refine all_split ?_ w_codes
  rw [w_t1]
set_option maxRecDepth 65536 in
theorem w_case : (Jvm.Cond.and given_1 narrow_1).before args0 about1 = true := by decide +kernel
theorem w_applies : (headSpec (Jvm.Cond.code x code maxLocals ret :: tables_1) room_1).applies x e0.platform about1 = true :=
  (Spec.applies_iff w_frames).mpr ⟨w_running, w_runnable, w_alone, w_named, w_hears, w_ripe, w_room, w_tables⟩
theorem atStart : AtStart classFile x code maxLocals ret World_1 tables_1 room_1 Calls_1 rest_1 Pre_1 launch0 p0 e0 about1 theMethod args0 below0 :=
  ⟨lists_1, trivial, launch0.admits_env _ _ _, launch0.least_env, fairChoices_fair.cas, fairChoices_fair.clock, w_frames, w_args, w_heap, w_applies, trivial, trivial, w_case⟩
end start1
theorem witness_1 : WitnessClaimed_1 := ⟨start1.p0, start1.e0, start1.about1, start1.theMethod, start1.args0, start1.below0, start1.atStart⟩
end Jvm.Pilot.@@N@@
