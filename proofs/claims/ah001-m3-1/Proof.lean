import JvmDerived
import JvmDerived.Pilot.@@N@@Statement
import JvmDerived.Pilot.@@N@@Code
set_option linter.unusedVariables false
set_option linter.unusedSimpArgs false
namespace Jvm.RoadKit
open Sem ClassFile Op Lib Jvm.Stand Jvm.Free Jvm.LawKit
/-- the walk that stands at S comes to an end of which P holds -/
def own_Goes (tb : Tables) (e : Env) (below : List Frame) (P : State → Outcome → Prop) (S : State) : Prop := ∃ t o, Steps tb e below S t ∧ P t o
theorem own_Goes.of {tb : Tables} {e : Env} {below : List Frame} {P : State → Outcome → Prop} {S : State} (k : own_Goes tb e below P S) : ∃ t o, Steps tb e below S t ∧ P t o := k
theorem own_Goes.nm {tb : Tables} {e : Env} {below : List Frame} {P : State → Outcome → Prop} {S : State} (k : ∀ P' : State → Outcome → Prop, (∀ t o, P t o → P' t o) → own_Goes tb e below P' S) : own_Goes tb e below P S := k P fun _ _ q => q
theorem own_Goes.st {tb : Tables} {e : Env} {below : List Frame} {P : State → Outcome → Prop} {S S' : State} (k : own_Goes tb e below P S') (h : ∀ t, Steps tb e below S' t → Steps tb e below S t) : own_Goes tb e below P S := by
  obtain ⟨t, o, h1, h2⟩ := k; exact ⟨t, o, h t h1, h2⟩
theorem own_Goes.tr {tb : Tables} {e : Env} {below : List Frame} {P : State → Outcome → Prop} {S S' : State} (h : Steps tb e below S S') (k : own_Goes tb e below P S') : own_Goes tb e below P S := by
  obtain ⟨t, o, h1, h2⟩ := k; exact ⟨t, o, h.trans h1, h2⟩
theorem own_Goes.fin {tb : Tables} {e : Env} {below : List Frame} {P : State → Outcome → Prop} {S : State} (t : State) (o : Outcome) (h : Steps tb e below S t) (k : P t o) : own_Goes tb e below P S := ⟨t, o, h, k⟩
end Jvm.RoadKit
namespace Jvm.RoadKit
open Sem ClassFile Op Lib Jvm.Stand Jvm.Free Jvm.LawKit
theorem own_eqint {args : Array Value} {s : State} {t : Term} {k : Int32} (h : (Cond.eq t (.int k)).value args s none s [] = some true) : t.eval args s none [] s = some (.int k) := by
  have hk : (Term.int k).eval args s none [] s = some (.int k) := rfl
  simp only [Cond.value, hk] at h
  cases ht : t.eval args s none [] s with
  | none => simp [ht] at h
  | some v => cases v <;> simp [ht] at h ⊢ <;> exact h
end Jvm.RoadKit
namespace Jvm.Pilot.@@N@@
open Jvm Jvm.ClassFile Sem Op Lib Jvm.Free Jvm.Stand Jvm.LawKit Jvm.RoadKit Bundle Jvm.Pilot.@@N@@.Jvm.D
theorem own_ord {args : Array Value} {s : State} {t1 t2 : Term} {C n d : String} {k1 k2 : Int32} (h1 : (Jvm.Cond.eq (.field t1 C n d) (.int k1)).value args s none s [] = some true) (h2 : (Jvm.Cond.eq (.field t2 C n d) (.int k2)).value args s none s [] = some true) (hne : k1 ≠ k2) {a b : Addr} (e1 : t1.eval args s none [] s = some (.ref a)) (e2 : t2.eval args s none [] s = some (.ref b)) : a ≠ b := fun q => by
  subst q
  have e : (Term.field t1 C n d).eval args s none [] s = (Term.field t2 C n d).eval args s none [] s := by simp only [Term.eval, e1, e2]
  have f1 := Jvm.RoadKit.own_eqint h1
  have f2 := Jvm.RoadKit.own_eqint h2
  rw [e, f2] at f1
  cases f1
  exact hne rfl
theorem own_ef_flipI (m : MethodId) (x0 : Addr) : entryFrame m #[(.ref x0)] 1 = mkF m 0 #[.val (.ref x0)] [] := by first | (simp [entryFrame, mkF, argsToLocals, Value.category]; done) | rfl
theorem own_pn_com_example_taxodelta_taxodelta_pairgen_Taxonomy_PeriodType : plainName "com/example/taxodelta/taxodelta/pairgen/Taxonomy$PeriodType" = true := by first | (simp [plainName, overriddenIn]; done) | decide +kernel
theorem own_d_prog_10_method_4_0 : decode prog_10_method_4_code 0 = .ok (.aload_n 0, 1) := by decide +kernel
theorem own_d_prog_10_method_4_1 : decode prog_10_method_4_code 1 = .ok (.getstatic 3, 3) := by decide +kernel
theorem own_d_prog_10_method_4_4 : decode prog_10_method_4_code 4 = .ok (.if_acmp .ne 9, 3) := by decide +kernel
theorem own_d_prog_10_method_4_7 : decode prog_10_method_4_code 7 = .ok (.getstatic 7, 3) := by decide +kernel
theorem own_d_prog_10_method_4_10 : decode prog_10_method_4_code 10 = .ok (.goto 6, 3) := by decide +kernel
theorem own_d_prog_10_method_4_16 : decode prog_10_method_4_code 16 = .ok (.areturn, 1) := by decide +kernel
def Q_flipI (Z : State) (ai : Addr) (ad : Addr) (h0 : Heap) (n0 : Nat) (rv_ : Option Value) (h_ : Heap) (L_ : List Loc) : Prop := rv_ = some (.ref ad) ∧ Fr n0 L_ ∧ h_ = h0
set_option maxRecDepth 65536 in
set_option maxHeartbeats 40000000 in
theorem rm_flipI (l : Launch) (Z : State) (a0 : Array Value) (hw : ∀ d ∈ tables_1, d.before a0 Z = true) (ws : List Jvm.Cond) (ai : Addr) (ad : Addr) (h0 : Heap) (n0 : Nat) (Z0 : n0 ≤ h0.size) (pr0 : Sta Z Z.heap "com/example/taxodelta/taxodelta/pairgen/Taxonomy$PeriodType" "INSTANT" "Lcom/example/taxodelta/taxodelta/pairgen/Taxonomy$PeriodType;" (.ref ai)) (pr1 : Sta Z Z.heap "com/example/taxodelta/taxodelta/pairgen/Taxonomy$PeriodType" "DURATION" "Lcom/example/taxodelta/taxodelta/pairgen/Taxonomy$PeriodType;" (.ref ad)) (pr2 : Old Z n0 h0) :
    MetFree l (⟨"com/example/taxodelta/taxodelta/pairgen/Taxonomy$PeriodType", "flipped", "()Lcom/example/taxodelta/taxodelta/pairgen/Taxonomy$PeriodType;"⟩ : MethodName) (head1 (Jvm.Cond.code (⟨"com/example/taxodelta/taxodelta/pairgen/Taxonomy$PeriodType", "flipped", "()Lcom/example/taxodelta/taxodelta/pairgen/Taxonomy$PeriodType;"⟩ : MethodName) prog_10_method_4_code 1 (some (.object "com/example/taxodelta/taxodelta/pairgen/Taxonomy$PeriodType")) :: ws) ({ frames := 0, cells := 0, slots := 0, locals := 0 } : Room)) (fun as_ U => as_ = #[(.ref ai)] ∧ Z.Warmed39 U.vm ∧ U.heap = h0) (fun _ _ _ _ _ => True) (fun _ U o U' => ∃ rv_ L_, o = .returned rv_ ∧ Q_flipI Z ai ad h0 n0 rv_ U'.heap L_ ∧ FrameEnd U o U' L_ ({ frames := 0, cells := 0, slots := 0, locals := 0 } : Room).cells ({ frames := 0, cells := 0, slots := 0, locals := 0 } : Room).slots) := by
  refine MetFree.of_bodySF (plainFor_of_name own_pn_com_example_taxodelta_taxodelta_pairgen_Taxonomy_PeriodType) hisR ?_
  intro p e s m args below meth c s₁ Bd hml0 hP hK
  obtain ⟨rfl, hZ, hh⟩ := hP
  have hx := Bd.exec
  have hby := Bd.bytes
  have hml : c.maxLocals = 1 := hml0
  have hown : s.vm.findClass "com/example/taxodelta/taxodelta/pairgen/Taxonomy$PeriodType" = some m.cls := findClass_of_methodNamed Bd.named
  have hnm := (name_of_methodNamed Bd.named Bd.method).1
  have X0 : Stand p l e ({ frames := 0, cells := 0, slots := 0, locals := 0 } : Room) s m #[(.ref ai)] below meth c s₁ [] 0 0 := Stand.of_body Bd
  have e0 : s₁.heap = h0 := by rw [← hh, Bd.state]; rfl
  have N0 := Fr.nil n0
  refine own_Goes.of ?_
  refine own_Goes.nm (fun P hPP => ?_)
  refine own_Goes.st ?_ (fun _ k => castTop (own_ef_flipI m ai) k)
  show own_Goes p.tables e below P (s₁.setTop (mkF m 0 #[.val (.ref ai)] []))
  refine own_Goes.st ?_ (fun _ k => XS.aloadN X0.here hx rfl (hb hby own_d_prog_10_method_4_0) rfl rfl k)
  show own_Goes p.tables e below P (s₁.setTop (mkF m 1 #[.val (.ref ai)] [(.ref ai)]))
  obtain ⟨T1, X1, e1, st1⟩ := getS2 X0 hx hZ hown (host := "") (Or.inl (hw _ (List.mem_of_getElem? (i := 8) rfl))) Via.refl e0 (pr0.ext pr2.2) (g := (mkF m 1 #[.val (.ref ai)] [(.ref ai)])) rfl (hb hby own_d_prog_10_method_4_1)
  refine own_Goes.st ?_ st1
  show own_Goes p.tables e below P (T1.setTop (mkF m 4 #[.val (.ref ai)] [(.ref ai), (.ref ai)]))
  refine own_Goes.st ?_ (fun _ k => Jvm.RoadKit.acmp (g := (mkF m 4 #[.val (.ref ai)] [(.ref ai), (.ref ai)])) X1 hx rfl rfl rfl (pc0 := 4) (pc' := 7) (same := true) rfl (hb hby own_d_prog_10_method_4_4) rfl (decide_eq_true rfl) (by decide) (by decide) k)
  show own_Goes p.tables e below P (T1.setTop (mkF m 7 #[.val (.ref ai)] []))
  obtain ⟨T2, X2, e2, st2⟩ := getS2 X1 hx hZ hown (host := "") (Or.inl (hw _ (List.mem_of_getElem? (i := 9) rfl))) Via.refl e1 (pr1.ext pr2.2) (g := (mkF m 7 #[.val (.ref ai)] [])) rfl (hb hby own_d_prog_10_method_4_7)
  refine own_Goes.st ?_ st2
  show own_Goes p.tables e below P (T2.setTop (mkF m 10 #[.val (.ref ai)] [(.ref ad)]))
  refine own_Goes.st ?_ (fun _ k => XS.goto X2.here hx rfl (pc0 := 10) (pc' := 16) rfl (hb hby own_d_prog_10_method_4_10) (by decide) (by decide) k)
  show own_Goes p.tables e below P (T2.setTop (mkF m 16 #[.val (.ref ai)] [(.ref ad)]))
  obtain ⟨fs, hr, hrun, hended, hW, hsame⟩ := X2.leave (v := some (.ref ad)) (fun h => by rw [Bd.returns] at h; cases h)
  exact own_Goes.fin _ _ (retOut X2 hx (t := (.object "com/example/taxodelta/taxodelta/pairgen/Taxonomy$PeriodType")) Bd.returns rfl (Or.inr (Or.inr (Or.inr (Or.inr ⟨rfl, rfl, rfl⟩)))) (hb hby own_d_prog_10_method_4_16) hr) (hPP _ _ ⟨hrun, hended, _, _, rfl, (by show Q_flipI Z ai ad h0 n0 _ T2.heap _; rw [e2]; exact ⟨rfl, N0, rfl⟩), ⟨_, rfl⟩, hW, hsame.mono (by decide) (by decide)⟩)
theorem own_ef_flipD (m : MethodId) (x0 : Addr) : entryFrame m #[(.ref x0)] 1 = mkF m 0 #[.val (.ref x0)] [] := by first | (simp [entryFrame, mkF, argsToLocals, Value.category]; done) | rfl
theorem own_d_prog_10_method_4_13 : decode prog_10_method_4_code 13 = .ok (.getstatic 3, 3) := by decide +kernel
def Q_flipD (Z : State) (ai : Addr) (ad : Addr) (h0 : Heap) (n0 : Nat) (rv_ : Option Value) (h_ : Heap) (L_ : List Loc) : Prop := rv_ = some (.ref ai) ∧ Fr n0 L_ ∧ h_ = h0
set_option maxRecDepth 65536 in
set_option maxHeartbeats 40000000 in
theorem rm_flipD (l : Launch) (Z : State) (a0 : Array Value) (hw : ∀ d ∈ tables_1, d.before a0 Z = true) (ws : List Jvm.Cond) (ai : Addr) (ad : Addr) (h0 : Heap) (n0 : Nat) (Z0 : n0 ≤ h0.size) (pr0 : Sta Z Z.heap "com/example/taxodelta/taxodelta/pairgen/Taxonomy$PeriodType" "INSTANT" "Lcom/example/taxodelta/taxodelta/pairgen/Taxonomy$PeriodType;" (.ref ai)) (pr1 : Sta Z Z.heap "com/example/taxodelta/taxodelta/pairgen/Taxonomy$PeriodType" "DURATION" "Lcom/example/taxodelta/taxodelta/pairgen/Taxonomy$PeriodType;" (.ref ad)) (pr2 : Old Z n0 h0) (pr3 : ai ≠ ad) :
    MetFree l (⟨"com/example/taxodelta/taxodelta/pairgen/Taxonomy$PeriodType", "flipped", "()Lcom/example/taxodelta/taxodelta/pairgen/Taxonomy$PeriodType;"⟩ : MethodName) (head1 (Jvm.Cond.code (⟨"com/example/taxodelta/taxodelta/pairgen/Taxonomy$PeriodType", "flipped", "()Lcom/example/taxodelta/taxodelta/pairgen/Taxonomy$PeriodType;"⟩ : MethodName) prog_10_method_4_code 1 (some (.object "com/example/taxodelta/taxodelta/pairgen/Taxonomy$PeriodType")) :: ws) ({ frames := 0, cells := 0, slots := 0, locals := 0 } : Room)) (fun as_ U => as_ = #[(.ref ad)] ∧ Z.Warmed39 U.vm ∧ U.heap = h0) (fun _ _ _ _ _ => True) (fun _ U o U' => ∃ rv_ L_, o = .returned rv_ ∧ Q_flipD Z ai ad h0 n0 rv_ U'.heap L_ ∧ FrameEnd U o U' L_ ({ frames := 0, cells := 0, slots := 0, locals := 0 } : Room).cells ({ frames := 0, cells := 0, slots := 0, locals := 0 } : Room).slots) := by
  refine MetFree.of_bodySF (plainFor_of_name own_pn_com_example_taxodelta_taxodelta_pairgen_Taxonomy_PeriodType) hisR ?_
  intro p e s m args below meth c s₁ Bd hml0 hP hK
  obtain ⟨rfl, hZ, hh⟩ := hP
  have hx := Bd.exec
  have hby := Bd.bytes
  have hml : c.maxLocals = 1 := hml0
  have hown : s.vm.findClass "com/example/taxodelta/taxodelta/pairgen/Taxonomy$PeriodType" = some m.cls := findClass_of_methodNamed Bd.named
  have hnm := (name_of_methodNamed Bd.named Bd.method).1
  have X0 : Stand p l e ({ frames := 0, cells := 0, slots := 0, locals := 0 } : Room) s m #[(.ref ad)] below meth c s₁ [] 0 0 := Stand.of_body Bd
  have e0 : s₁.heap = h0 := by rw [← hh, Bd.state]; rfl
  have N0 := Fr.nil n0
  refine own_Goes.of ?_
  refine own_Goes.nm (fun P hPP => ?_)
  refine own_Goes.st ?_ (fun _ k => castTop (own_ef_flipD m ad) k)
  show own_Goes p.tables e below P (s₁.setTop (mkF m 0 #[.val (.ref ad)] []))
  refine own_Goes.st ?_ (fun _ k => XS.aloadN X0.here hx rfl (hb hby own_d_prog_10_method_4_0) rfl rfl k)
  show own_Goes p.tables e below P (s₁.setTop (mkF m 1 #[.val (.ref ad)] [(.ref ad)]))
  obtain ⟨T1, X1, e1, st1⟩ := getS2 X0 hx hZ hown (host := "") (Or.inl (hw _ (List.mem_of_getElem? (i := 8) rfl))) Via.refl e0 (pr0.ext pr2.2) (g := (mkF m 1 #[.val (.ref ad)] [(.ref ad)])) rfl (hb hby own_d_prog_10_method_4_1)
  refine own_Goes.st ?_ st1
  show own_Goes p.tables e below P (T1.setTop (mkF m 4 #[.val (.ref ad)] [(.ref ai), (.ref ad)]))
  refine own_Goes.st ?_ (fun _ k => Jvm.RoadKit.acmp (g := (mkF m 4 #[.val (.ref ad)] [(.ref ai), (.ref ad)])) X1 hx rfl rfl rfl (pc0 := 4) (pc' := 13) (same := false) rfl (hb hby own_d_prog_10_method_4_4) rfl (decide_eq_false fun q => (Ne.symm pr3) (Value.ref.inj q)) (by decide) (by decide) k)
  show own_Goes p.tables e below P (T1.setTop (mkF m 13 #[.val (.ref ad)] []))
  obtain ⟨T2, X2, e2, st2⟩ := getS2 X1 hx hZ hown (host := "") (Or.inl (hw _ (List.mem_of_getElem? (i := 8) rfl))) Via.refl e1 (pr0.ext pr2.2) (g := (mkF m 13 #[.val (.ref ad)] [])) rfl (hb hby own_d_prog_10_method_4_13)
  refine own_Goes.st ?_ st2
  show own_Goes p.tables e below P (T2.setTop (mkF m 16 #[.val (.ref ad)] [(.ref ai)]))
  obtain ⟨fs, hr, hrun, hended, hW, hsame⟩ := X2.leave (v := some (.ref ai)) (fun h => by rw [Bd.returns] at h; cases h)
  exact own_Goes.fin _ _ (retOut X2 hx (t := (.object "com/example/taxodelta/taxodelta/pairgen/Taxonomy$PeriodType")) Bd.returns rfl (Or.inr (Or.inr (Or.inr (Or.inr ⟨rfl, rfl, rfl⟩)))) (hb hby own_d_prog_10_method_4_16) hr) (hPP _ _ ⟨hrun, hended, _, _, rfl, (by show Q_flipD Z ai ad h0 n0 _ T2.heap _; rw [e2]; exact ⟨rfl, N0, rfl⟩), ⟨_, rfl⟩, hW, hsame.mono (by decide) (by decide)⟩)
theorem own_ef_law (m : MethodId) (x0 : Int32) : entryFrame m #[(.int x0)] maxLocals = mkF m 0 #[.val (.int x0), .unset, .unset] [] := by first | (simp [entryFrame, mkF, argsToLocals, Value.category, maxLocals]; done) | rfl
theorem own_pn_com_example_taxodelta_taxodelta_pairgen_PeriodTypeFlippedPinLaw : plainName "com/example/taxodelta/taxodelta/pairgen/PeriodTypeFlippedPinLaw" = true := by first | (simp [plainName, overriddenIn]; done) | decide +kernel
theorem own_pd__28__29_Lcom_2f_example_2f_taxodelta_2f_taxodelta_2f_pairgen_2f_Taxonomy_24_PeriodType_3b_ : parseMethodDescriptor "()Lcom/example/taxodelta/taxodelta/pairgen/Taxonomy$PeriodType;" = some ⟨[], some (.object "com/example/taxodelta/taxodelta/pairgen/Taxonomy$PeriodType")⟩ := by decide +kernel
def Q_law (n0 : Nat) (v : Option Value) (L : List Loc) : Prop := v = some (.int 1) ∧ Fr n0 L
set_option maxRecDepth 65536 in
set_option maxHeartbeats 40000000 in
theorem rm_law (l : Launch) (Z : State) (a0 : Array Value) (hw : ∀ d ∈ tables_1, d.before a0 Z = true) (ws : List Jvm.Cond) (p0 : Int32) (ai : Addr) (ad : Addr) (h0 : Heap) (n0 : Nat) (Z0 : n0 ≤ h0.size) (pr0 : Sta Z Z.heap "com/example/taxodelta/taxodelta/pairgen/Taxonomy$PeriodType" "INSTANT" "Lcom/example/taxodelta/taxodelta/pairgen/Taxonomy$PeriodType;" (.ref ai)) (pr1 : Sta Z Z.heap "com/example/taxodelta/taxodelta/pairgen/Taxonomy$PeriodType" "DURATION" "Lcom/example/taxodelta/taxodelta/pairgen/Taxonomy$PeriodType;" (.ref ad)) (pr2 : Old Z n0 h0) (pr3 : Exa Z h0 ai "com/example/taxodelta/taxodelta/pairgen/Taxonomy$PeriodType") (pr4 : Exa Z h0 ad "com/example/taxodelta/taxodelta/pairgen/Taxonomy$PeriodType") (pr5 : ai ≠ ad) :
    MetFree l x (head1 (Jvm.Cond.code x code maxLocals ret :: ws) room_1) (fun as_ U => as_ = #[(.int p0)] ∧ Z.Warmed39 U.vm ∧ U.heap = h0) (fun _ _ _ _ _ => True) (fun _ U o U' => ∃ v L, o = .returned v ∧ Q_law n0 v L ∧ FrameEnd U o U' L 0 0) := by
  refine MetFree.of_bodySF (plainFor_of_name own_pn_com_example_taxodelta_taxodelta_pairgen_PeriodTypeFlippedPinLaw) hisR ?_
  intro p e s m args below meth c s₁ Bd hml0 hP hK
  obtain ⟨rfl, hZ, hh⟩ := hP
  have hx := Bd.exec
  have hby := Bd.bytes
  have hml : c.maxLocals = 3 := hml0
  have hown : s.vm.findClass "com/example/taxodelta/taxodelta/pairgen/PeriodTypeFlippedPinLaw" = some m.cls := findClass_of_methodNamed Bd.named
  have hnm := (name_of_methodNamed Bd.named Bd.method).1
  have X0 : Stand p l e room_1 s m #[(.int p0)] below meth c s₁ [] 0 0 := Stand.of_body Bd
  have e0 : s₁.heap = h0 := by rw [← hh, Bd.state]; rfl
  have N0 := Fr.nil n0
  refine own_Goes.of ?_
  refine own_Goes.nm (fun P hPP => ?_)
  refine own_Goes.st ?_ (fun _ k => castTop (own_ef_law m p0) k)
  show own_Goes p.tables e below P (s₁.setTop (mkF m 0 #[.val (.int p0), .unset, .unset] []))
  refine own_Goes.st ?_ (fun _ k => XS.iloadN X0.here hx rfl (hb hby at_0) rfl k)
  show own_Goes p.tables e below P (s₁.setTop (mkF m 1 #[.val (.int p0), .unset, .unset] [(.int p0)]))
  refine own_Goes.st ?_ (fun _ k => XS.iconst X0.here hx rfl (hb hby at_1) k)
  show own_Goes p.tables e below P (s₁.setTop (mkF m 2 #[.val (.int p0), .unset, .unset] [(.int (1 : Int32)), (.int p0)]))
  refine own_Goes.st ?_ (fun _ k => XS.iand X0.here hx rfl (hb hby at_2) rfl k)
  show own_Goes p.tables e below P (s₁.setTop (mkF m 3 #[.val (.int p0), .unset, .unset] [(.int (p0 &&& (1 : Int32)))]))
  by_cases h1 : (p0 &&& (1 : Int32)) = (0 : Int32)
  · skip
    refine own_Goes.st ?_ (fun _ k => XS.ifNo X0.here hx rfl (hb hby at_3) rfl ((if0 _ _).trans (teq h1).2) k)
    show own_Goes p.tables e below P (s₁.setTop (mkF m 6 #[.val (.int p0), .unset, .unset] []))
    obtain ⟨T1, X1, e1, st1⟩ := getS2 X0 hx hZ hown (host := "") (Or.inl (hw _ (List.mem_of_getElem? (i := 0) rfl))) Via.refl e0 (pr0.ext pr2.2) (g := (mkF m 6 #[.val (.int p0), .unset, .unset] [])) rfl (hb hby at_6)
    refine own_Goes.st ?_ st1
    show own_Goes p.tables e below P (T1.setTop (mkF m 9 #[.val (.int p0), .unset, .unset] [(.ref ai)]))
    refine own_Goes.st ?_ (fun _ k => XS.goto X1.here hx rfl (pc0 := 9) (pc' := 15) rfl (hb hby at_9) (by decide) (by decide) k)
    show own_Goes p.tables e below P (T1.setTop (mkF m 15 #[.val (.int p0), .unset, .unset] [(.ref ai)]))
    refine own_Goes.st ?_ (fun _ k => XS.astoreN X1.here hx rfl (hb hby at_15) rfl rfl (l' := #[.val (.int p0), .val (.ref ai), .unset]) rfl k)
    show own_Goes p.tables e below P (T1.setTop (mkF m 16 #[.val (.int p0), .val (.ref ai), .unset] []))
    refine own_Goes.st ?_ (fun _ k => XS.aloadN X1.here hx rfl (hb hby at_16) rfl rfl k)
    show own_Goes p.tables e below P (T1.setTop (mkF m 17 #[.val (.int p0), .val (.ref ai), .unset] [(.ref ai)]))
    obtain ⟨cq2, kq2, q2a, q2b, q2c⟩ := isOf hZ e1 pr3
    obtain ⟨_, _, ⟨T2, L2, k2, n2⟩, -, X2, ⟨Lc2, hQ2, l2, y2, z2⟩, st2⟩ := X1.virtualBack hx (y := (⟨"com/example/taxodelta/taxodelta/pairgen/Taxonomy$PeriodType", "flipped", "()Lcom/example/taxodelta/taxodelta/pairgen/Taxonomy$PeriodType;"⟩ : MethodName)) (z := (⟨"com/example/taxodelta/taxodelta/pairgen/Taxonomy$PeriodType", "flipped", "()Lcom/example/taxodelta/taxodelta/pairgen/Taxonomy$PeriodType;"⟩ : MethodName)) hown (mvT hZ (hw _ (List.mem_of_getElem? (i := 3) rfl))) (mvT hZ (hw _ (List.mem_of_getElem? (i := 4) rfl))) (notFace_of_selects (args := #[]) (mvT hZ (hw _ (List.mem_of_getElem? (i := 6) rfl)))) (mvT hZ (hw _ (List.mem_of_getElem? (i := 6) rfl))) (mvT hZ (hw _ (List.mem_of_getElem? (i := 5) rfl))) (by decide) (backOf (W := 0) (rm_flipI l Z a0 hw [] ai ad h0 n0 Z0 pr0 pr1 pr2) hZ (hw _ (List.mem_of_getElem? (i := 7) rfl)) (hw _ (List.mem_of_getElem? (i := 1) rfl)) (by decide) (by decide)) q2a q2c (g := (mkF m 17 #[.val (.int p0), .val (.ref ai), .unset] [(.ref ai)])) rfl (by rw [hml]; rfl) (Steps.refl _) (argsL := []) (rest := []) (lenOf own_pd__28__29_Lcom_2f_example_2f_taxodelta_2f_taxodelta_2f_pairgen_2f_Taxonomy_24_PeriodType_3b_ rfl) rfl (by show 2 * 0 + _ ≤ _; exact Nat.le_of_eq rfl) (hb hby at_17) (fun _ _ => ⟨rfl, e1, (by decide : 0 + 0 ≤ _), (by decide : 0 + 0 ≤ _)⟩)
    dsimp only [Pt.U, Pt.locs, Pt.cells, Pt.slots] at X2 l2 y2 z2 st2 hQ2
    rw [l2, y2, z2] at X2
    obtain ⟨rfl, Nq2, e2⟩ := hQ2
    have N2 := Fr.app N0 Nq2
    refine own_Goes.tr st2 ?_
    show own_Goes p.tables e below P (T2.setTop (mkF m 20 #[.val (.int p0), .val (.ref ai), .unset] [(.ref ad)]))
    refine own_Goes.st ?_ (fun _ k => XS.astoreN X2.here hx rfl (hb hby at_20) rfl rfl (l' := #[.val (.int p0), .val (.ref ai), .val (.ref ad)]) rfl k)
    show own_Goes p.tables e below P (T2.setTop (mkF m 21 #[.val (.int p0), .val (.ref ai), .val (.ref ad)] []))
    refine own_Goes.st ?_ (fun _ k => XS.aloadN X2.here hx rfl (hb hby at_21) rfl rfl k)
    show own_Goes p.tables e below P (T2.setTop (mkF m 22 #[.val (.int p0), .val (.ref ai), .val (.ref ad)] [(.ref ad)]))
    refine own_Goes.st ?_ (fun _ k => XS.ifnonnullYes X2.here hx rfl (pc0 := 22) (pc' := 27) rfl (hb hby at_22) rfl (by decide) (by decide) k)
    show own_Goes p.tables e below P (T2.setTop (mkF m 27 #[.val (.int p0), .val (.ref ai), .val (.ref ad)] []))
    refine own_Goes.st ?_ (fun _ k => XS.aloadN X2.here hx rfl (hb hby at_27) rfl rfl k)
    show own_Goes p.tables e below P (T2.setTop (mkF m 28 #[.val (.int p0), .val (.ref ai), .val (.ref ad)] [(.ref ad)]))
    refine own_Goes.st ?_ (fun _ k => XS.aloadN X2.here hx rfl (hb hby at_28) rfl rfl k)
    show own_Goes p.tables e below P (T2.setTop (mkF m 29 #[.val (.int p0), .val (.ref ai), .val (.ref ad)] [(.ref ai), (.ref ad)]))
    refine own_Goes.st ?_ (fun _ k => Jvm.RoadKit.acmp (g := (mkF m 29 #[.val (.int p0), .val (.ref ai), .val (.ref ad)] [(.ref ai), (.ref ad)])) X2 hx rfl rfl rfl (pc0 := 29) (pc' := 34) (same := false) rfl (hb hby at_29) rfl (decide_eq_false fun q => (Ne.symm pr5) (Value.ref.inj q)) (by decide) (by decide) k)
    show own_Goes p.tables e below P (T2.setTop (mkF m 34 #[.val (.int p0), .val (.ref ai), .val (.ref ad)] []))
    refine own_Goes.st ?_ (fun _ k => XS.aloadN X2.here hx rfl (hb hby at_34) rfl rfl k)
    show own_Goes p.tables e below P (T2.setTop (mkF m 35 #[.val (.int p0), .val (.ref ai), .val (.ref ad)] [(.ref ad)]))
    obtain ⟨cq3, kq3, q3a, q3b, q3c⟩ := isOf hZ e2 pr4
    obtain ⟨_, _, ⟨T3, L3, k3, n3⟩, -, X3, ⟨Lc3, hQ3, l3, y3, z3⟩, st3⟩ := X2.virtualBack hx (y := (⟨"com/example/taxodelta/taxodelta/pairgen/Taxonomy$PeriodType", "flipped", "()Lcom/example/taxodelta/taxodelta/pairgen/Taxonomy$PeriodType;"⟩ : MethodName)) (z := (⟨"com/example/taxodelta/taxodelta/pairgen/Taxonomy$PeriodType", "flipped", "()Lcom/example/taxodelta/taxodelta/pairgen/Taxonomy$PeriodType;"⟩ : MethodName)) hown (mvT hZ (hw _ (List.mem_of_getElem? (i := 3) rfl))) (mvT hZ (hw _ (List.mem_of_getElem? (i := 4) rfl))) (notFace_of_selects (args := #[]) (mvT hZ (hw _ (List.mem_of_getElem? (i := 6) rfl)))) (mvT hZ (hw _ (List.mem_of_getElem? (i := 6) rfl))) (mvT hZ (hw _ (List.mem_of_getElem? (i := 5) rfl))) (by decide) (backOf (W := 0) (rm_flipD l Z a0 hw [] ai ad h0 n0 Z0 pr0 pr1 pr2 pr5) hZ (hw _ (List.mem_of_getElem? (i := 7) rfl)) (hw _ (List.mem_of_getElem? (i := 1) rfl)) (by decide) (by decide)) q3a q3c (g := (mkF m 35 #[.val (.int p0), .val (.ref ai), .val (.ref ad)] [(.ref ad)])) rfl (by rw [hml]; rfl) (Steps.refl _) (argsL := []) (rest := []) (lenOf own_pd__28__29_Lcom_2f_example_2f_taxodelta_2f_taxodelta_2f_pairgen_2f_Taxonomy_24_PeriodType_3b_ rfl) rfl (by show 2 * 0 + _ ≤ _; exact Nat.le_of_eq rfl) (hb hby at_35) (fun _ _ => ⟨rfl, e2, (by decide : 0 + 0 ≤ _), (by decide : 0 + 0 ≤ _)⟩)
    dsimp only [Pt.U, Pt.locs, Pt.cells, Pt.slots] at X3 l3 y3 z3 st3 hQ3
    rw [l3, y3, z3] at X3
    obtain ⟨rfl, Nq3, e3⟩ := hQ3
    have N3 := Fr.app N2 Nq3
    refine own_Goes.tr st3 ?_
    show own_Goes p.tables e below P (T3.setTop (mkF m 38 #[.val (.int p0), .val (.ref ai), .val (.ref ad)] [(.ref ai)]))
    refine own_Goes.st ?_ (fun _ k => XS.aloadN X3.here hx rfl (hb hby at_38) rfl rfl k)
    show own_Goes p.tables e below P (T3.setTop (mkF m 39 #[.val (.int p0), .val (.ref ai), .val (.ref ad)] [(.ref ai), (.ref ai)]))
    refine own_Goes.st ?_ (fun _ k => Jvm.RoadKit.acmp (g := (mkF m 39 #[.val (.int p0), .val (.ref ai), .val (.ref ad)] [(.ref ai), (.ref ai)])) X3 hx rfl rfl rfl (pc0 := 39) (pc' := 42) (same := true) rfl (hb hby at_39) rfl (decide_eq_true rfl) (by decide) (by decide) k)
    show own_Goes p.tables e below P (T3.setTop (mkF m 42 #[.val (.int p0), .val (.ref ai), .val (.ref ad)] []))
    refine own_Goes.st ?_ (fun _ k => XS.iconst X3.here hx rfl (hb hby at_42) k)
    show own_Goes p.tables e below P (T3.setTop (mkF m 43 #[.val (.int p0), .val (.ref ai), .val (.ref ad)] [(.int (1 : Int32))]))
    refine own_Goes.st ?_ (fun _ k => XS.goto X3.here hx rfl (pc0 := 43) (pc' := 47) rfl (hb hby at_43) (by decide) (by decide) k)
    show own_Goes p.tables e below P (T3.setTop (mkF m 47 #[.val (.int p0), .val (.ref ai), .val (.ref ad)] [(.int (1 : Int32))]))
    obtain ⟨fs, hr, hrun, hended, hW, hsame⟩ := X3.leave (v := some (.int (1 : Int32))) (fun h => by rw [Bd.returns] at h; cases h)
    exact own_Goes.fin _ _ (retOut X3 hx (t := .boolean) Bd.returns rfl (Or.inl ⟨rfl, Or.inr (Or.inl rfl), _, rfl⟩) (hb hby at_47) hr) (hPP _ _ ⟨hrun, hended, _, _, rfl, (by show Q_law n0 _ _; exact ⟨rfl, N3⟩), ⟨_, rfl⟩, hW, hsame.mono (by decide) (by decide)⟩)
  · skip
    refine own_Goes.st ?_ (fun _ k => XS.ifYes X0.here hx rfl (pc0 := 3) (pc' := 12) rfl (hb hby at_3) rfl ((if0 _ _).trans (feq h1).2) (by decide) (by decide) k)
    show own_Goes p.tables e below P (s₁.setTop (mkF m 12 #[.val (.int p0), .unset, .unset] []))
    obtain ⟨T4, X4, e4, st4⟩ := getS2 X0 hx hZ hown (host := "") (Or.inl (hw _ (List.mem_of_getElem? (i := 11) rfl))) Via.refl e0 (pr1.ext pr2.2) (g := (mkF m 12 #[.val (.int p0), .unset, .unset] [])) rfl (hb hby at_12)
    refine own_Goes.st ?_ st4
    show own_Goes p.tables e below P (T4.setTop (mkF m 15 #[.val (.int p0), .unset, .unset] [(.ref ad)]))
    refine own_Goes.st ?_ (fun _ k => XS.astoreN X4.here hx rfl (hb hby at_15) rfl rfl (l' := #[.val (.int p0), .val (.ref ad), .unset]) rfl k)
    show own_Goes p.tables e below P (T4.setTop (mkF m 16 #[.val (.int p0), .val (.ref ad), .unset] []))
    refine own_Goes.st ?_ (fun _ k => XS.aloadN X4.here hx rfl (hb hby at_16) rfl rfl k)
    show own_Goes p.tables e below P (T4.setTop (mkF m 17 #[.val (.int p0), .val (.ref ad), .unset] [(.ref ad)]))
    obtain ⟨cq5, kq5, q5a, q5b, q5c⟩ := isOf hZ e4 pr4
    obtain ⟨_, _, ⟨T5, L5, k5, n5⟩, -, X5, ⟨Lc5, hQ5, l5, y5, z5⟩, st5⟩ := X4.virtualBack hx (y := (⟨"com/example/taxodelta/taxodelta/pairgen/Taxonomy$PeriodType", "flipped", "()Lcom/example/taxodelta/taxodelta/pairgen/Taxonomy$PeriodType;"⟩ : MethodName)) (z := (⟨"com/example/taxodelta/taxodelta/pairgen/Taxonomy$PeriodType", "flipped", "()Lcom/example/taxodelta/taxodelta/pairgen/Taxonomy$PeriodType;"⟩ : MethodName)) hown (mvT hZ (hw _ (List.mem_of_getElem? (i := 3) rfl))) (mvT hZ (hw _ (List.mem_of_getElem? (i := 4) rfl))) (notFace_of_selects (args := #[]) (mvT hZ (hw _ (List.mem_of_getElem? (i := 6) rfl)))) (mvT hZ (hw _ (List.mem_of_getElem? (i := 6) rfl))) (mvT hZ (hw _ (List.mem_of_getElem? (i := 5) rfl))) (by decide) (backOf (W := 0) (rm_flipD l Z a0 hw [] ai ad h0 n0 Z0 pr0 pr1 pr2 pr5) hZ (hw _ (List.mem_of_getElem? (i := 7) rfl)) (hw _ (List.mem_of_getElem? (i := 1) rfl)) (by decide) (by decide)) q5a q5c (g := (mkF m 17 #[.val (.int p0), .val (.ref ad), .unset] [(.ref ad)])) rfl (by rw [hml]; rfl) (Steps.refl _) (argsL := []) (rest := []) (lenOf own_pd__28__29_Lcom_2f_example_2f_taxodelta_2f_taxodelta_2f_pairgen_2f_Taxonomy_24_PeriodType_3b_ rfl) rfl (by show 2 * 0 + _ ≤ _; exact Nat.le_of_eq rfl) (hb hby at_17) (fun _ _ => ⟨rfl, e4, (by decide : 0 + 0 ≤ _), (by decide : 0 + 0 ≤ _)⟩)
    dsimp only [Pt.U, Pt.locs, Pt.cells, Pt.slots] at X5 l5 y5 z5 st5 hQ5
    rw [l5, y5, z5] at X5
    obtain ⟨rfl, Nq5, e5⟩ := hQ5
    have N5 := Fr.app N0 Nq5
    refine own_Goes.tr st5 ?_
    show own_Goes p.tables e below P (T5.setTop (mkF m 20 #[.val (.int p0), .val (.ref ad), .unset] [(.ref ai)]))
    refine own_Goes.st ?_ (fun _ k => XS.astoreN X5.here hx rfl (hb hby at_20) rfl rfl (l' := #[.val (.int p0), .val (.ref ad), .val (.ref ai)]) rfl k)
    show own_Goes p.tables e below P (T5.setTop (mkF m 21 #[.val (.int p0), .val (.ref ad), .val (.ref ai)] []))
    refine own_Goes.st ?_ (fun _ k => XS.aloadN X5.here hx rfl (hb hby at_21) rfl rfl k)
    show own_Goes p.tables e below P (T5.setTop (mkF m 22 #[.val (.int p0), .val (.ref ad), .val (.ref ai)] [(.ref ai)]))
    refine own_Goes.st ?_ (fun _ k => XS.ifnonnullYes X5.here hx rfl (pc0 := 22) (pc' := 27) rfl (hb hby at_22) rfl (by decide) (by decide) k)
    show own_Goes p.tables e below P (T5.setTop (mkF m 27 #[.val (.int p0), .val (.ref ad), .val (.ref ai)] []))
    refine own_Goes.st ?_ (fun _ k => XS.aloadN X5.here hx rfl (hb hby at_27) rfl rfl k)
    show own_Goes p.tables e below P (T5.setTop (mkF m 28 #[.val (.int p0), .val (.ref ad), .val (.ref ai)] [(.ref ai)]))
    refine own_Goes.st ?_ (fun _ k => XS.aloadN X5.here hx rfl (hb hby at_28) rfl rfl k)
    show own_Goes p.tables e below P (T5.setTop (mkF m 29 #[.val (.int p0), .val (.ref ad), .val (.ref ai)] [(.ref ad), (.ref ai)]))
    refine own_Goes.st ?_ (fun _ k => Jvm.RoadKit.acmp (g := (mkF m 29 #[.val (.int p0), .val (.ref ad), .val (.ref ai)] [(.ref ad), (.ref ai)])) X5 hx rfl rfl rfl (pc0 := 29) (pc' := 34) (same := false) rfl (hb hby at_29) rfl (decide_eq_false fun q => pr5 (Value.ref.inj q)) (by decide) (by decide) k)
    show own_Goes p.tables e below P (T5.setTop (mkF m 34 #[.val (.int p0), .val (.ref ad), .val (.ref ai)] []))
    refine own_Goes.st ?_ (fun _ k => XS.aloadN X5.here hx rfl (hb hby at_34) rfl rfl k)
    show own_Goes p.tables e below P (T5.setTop (mkF m 35 #[.val (.int p0), .val (.ref ad), .val (.ref ai)] [(.ref ai)]))
    obtain ⟨cq6, kq6, q6a, q6b, q6c⟩ := isOf hZ e5 pr3
    obtain ⟨_, _, ⟨T6, L6, k6, n6⟩, -, X6, ⟨Lc6, hQ6, l6, y6, z6⟩, st6⟩ := X5.virtualBack hx (y := (⟨"com/example/taxodelta/taxodelta/pairgen/Taxonomy$PeriodType", "flipped", "()Lcom/example/taxodelta/taxodelta/pairgen/Taxonomy$PeriodType;"⟩ : MethodName)) (z := (⟨"com/example/taxodelta/taxodelta/pairgen/Taxonomy$PeriodType", "flipped", "()Lcom/example/taxodelta/taxodelta/pairgen/Taxonomy$PeriodType;"⟩ : MethodName)) hown (mvT hZ (hw _ (List.mem_of_getElem? (i := 3) rfl))) (mvT hZ (hw _ (List.mem_of_getElem? (i := 4) rfl))) (notFace_of_selects (args := #[]) (mvT hZ (hw _ (List.mem_of_getElem? (i := 6) rfl)))) (mvT hZ (hw _ (List.mem_of_getElem? (i := 6) rfl))) (mvT hZ (hw _ (List.mem_of_getElem? (i := 5) rfl))) (by decide) (backOf (W := 0) (rm_flipI l Z a0 hw [] ai ad h0 n0 Z0 pr0 pr1 pr2) hZ (hw _ (List.mem_of_getElem? (i := 7) rfl)) (hw _ (List.mem_of_getElem? (i := 1) rfl)) (by decide) (by decide)) q6a q6c (g := (mkF m 35 #[.val (.int p0), .val (.ref ad), .val (.ref ai)] [(.ref ai)])) rfl (by rw [hml]; rfl) (Steps.refl _) (argsL := []) (rest := []) (lenOf own_pd__28__29_Lcom_2f_example_2f_taxodelta_2f_taxodelta_2f_pairgen_2f_Taxonomy_24_PeriodType_3b_ rfl) rfl (by show 2 * 0 + _ ≤ _; exact Nat.le_of_eq rfl) (hb hby at_35) (fun _ _ => ⟨rfl, e5, (by decide : 0 + 0 ≤ _), (by decide : 0 + 0 ≤ _)⟩)
    dsimp only [Pt.U, Pt.locs, Pt.cells, Pt.slots] at X6 l6 y6 z6 st6 hQ6
    rw [l6, y6, z6] at X6
    obtain ⟨rfl, Nq6, e6⟩ := hQ6
    have N6 := Fr.app N5 Nq6
    refine own_Goes.tr st6 ?_
    show own_Goes p.tables e below P (T6.setTop (mkF m 38 #[.val (.int p0), .val (.ref ad), .val (.ref ai)] [(.ref ad)]))
    refine own_Goes.st ?_ (fun _ k => XS.aloadN X6.here hx rfl (hb hby at_38) rfl rfl k)
    show own_Goes p.tables e below P (T6.setTop (mkF m 39 #[.val (.int p0), .val (.ref ad), .val (.ref ai)] [(.ref ad), (.ref ad)]))
    refine own_Goes.st ?_ (fun _ k => Jvm.RoadKit.acmp (g := (mkF m 39 #[.val (.int p0), .val (.ref ad), .val (.ref ai)] [(.ref ad), (.ref ad)])) X6 hx rfl rfl rfl (pc0 := 39) (pc' := 42) (same := true) rfl (hb hby at_39) rfl (decide_eq_true rfl) (by decide) (by decide) k)
    show own_Goes p.tables e below P (T6.setTop (mkF m 42 #[.val (.int p0), .val (.ref ad), .val (.ref ai)] []))
    refine own_Goes.st ?_ (fun _ k => XS.iconst X6.here hx rfl (hb hby at_42) k)
    show own_Goes p.tables e below P (T6.setTop (mkF m 43 #[.val (.int p0), .val (.ref ad), .val (.ref ai)] [(.int (1 : Int32))]))
    refine own_Goes.st ?_ (fun _ k => XS.goto X6.here hx rfl (pc0 := 43) (pc' := 47) rfl (hb hby at_43) (by decide) (by decide) k)
    show own_Goes p.tables e below P (T6.setTop (mkF m 47 #[.val (.int p0), .val (.ref ad), .val (.ref ai)] [(.int (1 : Int32))]))
    obtain ⟨fs, hr, hrun, hended, hW, hsame⟩ := X6.leave (v := some (.int (1 : Int32))) (fun h => by rw [Bd.returns] at h; cases h)
    exact own_Goes.fin _ _ (retOut X6 hx (t := .boolean) Bd.returns rfl (Or.inl ⟨rfl, Or.inr (Or.inl rfl), _, rfl⟩) (hb hby at_47) hr) (hPP _ _ ⟨hrun, hended, _, _, rfl, (by show Q_law n0 _ _; exact ⟨rfl, N6⟩), ⟨_, rfl⟩, hW, hsame.mono (by decide) (by decide)⟩)
set_option maxRecDepth 65536 in
set_option maxHeartbeats 40000000 in
theorem comes_1 {Post : Tables → Env → Array Value → State → Outcome → State → Prop} (hpost : ∀ tb e args s v u, (limb_1_1.after args s (.returned v) u = true ∧ limb_1_2.after args s (.returned v) u = true ∧ True) → FrameEnd s (.returned v) u (Jvm.fieldLocs frame_1_writes args s ++ Jvm.arrayLocs frame_1_arrays args s ++ Jvm.staticLocs frame_1_statics s) 0 0 → Post tb e args s (.returned v) u) :
    ArmFor flags0 classFile x code maxLocals ret World_1 tables_1 room_1 Calls_1 rest_1 Pre_1 Post := by
  intro l hfl _ _ p e ha hc hk s m args below hf hA hF happ hP
  obtain ⟨hcalls, hrest, hpre⟩ := hP
  obtain ⟨-, -, -, hnamed, -, -, -, hat⟩ := (Spec.applies_iff hf).mp happ
  obtain ⟨hg, hn⟩ := and_e (Cond.before_iff.mp (show (Jvm.Cond.and given_1 narrow_1).before args s = true from hpre))
  obtain ⟨hg0, hg1⟩ := and_e hg
  obtain ⟨w0, rfl⟩ : ∃ w0 : Value, args = #[w0] := by
    have hs : args.size = 1 := by simpa [Cond.value, given_1] using hg0
    obtain ⟨L⟩ := args
    match L, hs with
    | [w0], _ => exact ⟨w0, rfl⟩
  have hw := fun d (hd : d ∈ tables_1) => atoms_spec (ws := Jvm.Cond.code x code maxLocals ret :: tables_1) hat d (List.mem_cons_of_mem _ hd)
  have hfit : Fit s := fun {y c} hc i hi => by
    obtain ⟨ha, rfl⟩ := Array.getElem?_eq_some_iff.mp hc
    have q := List.all_eq_true.mp ((Array.all_eq_true_iff_forall_mem.mp hF) _ (Array.getElem_mem ha)) i (List.mem_range.mpr hi)
    simpa [Array.getElem?_eq_getElem hi] using q
  obtain ⟨i0, ei0⟩ := is_v hg1
  obtain rfl : w0 = (.int i0) := Option.some.inj ei0
  obtain ⟨hx1, hn1⟩ := and_e hn
  obtain ⟨hx2, hn2⟩ := and_e hn1
  obtain ⟨ho1, ho0⟩ := and_e hn2
  obtain ⟨ai, eai⟩ := exa_v hx1
  obtain ⟨ad, ead⟩ := exa_v hx2
  have SI := Sta.start eai (Or.inr ⟨(hw _ (List.mem_of_getElem? (i := 1) rfl)), (hw _ (List.mem_of_getElem? (i := 2) rfl))⟩)
  have SD := Sta.start ead (Or.inr ⟨(hw _ (List.mem_of_getElem? (i := 1) rfl)), (hw _ (List.mem_of_getElem? (i := 10) rfl))⟩)
  have EI := Exa.start eai hx1
  have ED := Exa.start ead hx2
  have nid := own_ord ho0 ho1 (by decide) eai ead
  obtain ⟨n, o, h1, h2, h3, _, L, rfl, ⟨rfl, N⟩, hq⟩ := rm_law l s _ hw tables_1 i0 ai ad s.heap s.heap.size (Nat.le_refl _) SI SD (Old.start s) EI ED nid p e ha hc hk s m _ below hf ((Spec.applies_iff_loose hf).mp happ).1 ⟨rfl, State.Warmed39.refl s, rfl⟩ trivial
  refine ⟨n, _, h1, h2, h3, hpost _ _ _ _ _ _ ⟨Cond.after_iff.mpr rfl, Cond.after_iff.mpr (eq_i res_at (Term.int_eval (1)) rfl), trivial⟩ ⟨hq.1, hq.2.1, (hq.2.2.sift fun y hy => Or.inr (N y hy)).mono (by decide) (by decide)⟩⟩
theorem main_1_1 : Claimed_1_1 := comes_1 fun _ _ _ _ _ _ h hF => ⟨h.1, hF⟩
theorem main_1_2 : Claimed_1_2 := comes_1 fun _ _ _ _ _ _ h hF => ⟨h.2.1, hF⟩
end Jvm.Pilot.@@N@@
namespace Jvm.Pilot.@@N@@
open Jvm Jvm.ClassFile Sem Op Lib Jvm.Free Jvm.Stand Jvm.Pilot.@@N@@.Jvm.D
/-! MADE BY PROGRAM (witnessworld.py) out of the Statement's table words and the real class files: 12 classes; the members and pool entries that the words name. The judged class is class 1, her method 1. -/
namespace start1
open Jvm.ClassFile
def u (s : String) : CpInfo := .utf8 (stringToUtf16 s)
/-- a pool by its gaps: so many unusable entries, then the entry; so many at the end -/
def gap : Nat → List CpInfo → List CpInfo
  | 0, r => r
  | n + 1, r => .unusable :: gap n r
def poolList (es : List (Nat × CpInfo)) (last : Nat) : List CpInfo := es.foldr (fun e r => gap e.1 (e.2 :: r)) (gap last [])
def pool (es : List (Nat × CpInfo)) (last : Nat) : Array CpInfo := ⟨poolList es last⟩
def fileOf (pool : Array CpInfo) (this : Nat) (attrs : Array Attribute := #[]) (ms : Array MethodInfo := #[]) (fl : Nat := 33) (sup : Nat := 0) (ifs : Array Nat := #[]) (fds : Array FieldInfo := #[]) : ClassFile where
  minorVersion := 0
  majorVersion := 65
  constantPool := pool
  accessFlags := fl
  thisClass := this
  superClass := sup
  interfaces := ifs
  fields := fds
  methods := ms
  attributes := attrs
def plain (name : String) (sup : Option ClassId) : Class where
  name := name
  kind := .ordinary
  loader := none
  accessFlags := 33
  super := sup
  interfaces := #[]
  cf := none
  fields := #[]
  methods := #[]
  instanceTypes := #[]
  staticTypes := #[]
  resolved := #[]
  callSites := []
  init := .initialized
  statics := none
  mirror := none

def pool0 : Array CpInfo := pool [(5, u "<init>"), (0, u "()V"), (1, .class_ 10), (1, u "java/lang/Object")] 113

def k0m0 : Method := { name := "<init>", desc := "()V", sig := { parameters := [], returnType := none }, accessFlags := 1, code := none }
/-- java/lang/Object -/
def k0 : Class := { plain "java/lang/Object" none with
  accessFlags := 33
  interfaces := #[]
  cf := some (fileOf pool0 8 #[] #[{ accessFlags := 1, nameIndex := 5, descriptorIndex := 6, attributes := #[] }] 33 0 #[] #[])
  fields := #[]
  methods := #[k0m0]
  instanceTypes := #[]
  staticTypes := #[]
  resolved := Array.replicate 124 none
  statics := none }

def pool1 : Array CpInfo := pool [(2, .class_ 4), (1, u "java/lang/Object"), (0, u "<init>"), (0, u "()V"), (0, .fieldref 8 9), (0, .class_ 10), (0, .nameAndType 11 12), (0, u "com/example/taxodelta/taxodelta/pairgen/Taxonomy$PeriodType"), (0, u "INSTANT"), (0, u "Lcom/example/taxodelta/taxodelta/pairgen/Taxonomy$PeriodType;"), (0, .fieldref 8 14), (0, .nameAndType 15 12), (0, u "DURATION"), (0, .methodref 8 17), (0, .nameAndType 18 19), (0, u "flipped"), (0, u "()Lcom/example/taxodelta/taxodelta/pairgen/Taxonomy$PeriodType;"), (0, .class_ 21), (0, u "com/example/taxodelta/taxodelta/pairgen/PeriodTypeFlippedPinLaw"), (2, u "law"), (0, u "(I)Z")] 7

def k1m0 : Method := { name := "<init>", desc := "()V", sig := { parameters := [], returnType := none }, accessFlags := 1, code := none }
def k1c1 : Code := { maxStack := 2, maxLocals := 3, code := code, exceptionTable := #[], attributes := #[] }
def k1m1 : Method := { name := "law", desc := "(I)Z", sig := { parameters := [.int], returnType := some .boolean }, accessFlags := 9, code := some k1c1 }
/-- com/example/taxodelta/taxodelta/pairgen/PeriodTypeFlippedPinLaw -/
def k1 : Class := { plain "com/example/taxodelta/taxodelta/pairgen/PeriodTypeFlippedPinLaw" (some 0) with
  accessFlags := 49
  interfaces := #[]
  cf := some (fileOf pool1 20 #[] #[{ accessFlags := 1, nameIndex := 5, descriptorIndex := 6, attributes := #[] }, { accessFlags := 9, nameIndex := 24, descriptorIndex := 25, attributes := #[] }] 49 2 #[] #[])
  fields := #[]
  methods := #[k1m0, k1m1]
  instanceTypes := #[]
  staticTypes := #[]
  resolved := Array.replicate 33 none
  statics := none }

def pool2 : Array CpInfo := pool [(1, .class_ 2), (0, u "java/lang/constant/Constable"), (0, .class_ 4), (0, u "java/lang/Object")] 6

/-- java/lang/constant/Constable -/
def k2 : Class := { plain "java/lang/constant/Constable" (some 0) with
  accessFlags := 1537
  interfaces := #[]
  cf := some (fileOf pool2 1 #[] #[] 1537 3 #[] #[])
  fields := #[]
  methods := #[]
  instanceTypes := #[]
  staticTypes := #[]
  resolved := Array.replicate 11 none
  statics := none }

def pool3 : Array CpInfo := pool [(1, .class_ 2), (0, u "java/lang/Comparable"), (0, .class_ 4), (0, u "java/lang/Object")] 7

/-- java/lang/Comparable -/
def k3 : Class := { plain "java/lang/Comparable" (some 0) with
  accessFlags := 1537
  interfaces := #[]
  cf := some (fileOf pool3 1 #[] #[] 1537 3 #[] #[])
  fields := #[]
  methods := #[]
  instanceTypes := #[]
  staticTypes := #[]
  resolved := Array.replicate 12 none
  statics := none }

def pool4 : Array CpInfo := pool [(1, .class_ 2), (0, u "java/io/Serializable"), (0, .class_ 4), (0, u "java/lang/Object")] 2

/-- java/io/Serializable -/
def k4 : Class := { plain "java/io/Serializable" (some 0) with
  accessFlags := 1537
  interfaces := #[]
  cf := some (fileOf pool4 1 #[] #[] 1537 3 #[] #[])
  fields := #[]
  methods := #[]
  instanceTypes := #[]
  staticTypes := #[]
  resolved := Array.replicate 7 none
  statics := none }

def pool5 : Array CpInfo := pool [(2, .class_ 4), (1, u "java/lang/Enum"), (0, u "name"), (0, u "Ljava/lang/String;"), (2, u "ordinal"), (0, u "I"), (1, .class_ 14), (1, u "java/lang/Object"), (4, u "hash"), (86, .class_ 108), (1, u "java/lang/Enum$EnumDesc"), (2, .class_ 112), (0, u "java/lang/constant/Constable"), (0, .class_ 114), (0, u "java/lang/Comparable"), (0, .class_ 116), (0, u "java/io/Serializable")] 87

/-- java/lang/Enum -/
def k5 : Class := { plain "java/lang/Enum" (some 0) with
  accessFlags := 1057
  interfaces := #[2, 3, 4]
  cf := some (fileOf pool5 2 #[.nestMembers #[106]] #[] 1057 12 #[111, 113, 115] #[{ accessFlags := 18, nameIndex := 5, descriptorIndex := 6, attributes := #[] }, { accessFlags := 18, nameIndex := 9, descriptorIndex := 10, attributes := #[] }, { accessFlags := 2, nameIndex := 19, descriptorIndex := 10, attributes := #[] }])
  fields := #[{ name := "name", type := (.object "java/lang/String"), accessFlags := 18, slot := 0, constantValue := 0 }, { name := "ordinal", type := .int, accessFlags := 18, slot := 1, constantValue := 0 }, { name := "hash", type := .int, accessFlags := 2, slot := 2, constantValue := 0 }]
  methods := #[]
  instanceTypes := #[(.object "java/lang/String"), .int, .int]
  staticTypes := #[]
  resolved := Array.replicate 204 none
  statics := none }

def pool6 : Array CpInfo := pool [(1, .class_ 2), (0, u "com/example/taxodelta/taxodelta/pairgen/Taxonomy$PeriodType"), (0, .fieldref 1 4), (0, .nameAndType 5 6), (0, u "INSTANT"), (0, u "Lcom/example/taxodelta/taxodelta/pairgen/Taxonomy$PeriodType;"), (0, .fieldref 1 8), (0, .nameAndType 9 6), (0, u "DURATION"), (2, u "$VALUES"), (0, u "[Lcom/example/taxodelta/taxodelta/pairgen/Taxonomy$PeriodType;"), (6, .class_ 22), (1, u "java/lang/Enum"), (20, u "flipped"), (0, u "()Lcom/example/taxodelta/taxodelta/pairgen/Taxonomy$PeriodType;"), (6, .class_ 52), (0, u "com/example/taxodelta/taxodelta/pairgen/Taxonomy")] 2

def k6c0 : Code := { maxStack := 2, maxLocals := 1, code := prog_10_method_4_code, exceptionTable := #[], attributes := #[] }
def k6m0 : Method := { name := "flipped", desc := "()Lcom/example/taxodelta/taxodelta/pairgen/Taxonomy$PeriodType;", sig := { parameters := [], returnType := some (.object "com/example/taxodelta/taxodelta/pairgen/Taxonomy$PeriodType") }, accessFlags := 0, code := some k6c0 }
/-- com/example/taxodelta/taxodelta/pairgen/Taxonomy$PeriodType -/
def k6 : Class := { plain "com/example/taxodelta/taxodelta/pairgen/Taxonomy$PeriodType" (some 5) with
  accessFlags := 16432
  interfaces := #[]
  cf := some (fileOf pool6 1 #[.nestHost 51] #[{ accessFlags := 0, nameIndex := 43, descriptorIndex := 44, attributes := #[] }] 16432 20 #[] #[{ accessFlags := 16409, nameIndex := 5, descriptorIndex := 6, attributes := #[] }, { accessFlags := 16409, nameIndex := 9, descriptorIndex := 6, attributes := #[] }, { accessFlags := 4122, nameIndex := 12, descriptorIndex := 13, attributes := #[] }])
  fields := #[{ name := "INSTANT", type := (.object "com/example/taxodelta/taxodelta/pairgen/Taxonomy$PeriodType"), accessFlags := 16409, slot := 0, constantValue := 0 }, { name := "DURATION", type := (.object "com/example/taxodelta/taxodelta/pairgen/Taxonomy$PeriodType"), accessFlags := 16409, slot := 1, constantValue := 0 }, { name := "$VALUES", type := (.array (.object "com/example/taxodelta/taxodelta/pairgen/Taxonomy$PeriodType")), accessFlags := 4122, slot := 2, constantValue := 0 }]
  methods := #[k6m0]
  instanceTypes := #[(.object "java/lang/String"), .int, .int]
  staticTypes := #[(.object "com/example/taxodelta/taxodelta/pairgen/Taxonomy$PeriodType"), (.object "com/example/taxodelta/taxodelta/pairgen/Taxonomy$PeriodType"), (.array (.object "com/example/taxodelta/taxodelta/pairgen/Taxonomy$PeriodType"))]
  resolved := Array.replicate 55 none
  statics := some 0 }

def pool7 : Array CpInfo := pool [(1, u "java/lang/Cloneable"), (0, .class_ 1), (0, u "java/lang/Object"), (0, .class_ 3)] 3

/-- java/lang/Cloneable -/
def k7 : Class := { plain "java/lang/Cloneable" (some 0) with
  accessFlags := 1537
  interfaces := #[]
  cf := some (fileOf pool7 2 #[] #[] 1537 4 #[] #[])
  fields := #[]
  methods := #[]
  instanceTypes := #[]
  staticTypes := #[]
  resolved := Array.replicate 8 none
  statics := none }

/-- the primitive byte -/
def k8 : Class := { plain "byte" none with kind := .primitive 'B', accessFlags := 0x411 }
/-- [B -/
def k9 : Class := { plain "[B" (some 0) with kind := .array 8 .byte, interfaces := #[7, 4], accessFlags := 1041 }

/-- the primitive int -/
def k10 : Class := { plain "int" none with kind := .primitive 'I', accessFlags := 0x411 }
/-- [I -/
def k11 : Class := { plain "[I" (some 0) with kind := .array 10 .int, interfaces := #[7, 4], accessFlags := 1041 }

def heap : Heap := #[{ cls := 6, slots := #[.ref 1, .ref 2, .null], vm := .statics 6 },
  { cls := 6, slots := #[.null, .int 0, .int 0], vm := .none },
  { cls := 6, slots := #[.null, .int 1, .int 0], vm := .none }]
def classes : Array Class := #[k0, k1, k2, k3, k4, k5, k6, k7, k8, k9, k10, k11]
def interned : List (Array UInt16 × Addr) := []
def slotsUsed : Nat := 9
def theMethod : MethodId := ⟨1, 1⟩
def args0 : Array Value := #[.int 3]
def aboutOver (below : List Frame) : State where
  vm := { classes := classes, interned := interned.toArray }
  heap := heap
  slotsUsed := slotsUsed
  threads := #[{ frames := .invoking theMethod args0 :: below }]
def below0 : List Frame := [.native { method := ⟨0, 0⟩, args := #[] }]
def about1 : State := aboutOver below0
def p0 : Program := .bare "" "" ""
def e0 : Env := launch0.env 0 0 0
theorem w_frames : about1.frames = Frame.invoking theMethod args0 :: below0 := rfl
set_option maxRecDepth 65536 in
theorem w_args : argsFit about1.vm theMethod args0 = true := by decide +kernel
set_option maxRecDepth 65536 in
theorem w_heap : heapFits about1 = true := by decide +kernel
set_option maxRecDepth 65536 in
theorem w_runnable : about1.curStatus? = some .runnable := by decide +kernel
set_option maxRecDepth 65536 in
theorem w_alone : about1.alone = true := by decide +kernel
set_option maxRecDepth 65536 in
theorem w_named : about1.methodNamed? x = some theMethod := by decide +kernel
set_option maxRecDepth 65536 in
theorem w_hears : about1.hears theMethod below0 = true := by decide +kernel
set_option maxRecDepth 65536 in
theorem w_ripe : about1.ripe theMethod args0 below0 = true := by decide +kernel
theorem w_running : about1.status = .running := rfl
set_option maxRecDepth 65536 in
theorem w_room : about1.hasRoom e0.platform room_1 = true :=
  launch0.hasRoom_least _ room_1 (by decide +kernel) (by decide +kernel) (by decide +kernel) (by decide +kernel) (by decide +kernel) (by decide +kernel)
theorem allAtoms_all (ts : List Jvm.Cond) (a : Array Jvm.Value) (st : Jvm.State) : (allAtoms ts).before a st = ts.all (fun c => c.before a st) := by
  induction ts with
  | nil => rfl
  | cons c t ih =>
    show (Jvm.Cond.and c (allAtoms t)).before a st = _
    rw [Jvm.Cond.before_and, ih, List.all_cons]
def words1 : List Jvm.Cond := Jvm.Cond.code x code maxLocals ret :: tables_1
/-- a 'code' word, met by the world's own term for the bytes: nothing is compared byte by byte -/
theorem code_word {y : MethodName} {bytes : ByteArray} {mx : Nat} {rt : Option FieldType} {a : Array Value} {s : State} {m : MethodId} {meth : Method} {c : Code} (h1 : s.methodNamed? y = some m) (h2 : s.vm.method? m = some meth) (h3 : meth.code = some c) (h4 : c.code = bytes)
    (h5 : (c.maxLocals == mx && c.exceptionTable.isEmpty && decide (c.maxStack ≤ mostOperands) && decide (meth.sig.returnType = rt) && !meth.locks && decide (parseMethodDescriptor y.desc = some meth.sig)) = true) : (Jvm.Cond.code y bytes mx rt).before a s = true := by
  simp only [Bool.and_eq_true, beq_iff_eq, Bool.not_eq_true', decide_eq_true_eq] at h5
  obtain ⟨⟨⟨⟨⟨g1, g2⟩, g3⟩, g4⟩, g5⟩, g6⟩ := h5
  simp [Cond.before, Cond.holds, Cond.value, h1, h2, h3, h4, g1, g2, g3, g4, g5, g6]
def isCode : Jvm.Cond → Bool
  | .code _ _ _ _ => true
  | _ => false
theorem all_split {L : List Jvm.Cond} {P : Jvm.Cond → Bool} (h1 : L.all (fun c => isCode c || P c) = true) (h2 : ∀ c ∈ L.filter isCode, P c = true) : L.all P = true := by
  refine List.all_eq_true.mpr fun c hc => ?_
  have h := List.all_eq_true.mp h1 c hc
  rcases Bool.eq_false_or_eq_true (isCode c) with hi | hi
  · exact h2 c (List.mem_filter.mpr ⟨hc, hi⟩)
  · simpa [hi] using h
set_option maxRecDepth 65536 in
theorem w_c0 : (Jvm.Cond.code x code maxLocals ret).before args0 about1 = true := code_word (m := ⟨1, 1⟩) (meth := k1m1) (c := k1c1) (by decide +kernel) rfl rfl rfl (by decide +kernel)
set_option maxRecDepth 65536 in
theorem w_c1 : (Jvm.Cond.code ({ cls := "com/example/taxodelta/taxodelta/pairgen/Taxonomy$PeriodType", name := "flipped", desc := "()Lcom/example/taxodelta/taxodelta/pairgen/Taxonomy$PeriodType;" } : Jvm.MethodName) prog_10_method_4_code (1 : Nat) (Option.some (Jvm.ClassFile.FieldType.object "com/example/taxodelta/taxodelta/pairgen/Taxonomy$PeriodType"))).before args0 about1 = true := code_word (m := ⟨6, 0⟩) (meth := k6m0) (c := k6c0) (by decide +kernel) rfl rfl rfl (by decide +kernel)
def codes1 : List Jvm.Cond := [Jvm.Cond.code x code maxLocals ret, Jvm.Cond.code ({ cls := "com/example/taxodelta/taxodelta/pairgen/Taxonomy$PeriodType", name := "flipped", desc := "()Lcom/example/taxodelta/taxodelta/pairgen/Taxonomy$PeriodType;" } : Jvm.MethodName) prog_10_method_4_code (1 : Nat) (Option.some (Jvm.ClassFile.FieldType.object "com/example/taxodelta/taxodelta/pairgen/Taxonomy$PeriodType"))]
set_option maxRecDepth 65536 in
theorem codes_eq : words1.filter isCode = codes1 := rfl
theorem w_codes : ∀ c ∈ words1.filter isCode, c.before args0 about1 = true := by
  rw [codes_eq]
  intro c hc
  simp only [codes1, List.mem_cons, List.not_mem_nil, or_false] at hc
  rcases hc with rfl | rfl
  · exact w_c0
  · exact w_c1
set_option maxRecDepth 65536 in
theorem w_t1 : words1.all (fun c => isCode c || c.before args0 about1) = true := by decide +kernel
theorem w_tables : (allAtoms (Jvm.Cond.code x code maxLocals ret :: tables_1)).before args0 about1 = true := by
  rw [allAtoms_all]
  show words1.all (fun c => c.before args0 about1) = true
  refine all_split ?_ w_codes
  rw [w_t1]
set_option maxRecDepth 65536 in
theorem w_case : (Jvm.Cond.and given_1 narrow_1).before args0 about1 = true := by decide +kernel
theorem w_applies : (headSpec (Jvm.Cond.code x code maxLocals ret :: tables_1) room_1).applies x e0.platform about1 = true :=
  (Spec.applies_iff w_frames).mpr ⟨w_running, w_runnable, w_alone, w_named, w_hears, w_ripe, w_room, w_tables⟩
theorem atStart : AtStart classFile x code maxLocals ret World_1 tables_1 room_1 Calls_1 rest_1 Pre_1 launch0 p0 e0 about1 theMethod args0 below0 :=
  ⟨lists_1, trivial, launch0.admits_env _ _ _, launch0.least_env, fairChoices_fair.cas, fairChoices_fair.clock, w_frames, w_args, w_heap, w_applies, trivial, trivial, w_case⟩
end start1
theorem witness_1 : WitnessClaimed_1 := ⟨start1.p0, start1.e0, start1.about1, start1.theMethod, start1.args0, start1.below0, start1.atStart⟩
end Jvm.Pilot.@@N@@
