import JvmDerived
import JvmDerived.Pilot.@@N@@Statement
import JvmDerived.Pilot.@@N@@Code
set_option linter.unusedVariables false
set_option linter.unusedSimpArgs false
namespace Jvm.RoadKit
open Sem ClassFile Op Lib Jvm.Stand Jvm.Free Jvm.LawKit
/-- the walk that stands at S comes to an end of which P holds -/
def own_Goes (tb : Tables) (e : Env) (below : List Frame) (P : State → Outcome → Prop) (S : State) : Prop := ∃ t o, Steps tb e below S t ∧ P t o
theorem own_Goes.of {tb : Tables} {e : Env} {below : List Frame} {P : State → Outcome → Prop} {S : State} (k : own_Goes tb e below P S) : ∃ t o, Steps tb e below S t ∧ P t o := k
theorem own_Goes.nm {tb : Tables} {e : Env} {below : List Frame} {P : State → Outcome → Prop} {S : State} (k : ∀ P' : State → Outcome → Prop, (∀ t o, P t o → P' t o) → own_Goes tb e below P' S) : own_Goes tb e below P S := k P fun _ _ q => q
theorem own_Goes.st {tb : Tables} {e : Env} {below : List Frame} {P : State → Outcome → Prop} {S S' : State} (k : own_Goes tb e below P S') (h : ∀ t, Steps tb e below S' t → Steps tb e below S t) : own_Goes tb e below P S := by
  obtain ⟨t, o, h1, h2⟩ := k; exact ⟨t, o, h t h1, h2⟩
theorem own_Goes.tr {tb : Tables} {e : Env} {below : List Frame} {P : State → Outcome → Prop} {S S' : State} (h : Steps tb e below S S') (k : own_Goes tb e below P S') : own_Goes tb e below P S := by
  obtain ⟨t, o, h1, h2⟩ := k; exact ⟨t, o, h.trans h1, h2⟩
theorem own_Goes.fin {tb : Tables} {e : Env} {below : List Frame} {P : State → Outcome → Prop} {S : State} (t : State) (o : Outcome) (h : Steps tb e below S t) (k : P t o) : own_Goes tb e below P S := ⟨t, o, h, k⟩
end Jvm.RoadKit
namespace Jvm.Pilot.@@N@@
open Jvm Jvm.ClassFile Sem Op Lib Jvm.Free Jvm.Stand Jvm.LawKit Jvm.RoadKit Bundle Jvm.Pilot.@@N@@.Jvm.D
def own_ref (z : Int32) : Int32 := if z = 32 then 1 else if z = 9 then 1 else if z = 13 then 1 else if z = 10 then 1 else 0
def own_ws (z : Int32) : Int32 := if 32 < z then 0 else own_ref z
theorem own_same (z : Int32) : own_ws z = own_ref z := by
  rw [own_ws]
  by_cases h : 32 < z
  · have e : ∀ k : Int32, k ≤ 32 → ¬ z = k := fun k hk q => by subst q; exact absurd h (Int32.not_lt.mpr hk)
    rw [if_pos h, own_ref, if_neg (e 32 (by decide)), if_neg (e 9 (by decide)), if_neg (e 13 (by decide)), if_neg (e 10 (by decide))]
  · rw [if_neg h]
theorem own_idx (y : Int32) : ¬ ((y &&& (2147483647 : Int32)) % (29 : Int32)) < 0 ∧ ((y &&& (2147483647 : Int32)) % (29 : Int32)) < 29 := by
  have m := c_mask y 2147483647 31 (by decide) (by decide)
  have q := (c_irem (y &&& 2147483647) 29 29 (by decide)).1 (by rw [m]; omega)
  have c0 : (0 : Int32).toInt = 0 := by decide
  have c1 : (29 : Int32).toInt = 29 := by decide
  rw [Int32.lt_iff_toInt_lt, Int32.lt_iff_toInt_lt, q, c0, c1]; omega
theorem own_ef_ws (m : MethodId) (x0 : Int32) : entryFrame m #[(.int x0)] 1 = mkF m 0 #[.val (.int x0)] [] := by first | (simp [entryFrame, mkF, argsToLocals, Value.category]; done) | rfl
theorem own_pn_com_example_larder_larder_TextSyntax : plainName "com/example/larder/larder/TextSyntax" = true := by first | (simp [plainName, overriddenIn]; done) | decide +kernel
theorem own_d_prog_36_method_2_30 : decode prog_36_method_2_code 30 = .ok (.iconst 1, 1) := by decide +kernel
theorem own_d_prog_36_method_2_31 : decode prog_36_method_2_code 31 = .ok (.goto 4, 3) := by decide +kernel
theorem own_d_prog_36_method_2_35 : decode prog_36_method_2_code 35 = .ok (.ireturn, 1) := by decide +kernel
theorem own_d_prog_36_method_2_0 : decode prog_36_method_2_code 0 = .ok (.iload_n 0, 1) := by decide +kernel
theorem own_d_prog_36_method_2_1 : decode prog_36_method_2_code 1 = .ok (.bipush 32, 2) := by decide +kernel
theorem own_d_prog_36_method_2_3 : decode prog_36_method_2_code 3 = .ok (.if_icmp .gt 31, 3) := by decide +kernel
theorem own_d_prog_36_method_2_34 : decode prog_36_method_2_code 34 = .ok (.iconst 0, 1) := by decide +kernel
theorem own_d_prog_36_method_2_6 : decode prog_36_method_2_code 6 = .ok (.iload_n 0, 1) := by decide +kernel
theorem own_d_prog_36_method_2_7 : decode prog_36_method_2_code 7 = .ok (.bipush 32, 2) := by decide +kernel
theorem own_d_prog_36_method_2_9 : decode prog_36_method_2_code 9 = .ok (.if_icmp .eq 21, 3) := by decide +kernel
theorem own_d_prog_36_method_2_12 : decode prog_36_method_2_code 12 = .ok (.iload_n 0, 1) := by decide +kernel
theorem own_d_prog_36_method_2_13 : decode prog_36_method_2_code 13 = .ok (.bipush 9, 2) := by decide +kernel
theorem own_d_prog_36_method_2_15 : decode prog_36_method_2_code 15 = .ok (.if_icmp .eq 15, 3) := by decide +kernel
theorem own_d_prog_36_method_2_18 : decode prog_36_method_2_code 18 = .ok (.iload_n 0, 1) := by decide +kernel
theorem own_d_prog_36_method_2_19 : decode prog_36_method_2_code 19 = .ok (.bipush 13, 2) := by decide +kernel
theorem own_d_prog_36_method_2_21 : decode prog_36_method_2_code 21 = .ok (.if_icmp .eq 9, 3) := by decide +kernel
theorem own_d_prog_36_method_2_24 : decode prog_36_method_2_code 24 = .ok (.iload_n 0, 1) := by decide +kernel
theorem own_d_prog_36_method_2_25 : decode prog_36_method_2_code 25 = .ok (.bipush 10, 2) := by decide +kernel
theorem own_d_prog_36_method_2_27 : decode prog_36_method_2_code 27 = .ok (.if_icmp .ne 7, 3) := by decide +kernel
def Q_ws (Z : State) (z : Int32) (h0 : Heap) (n0 : Nat) (rv_ : Option Value) (h_ : Heap) (L_ : List Loc) : Prop := rv_ = some (.int (own_ws z)) ∧ Fr n0 L_ ∧ h_ = h0
set_option maxRecDepth 65536 in
set_option maxHeartbeats 40000000 in
theorem rm_ws (l : Launch) (Z : State) (a0 : Array Value) (hw : ∀ d ∈ tables_1, d.before a0 Z = true) (ws : List Jvm.Cond) (z : Int32) (h0 : Heap) (n0 : Nat) (Z0 : n0 ≤ h0.size) :
    MetFree l (⟨"com/example/larder/larder/TextSyntax", "isWhitespace", "(I)Z"⟩ : MethodName) (head1 (Jvm.Cond.code (⟨"com/example/larder/larder/TextSyntax", "isWhitespace", "(I)Z"⟩ : MethodName) prog_36_method_2_code 1 (some .boolean) :: ws) ({ frames := 0, cells := 0, slots := 0, locals := 0 } : Room)) (fun as_ U => as_ = #[(.int z)] ∧ Z.Warmed39 U.vm ∧ U.heap = h0) (fun _ _ _ _ _ => True) (fun _ U o U' => ∃ rv_ L_, o = .returned rv_ ∧ Q_ws Z z h0 n0 rv_ U'.heap L_ ∧ FrameEnd U o U' L_ ({ frames := 0, cells := 0, slots := 0, locals := 0 } : Room).cells ({ frames := 0, cells := 0, slots := 0, locals := 0 } : Room).slots) := by
  refine MetFree.of_bodySF (plainFor_of_name own_pn_com_example_larder_larder_TextSyntax) hisR ?_
  intro p e s m args below meth c s₁ Bd hml0 hP hK
  obtain ⟨rfl, hZ, hh⟩ := hP
  have hx := Bd.exec
  have hby := Bd.bytes
  have hml : c.maxLocals = 1 := hml0
  have hown : s.vm.findClass "com/example/larder/larder/TextSyntax" = some m.cls := findClass_of_methodNamed Bd.named
  have hnm := (name_of_methodNamed Bd.named Bd.method).1
  have X0 : Stand p l e ({ frames := 0, cells := 0, slots := 0, locals := 0 } : Room) s m #[(.int z)] below meth c s₁ [] 0 0 := Stand.of_body Bd
  have e0 : s₁.heap = h0 := by rw [← hh, Bd.state]; rfl
  have N0 := Fr.nil n0
  refine own_Goes.of ?_
  refine own_Goes.nm (fun P hPP => ?_)
  refine own_Goes.st ?_ (fun _ k => castTop (own_ef_ws m z) k)
  show own_Goes p.tables e below P (s₁.setTop (mkF m 0 #[.val (.int z)] []))
  have J30 : ∀ (_ : own_ws z = 1), own_Goes p.tables e below P (s₁.setTop (mkF m 30 #[.val (.int z)] [])) := by
    intro hj
    refine own_Goes.st ?_ (fun _ k => XS.iconst X0.here hx rfl (hb hby own_d_prog_36_method_2_30) k)
    show own_Goes p.tables e below P (s₁.setTop (mkF m 31 #[.val (.int z)] [(.int (1 : Int32))]))
    refine own_Goes.st ?_ (fun _ k => XS.goto X0.here hx rfl (pc0 := 31) (pc' := 35) rfl (hb hby own_d_prog_36_method_2_31) (by decide) (by decide) k)
    show own_Goes p.tables e below P (s₁.setTop (mkF m 35 #[.val (.int z)] [(.int (1 : Int32))]))
    obtain ⟨fs, hr, hrun, hended, hW, hsame⟩ := X0.leave (v := some (.int (1 : Int32))) (fun h => by rw [Bd.returns] at h; cases h)
    exact own_Goes.fin _ _ (retOut X0 hx (t := .boolean) Bd.returns rfl (Or.inl ⟨rfl, Or.inr (Or.inl rfl), _, rfl⟩) (hb hby own_d_prog_36_method_2_35) hr) (hPP _ _ ⟨hrun, hended, _, _, rfl, (by show Q_ws Z z h0 n0 _ s₁.heap _; rw [e0]; exact ⟨(by rw [hj]), N0, rfl⟩), ⟨_, rfl⟩, hW, hsame.mono (by decide) (by decide)⟩)
  refine own_Goes.st ?_ (fun _ k => XS.iloadN X0.here hx rfl (hb hby own_d_prog_36_method_2_0) rfl k)
  show own_Goes p.tables e below P (s₁.setTop (mkF m 1 #[.val (.int z)] [(.int z)]))
  refine own_Goes.st ?_ (fun _ k => XS.bipush X0.here hx rfl (hb hby own_d_prog_36_method_2_1) k)
  show own_Goes p.tables e below P (s₁.setTop (mkF m 3 #[.val (.int z)] [(.int (32 : Int32)), (.int z)]))
  by_cases hg0 : (32 : Int32) < z
  · skip
    refine own_Goes.st ?_ (fun _ k => XS.icmpYes X0.here hx rfl (pc0 := 3) (pc' := 34) rfl (hb hby own_d_prog_36_method_2_3) rfl (tlt hg0).2.2.1 (by decide) (by decide) k)
    show own_Goes p.tables e below P (s₁.setTop (mkF m 34 #[.val (.int z)] []))
    refine own_Goes.st ?_ (fun _ k => XS.iconst X0.here hx rfl (hb hby own_d_prog_36_method_2_34) k)
    show own_Goes p.tables e below P (s₁.setTop (mkF m 35 #[.val (.int z)] [(.int (0 : Int32))]))
    obtain ⟨fs, hr, hrun, hended, hW, hsame⟩ := X0.leave (v := some (.int (0 : Int32))) (fun h => by rw [Bd.returns] at h; cases h)
    exact own_Goes.fin _ _ (retOut X0 hx (t := .boolean) Bd.returns rfl (Or.inl ⟨rfl, Or.inr (Or.inl rfl), _, rfl⟩) (hb hby own_d_prog_36_method_2_35) hr) (hPP _ _ ⟨hrun, hended, _, _, rfl, (by show Q_ws Z z h0 n0 _ s₁.heap _; rw [e0]; exact ⟨(by rw [own_ws, if_pos hg0]), N0, rfl⟩), ⟨_, rfl⟩, hW, hsame.mono (by decide) (by decide)⟩)
  · skip
    refine own_Goes.st ?_ (fun _ k => XS.icmpNo X0.here hx rfl (hb hby own_d_prog_36_method_2_3) rfl (flt hg0).2.2.1 k)
    show own_Goes p.tables e below P (s₁.setTop (mkF m 6 #[.val (.int z)] []))
    refine own_Goes.st ?_ (fun _ k => XS.iloadN X0.here hx rfl (hb hby own_d_prog_36_method_2_6) rfl k)
    show own_Goes p.tables e below P (s₁.setTop (mkF m 7 #[.val (.int z)] [(.int z)]))
    refine own_Goes.st ?_ (fun _ k => XS.bipush X0.here hx rfl (hb hby own_d_prog_36_method_2_7) k)
    show own_Goes p.tables e below P (s₁.setTop (mkF m 9 #[.val (.int z)] [(.int (32 : Int32)), (.int z)]))
    by_cases h1 : z = (32 : Int32)
    · skip
      refine own_Goes.st ?_ (fun _ k => XS.icmpYes X0.here hx rfl (pc0 := 9) (pc' := 30) rfl (hb hby own_d_prog_36_method_2_9) rfl (teq h1).1 (by decide) (by decide) k)
      show own_Goes p.tables e below P (s₁.setTop (mkF m 30 #[.val (.int z)] []))
      exact (J30 (by rw [own_ws, if_neg hg0, own_ref, if_pos h1]))
    · skip
      refine own_Goes.st ?_ (fun _ k => XS.icmpNo X0.here hx rfl (hb hby own_d_prog_36_method_2_9) rfl (feq h1).1 k)
      show own_Goes p.tables e below P (s₁.setTop (mkF m 12 #[.val (.int z)] []))
      refine own_Goes.st ?_ (fun _ k => XS.iloadN X0.here hx rfl (hb hby own_d_prog_36_method_2_12) rfl k)
      show own_Goes p.tables e below P (s₁.setTop (mkF m 13 #[.val (.int z)] [(.int z)]))
      refine own_Goes.st ?_ (fun _ k => XS.bipush X0.here hx rfl (hb hby own_d_prog_36_method_2_13) k)
      show own_Goes p.tables e below P (s₁.setTop (mkF m 15 #[.val (.int z)] [(.int (9 : Int32)), (.int z)]))
      by_cases h2 : z = (9 : Int32)
      · skip
        refine own_Goes.st ?_ (fun _ k => XS.icmpYes X0.here hx rfl (pc0 := 15) (pc' := 30) rfl (hb hby own_d_prog_36_method_2_15) rfl (teq h2).1 (by decide) (by decide) k)
        show own_Goes p.tables e below P (s₁.setTop (mkF m 30 #[.val (.int z)] []))
        exact (J30 (by rw [own_ws, if_neg hg0, own_ref, if_neg h1, if_pos h2]))
      · skip
        refine own_Goes.st ?_ (fun _ k => XS.icmpNo X0.here hx rfl (hb hby own_d_prog_36_method_2_15) rfl (feq h2).1 k)
        show own_Goes p.tables e below P (s₁.setTop (mkF m 18 #[.val (.int z)] []))
        refine own_Goes.st ?_ (fun _ k => XS.iloadN X0.here hx rfl (hb hby own_d_prog_36_method_2_18) rfl k)
        show own_Goes p.tables e below P (s₁.setTop (mkF m 19 #[.val (.int z)] [(.int z)]))
        refine own_Goes.st ?_ (fun _ k => XS.bipush X0.here hx rfl (hb hby own_d_prog_36_method_2_19) k)
        show own_Goes p.tables e below P (s₁.setTop (mkF m 21 #[.val (.int z)] [(.int (13 : Int32)), (.int z)]))
        by_cases h3 : z = (13 : Int32)
        · skip
          refine own_Goes.st ?_ (fun _ k => XS.icmpYes X0.here hx rfl (pc0 := 21) (pc' := 30) rfl (hb hby own_d_prog_36_method_2_21) rfl (teq h3).1 (by decide) (by decide) k)
          show own_Goes p.tables e below P (s₁.setTop (mkF m 30 #[.val (.int z)] []))
          exact (J30 (by rw [own_ws, if_neg hg0, own_ref, if_neg h1, if_neg h2, if_pos h3]))
        · skip
          refine own_Goes.st ?_ (fun _ k => XS.icmpNo X0.here hx rfl (hb hby own_d_prog_36_method_2_21) rfl (feq h3).1 k)
          show own_Goes p.tables e below P (s₁.setTop (mkF m 24 #[.val (.int z)] []))
          refine own_Goes.st ?_ (fun _ k => XS.iloadN X0.here hx rfl (hb hby own_d_prog_36_method_2_24) rfl k)
          show own_Goes p.tables e below P (s₁.setTop (mkF m 25 #[.val (.int z)] [(.int z)]))
          refine own_Goes.st ?_ (fun _ k => XS.bipush X0.here hx rfl (hb hby own_d_prog_36_method_2_25) k)
          show own_Goes p.tables e below P (s₁.setTop (mkF m 27 #[.val (.int z)] [(.int (10 : Int32)), (.int z)]))
          by_cases h4 : z = (10 : Int32)
          · skip
            refine own_Goes.st ?_ (fun _ k => XS.icmpNo X0.here hx rfl (hb hby own_d_prog_36_method_2_27) rfl (teq h4).2 k)
            show own_Goes p.tables e below P (s₁.setTop (mkF m 30 #[.val (.int z)] []))
            exact (J30 (by rw [own_ws, if_neg hg0, own_ref, if_neg h1, if_neg h2, if_neg h3, if_pos h4]))
          · skip
            refine own_Goes.st ?_ (fun _ k => XS.icmpYes X0.here hx rfl (pc0 := 27) (pc' := 34) rfl (hb hby own_d_prog_36_method_2_27) rfl (feq h4).2 (by decide) (by decide) k)
            show own_Goes p.tables e below P (s₁.setTop (mkF m 34 #[.val (.int z)] []))
            refine own_Goes.st ?_ (fun _ k => XS.iconst X0.here hx rfl (hb hby own_d_prog_36_method_2_34) k)
            show own_Goes p.tables e below P (s₁.setTop (mkF m 35 #[.val (.int z)] [(.int (0 : Int32))]))
            obtain ⟨fs, hr, hrun, hended, hW, hsame⟩ := X0.leave (v := some (.int (0 : Int32))) (fun h => by rw [Bd.returns] at h; cases h)
            exact own_Goes.fin _ _ (retOut X0 hx (t := .boolean) Bd.returns rfl (Or.inl ⟨rfl, Or.inr (Or.inl rfl), _, rfl⟩) (hb hby own_d_prog_36_method_2_35) hr) (hPP _ _ ⟨hrun, hended, _, _, rfl, (by show Q_ws Z z h0 n0 _ s₁.heap _; rw [e0]; exact ⟨(by rw [own_ws, if_neg hg0, own_ref, if_neg h1, if_neg h2, if_neg h3, if_neg h4]), N0, rfl⟩), ⟨_, rfl⟩, hW, hsame.mono (by decide) (by decide)⟩)
theorem own_ef_ref (m : MethodId) (x0 : Int32) : entryFrame m #[(.int x0)] 1 = mkF m 0 #[.val (.int x0)] [] := by first | (simp [entryFrame, mkF, argsToLocals, Value.category]; done) | rfl
theorem own_pn_com_example_larder_larder_TextSyntaxIsWhitespacePinLaw : plainName "com/example/larder/larder/TextSyntaxIsWhitespacePinLaw" = true := by first | (simp [plainName, overriddenIn]; done) | decide +kernel
theorem own_d_method_2_0 : decode method_2_code 0 = .ok (.iload_n 0, 1) := by decide +kernel
theorem own_d_method_2_1 : decode method_2_code 1 = .ok (.bipush 32, 2) := by decide +kernel
theorem own_d_method_2_3 : decode method_2_code 3 = .ok (.if_icmp .ne 5, 3) := by decide +kernel
theorem own_d_method_2_6 : decode method_2_code 6 = .ok (.iconst 1, 1) := by decide +kernel
theorem own_d_method_2_7 : decode method_2_code 7 = .ok (.ireturn, 1) := by decide +kernel
theorem own_d_method_2_8 : decode method_2_code 8 = .ok (.iload_n 0, 1) := by decide +kernel
theorem own_d_method_2_9 : decode method_2_code 9 = .ok (.bipush 9, 2) := by decide +kernel
theorem own_d_method_2_11 : decode method_2_code 11 = .ok (.if_icmp .ne 5, 3) := by decide +kernel
theorem own_d_method_2_14 : decode method_2_code 14 = .ok (.iconst 1, 1) := by decide +kernel
theorem own_d_method_2_15 : decode method_2_code 15 = .ok (.ireturn, 1) := by decide +kernel
theorem own_d_method_2_16 : decode method_2_code 16 = .ok (.iload_n 0, 1) := by decide +kernel
theorem own_d_method_2_17 : decode method_2_code 17 = .ok (.bipush 13, 2) := by decide +kernel
theorem own_d_method_2_19 : decode method_2_code 19 = .ok (.if_icmp .ne 5, 3) := by decide +kernel
theorem own_d_method_2_22 : decode method_2_code 22 = .ok (.iconst 1, 1) := by decide +kernel
theorem own_d_method_2_23 : decode method_2_code 23 = .ok (.ireturn, 1) := by decide +kernel
theorem own_d_method_2_24 : decode method_2_code 24 = .ok (.iload_n 0, 1) := by decide +kernel
theorem own_d_method_2_25 : decode method_2_code 25 = .ok (.bipush 10, 2) := by decide +kernel
theorem own_d_method_2_27 : decode method_2_code 27 = .ok (.if_icmp .ne 5, 3) := by decide +kernel
theorem own_d_method_2_30 : decode method_2_code 30 = .ok (.iconst 1, 1) := by decide +kernel
theorem own_d_method_2_31 : decode method_2_code 31 = .ok (.ireturn, 1) := by decide +kernel
theorem own_d_method_2_32 : decode method_2_code 32 = .ok (.iconst 0, 1) := by decide +kernel
theorem own_d_method_2_33 : decode method_2_code 33 = .ok (.ireturn, 1) := by decide +kernel
def Q_ref (Z : State) (z : Int32) (h0 : Heap) (n0 : Nat) (rv_ : Option Value) (h_ : Heap) (L_ : List Loc) : Prop := rv_ = some (.int (own_ref z)) ∧ Fr n0 L_ ∧ h_ = h0
set_option maxRecDepth 65536 in
set_option maxHeartbeats 40000000 in
theorem rm_ref (l : Launch) (Z : State) (a0 : Array Value) (hw : ∀ d ∈ tables_1, d.before a0 Z = true) (ws : List Jvm.Cond) (z : Int32) (h0 : Heap) (n0 : Nat) (Z0 : n0 ≤ h0.size) :
    MetFree l (⟨"com/example/larder/larder/TextSyntaxIsWhitespacePinLaw", "reference", "(I)Z"⟩ : MethodName) (head1 (Jvm.Cond.code (⟨"com/example/larder/larder/TextSyntaxIsWhitespacePinLaw", "reference", "(I)Z"⟩ : MethodName) method_2_code 1 (some .boolean) :: ws) ({ frames := 0, cells := 0, slots := 0, locals := 0 } : Room)) (fun as_ U => as_ = #[(.int z)] ∧ Z.Warmed39 U.vm ∧ U.heap = h0) (fun _ _ _ _ _ => True) (fun _ U o U' => ∃ rv_ L_, o = .returned rv_ ∧ Q_ref Z z h0 n0 rv_ U'.heap L_ ∧ FrameEnd U o U' L_ ({ frames := 0, cells := 0, slots := 0, locals := 0 } : Room).cells ({ frames := 0, cells := 0, slots := 0, locals := 0 } : Room).slots) := by
  refine MetFree.of_bodySF (plainFor_of_name own_pn_com_example_larder_larder_TextSyntaxIsWhitespacePinLaw) hisR ?_
  intro p e s m args below meth c s₁ Bd hml0 hP hK
  obtain ⟨rfl, hZ, hh⟩ := hP
  have hx := Bd.exec
  have hby := Bd.bytes
  have hml : c.maxLocals = 1 := hml0
  have hown : s.vm.findClass "com/example/larder/larder/TextSyntaxIsWhitespacePinLaw" = some m.cls := findClass_of_methodNamed Bd.named
  have hnm := (name_of_methodNamed Bd.named Bd.method).1
  have X0 : Stand p l e ({ frames := 0, cells := 0, slots := 0, locals := 0 } : Room) s m #[(.int z)] below meth c s₁ [] 0 0 := Stand.of_body Bd
  have e0 : s₁.heap = h0 := by rw [← hh, Bd.state]; rfl
  have N0 := Fr.nil n0
  refine own_Goes.of ?_
  refine own_Goes.nm (fun P hPP => ?_)
  refine own_Goes.st ?_ (fun _ k => castTop (own_ef_ref m z) k)
  show own_Goes p.tables e below P (s₁.setTop (mkF m 0 #[.val (.int z)] []))
  refine own_Goes.st ?_ (fun _ k => XS.iloadN X0.here hx rfl (hb hby own_d_method_2_0) rfl k)
  show own_Goes p.tables e below P (s₁.setTop (mkF m 1 #[.val (.int z)] [(.int z)]))
  refine own_Goes.st ?_ (fun _ k => XS.bipush X0.here hx rfl (hb hby own_d_method_2_1) k)
  show own_Goes p.tables e below P (s₁.setTop (mkF m 3 #[.val (.int z)] [(.int (32 : Int32)), (.int z)]))
  by_cases h1 : z = (32 : Int32)
  · skip
    refine own_Goes.st ?_ (fun _ k => XS.icmpNo X0.here hx rfl (hb hby own_d_method_2_3) rfl (teq h1).2 k)
    show own_Goes p.tables e below P (s₁.setTop (mkF m 6 #[.val (.int z)] []))
    refine own_Goes.st ?_ (fun _ k => XS.iconst X0.here hx rfl (hb hby own_d_method_2_6) k)
    show own_Goes p.tables e below P (s₁.setTop (mkF m 7 #[.val (.int z)] [(.int (1 : Int32))]))
    obtain ⟨fs, hr, hrun, hended, hW, hsame⟩ := X0.leave (v := some (.int (1 : Int32))) (fun h => by rw [Bd.returns] at h; cases h)
    exact own_Goes.fin _ _ (retOut X0 hx (t := .boolean) Bd.returns rfl (Or.inl ⟨rfl, Or.inr (Or.inl rfl), _, rfl⟩) (hb hby own_d_method_2_7) hr) (hPP _ _ ⟨hrun, hended, _, _, rfl, (by show Q_ref Z z h0 n0 _ s₁.heap _; rw [e0]; exact ⟨(by rw [own_ref, if_pos h1]), N0, rfl⟩), ⟨_, rfl⟩, hW, hsame.mono (by decide) (by decide)⟩)
  · skip
    refine own_Goes.st ?_ (fun _ k => XS.icmpYes X0.here hx rfl (pc0 := 3) (pc' := 8) rfl (hb hby own_d_method_2_3) rfl (feq h1).2 (by decide) (by decide) k)
    show own_Goes p.tables e below P (s₁.setTop (mkF m 8 #[.val (.int z)] []))
    refine own_Goes.st ?_ (fun _ k => XS.iloadN X0.here hx rfl (hb hby own_d_method_2_8) rfl k)
    show own_Goes p.tables e below P (s₁.setTop (mkF m 9 #[.val (.int z)] [(.int z)]))
    refine own_Goes.st ?_ (fun _ k => XS.bipush X0.here hx rfl (hb hby own_d_method_2_9) k)
    show own_Goes p.tables e below P (s₁.setTop (mkF m 11 #[.val (.int z)] [(.int (9 : Int32)), (.int z)]))
    by_cases h2 : z = (9 : Int32)
    · skip
      refine own_Goes.st ?_ (fun _ k => XS.icmpNo X0.here hx rfl (hb hby own_d_method_2_11) rfl (teq h2).2 k)
      show own_Goes p.tables e below P (s₁.setTop (mkF m 14 #[.val (.int z)] []))
      refine own_Goes.st ?_ (fun _ k => XS.iconst X0.here hx rfl (hb hby own_d_method_2_14) k)
      show own_Goes p.tables e below P (s₁.setTop (mkF m 15 #[.val (.int z)] [(.int (1 : Int32))]))
      obtain ⟨fs, hr, hrun, hended, hW, hsame⟩ := X0.leave (v := some (.int (1 : Int32))) (fun h => by rw [Bd.returns] at h; cases h)
      exact own_Goes.fin _ _ (retOut X0 hx (t := .boolean) Bd.returns rfl (Or.inl ⟨rfl, Or.inr (Or.inl rfl), _, rfl⟩) (hb hby own_d_method_2_15) hr) (hPP _ _ ⟨hrun, hended, _, _, rfl, (by show Q_ref Z z h0 n0 _ s₁.heap _; rw [e0]; exact ⟨(by rw [own_ref, if_neg h1, if_pos h2]), N0, rfl⟩), ⟨_, rfl⟩, hW, hsame.mono (by decide) (by decide)⟩)
    · skip
      refine own_Goes.st ?_ (fun _ k => XS.icmpYes X0.here hx rfl (pc0 := 11) (pc' := 16) rfl (hb hby own_d_method_2_11) rfl (feq h2).2 (by decide) (by decide) k)
      show own_Goes p.tables e below P (s₁.setTop (mkF m 16 #[.val (.int z)] []))
      refine own_Goes.st ?_ (fun _ k => XS.iloadN X0.here hx rfl (hb hby own_d_method_2_16) rfl k)
      show own_Goes p.tables e below P (s₁.setTop (mkF m 17 #[.val (.int z)] [(.int z)]))
      refine own_Goes.st ?_ (fun _ k => XS.bipush X0.here hx rfl (hb hby own_d_method_2_17) k)
      show own_Goes p.tables e below P (s₁.setTop (mkF m 19 #[.val (.int z)] [(.int (13 : Int32)), (.int z)]))
      by_cases h3 : z = (13 : Int32)
      · skip
        refine own_Goes.st ?_ (fun _ k => XS.icmpNo X0.here hx rfl (hb hby own_d_method_2_19) rfl (teq h3).2 k)
        show own_Goes p.tables e below P (s₁.setTop (mkF m 22 #[.val (.int z)] []))
        refine own_Goes.st ?_ (fun _ k => XS.iconst X0.here hx rfl (hb hby own_d_method_2_22) k)
        show own_Goes p.tables e below P (s₁.setTop (mkF m 23 #[.val (.int z)] [(.int (1 : Int32))]))
        obtain ⟨fs, hr, hrun, hended, hW, hsame⟩ := X0.leave (v := some (.int (1 : Int32))) (fun h => by rw [Bd.returns] at h; cases h)
        exact own_Goes.fin _ _ (retOut X0 hx (t := .boolean) Bd.returns rfl (Or.inl ⟨rfl, Or.inr (Or.inl rfl), _, rfl⟩) (hb hby own_d_method_2_23) hr) (hPP _ _ ⟨hrun, hended, _, _, rfl, (by show Q_ref Z z h0 n0 _ s₁.heap _; rw [e0]; exact ⟨(by rw [own_ref, if_neg h1, if_neg h2, if_pos h3]), N0, rfl⟩), ⟨_, rfl⟩, hW, hsame.mono (by decide) (by decide)⟩)
      · skip
        refine own_Goes.st ?_ (fun _ k => XS.icmpYes X0.here hx rfl (pc0 := 19) (pc' := 24) rfl (hb hby own_d_method_2_19) rfl (feq h3).2 (by decide) (by decide) k)
        show own_Goes p.tables e below P (s₁.setTop (mkF m 24 #[.val (.int z)] []))
        refine own_Goes.st ?_ (fun _ k => XS.iloadN X0.here hx rfl (hb hby own_d_method_2_24) rfl k)
        show own_Goes p.tables e below P (s₁.setTop (mkF m 25 #[.val (.int z)] [(.int z)]))
        refine own_Goes.st ?_ (fun _ k => XS.bipush X0.here hx rfl (hb hby own_d_method_2_25) k)
        show own_Goes p.tables e below P (s₁.setTop (mkF m 27 #[.val (.int z)] [(.int (10 : Int32)), (.int z)]))
        by_cases h4 : z = (10 : Int32)
        · skip
          refine own_Goes.st ?_ (fun _ k => XS.icmpNo X0.here hx rfl (hb hby own_d_method_2_27) rfl (teq h4).2 k)
          show own_Goes p.tables e below P (s₁.setTop (mkF m 30 #[.val (.int z)] []))
          refine own_Goes.st ?_ (fun _ k => XS.iconst X0.here hx rfl (hb hby own_d_method_2_30) k)
          show own_Goes p.tables e below P (s₁.setTop (mkF m 31 #[.val (.int z)] [(.int (1 : Int32))]))
          obtain ⟨fs, hr, hrun, hended, hW, hsame⟩ := X0.leave (v := some (.int (1 : Int32))) (fun h => by rw [Bd.returns] at h; cases h)
          exact own_Goes.fin _ _ (retOut X0 hx (t := .boolean) Bd.returns rfl (Or.inl ⟨rfl, Or.inr (Or.inl rfl), _, rfl⟩) (hb hby own_d_method_2_31) hr) (hPP _ _ ⟨hrun, hended, _, _, rfl, (by show Q_ref Z z h0 n0 _ s₁.heap _; rw [e0]; exact ⟨(by rw [own_ref, if_neg h1, if_neg h2, if_neg h3, if_pos h4]), N0, rfl⟩), ⟨_, rfl⟩, hW, hsame.mono (by decide) (by decide)⟩)
        · skip
          refine own_Goes.st ?_ (fun _ k => XS.icmpYes X0.here hx rfl (pc0 := 27) (pc' := 32) rfl (hb hby own_d_method_2_27) rfl (feq h4).2 (by decide) (by decide) k)
          show own_Goes p.tables e below P (s₁.setTop (mkF m 32 #[.val (.int z)] []))
          refine own_Goes.st ?_ (fun _ k => XS.iconst X0.here hx rfl (hb hby own_d_method_2_32) k)
          show own_Goes p.tables e below P (s₁.setTop (mkF m 33 #[.val (.int z)] [(.int (0 : Int32))]))
          obtain ⟨fs, hr, hrun, hended, hW, hsame⟩ := X0.leave (v := some (.int (0 : Int32))) (fun h => by rw [Bd.returns] at h; cases h)
          exact own_Goes.fin _ _ (retOut X0 hx (t := .boolean) Bd.returns rfl (Or.inl ⟨rfl, Or.inr (Or.inl rfl), _, rfl⟩) (hb hby own_d_method_2_33) hr) (hPP _ _ ⟨hrun, hended, _, _, rfl, (by show Q_ref Z z h0 n0 _ s₁.heap _; rw [e0]; exact ⟨(by rw [own_ref, if_neg h1, if_neg h2, if_neg h3, if_neg h4]), N0, rfl⟩), ⟨_, rfl⟩, hW, hsame.mono (by decide) (by decide)⟩)
theorem own_ef_law (m : MethodId) (x0 : Int32) (x1 : Int32) (x2 : Int32) : entryFrame m #[(.int x0), (.int x1), (.int x2)] maxLocals = mkF m 0 #[.val (.int x0), .val (.int x1), .val (.int x2), .unset, .unset, .unset, .unset] [] := by first | (simp [entryFrame, mkF, argsToLocals, Value.category, maxLocals]; done) | rfl
theorem own_pd__28_I_29_Z : parseMethodDescriptor "(I)Z" = some ⟨[.int], some .boolean⟩ := by decide +kernel
def Q_law (n0 : Nat) (v : Option Value) (L : List Loc) : Prop := v = some (.int 1) ∧ Fr n0 L
set_option maxRecDepth 65536 in
set_option maxHeartbeats 40000000 in
theorem rm_law (l : Launch) (Z : State) (a0 : Array Value) (hw : ∀ d ∈ tables_1, d.before a0 Z = true) (ws : List Jvm.Cond) (p0 : Int32) (p1 : Int32) (p2 : Int32) (h0 : Heap) (n0 : Nat) (Z0 : n0 ≤ h0.size) :
    MetFree l x (head1 (Jvm.Cond.code x code maxLocals ret :: ws) room_1) (fun as_ U => as_ = #[(.int p0), (.int p1), (.int p2)] ∧ Z.Warmed39 U.vm ∧ U.heap = h0) (fun _ _ _ _ _ => True) (fun _ U o U' => ∃ v L, o = .returned v ∧ Q_law n0 v L ∧ FrameEnd U o U' L 16 128) := by
  refine MetFree.of_bodySF (plainFor_of_name own_pn_com_example_larder_larder_TextSyntaxIsWhitespacePinLaw) hisR ?_
  intro p e s m args below meth c s₁ Bd hml0 hP hK
  obtain ⟨rfl, hZ, hh⟩ := hP
  have hx := Bd.exec
  have hby := Bd.bytes
  have hml : c.maxLocals = 7 := hml0
  have hown : s.vm.findClass "com/example/larder/larder/TextSyntaxIsWhitespacePinLaw" = some m.cls := findClass_of_methodNamed Bd.named
  have hnm := (name_of_methodNamed Bd.named Bd.method).1
  have X0 : Stand p l e room_1 s m #[(.int p0), (.int p1), (.int p2)] below meth c s₁ [] 0 0 := Stand.of_body Bd
  have e0 : s₁.heap = h0 := by rw [← hh, Bd.state]; rfl
  have N0 := Fr.nil n0
  refine own_Goes.of ?_
  refine own_Goes.nm (fun P hPP => ?_)
  refine own_Goes.st ?_ (fun _ k => castTop (own_ef_law m p0 p1 p2) k)
  show own_Goes p.tables e below P (s₁.setTop (mkF m 0 #[.val (.int p0), .val (.int p1), .val (.int p2), .unset, .unset, .unset, .unset] []))
  refine own_Goes.st ?_ (fun _ k => XS.bipush X0.here hx rfl (hb hby at_0) k)
  show own_Goes p.tables e below P (s₁.setTop (mkF m 2 #[.val (.int p0), .val (.int p1), .val (.int p2), .unset, .unset, .unset, .unset] [(.int (29 : Int32))]))
  obtain ⟨T1, h1, k1, X1, e1, E1, A1, J1, st1⟩ := newPE X0 hx hZ (hw _ (List.mem_of_getElem? (i := 0) rfl)) e0 (g := (mkF m 2 #[.val (.int p0), .val (.int p1), .val (.int p2), .unset, .unset, .unset, .unset] [(.int (29 : Int32))])) rfl (hb hby at_2) rfl (by decide) (cap := 29) (by decide) (by decide) (by decide) (by decide) (ad := "[I") rfl
  obtain ⟨b1, g1⟩ : ∃ z, z = h0.size := ⟨_, rfl⟩
  rw [← g1] at A1 J1 st1
  have ge_b1 : n0 ≤ b1 := Nat.le_trans Z0 (Nat.le_of_eq g1.symm)
  refine own_Goes.st ?_ st1
  have Z2 : n0 ≤ h1.size := Nat.le_trans Z0 E1.1
  have V3 : Arv Z h1 b1 k1 .int (29 : Int32) [(.int (0 : Int32)), (.int (0 : Int32)), (.int (0 : Int32)), (.int (0 : Int32)), (.int (0 : Int32)), (.int (0 : Int32)), (.int (0 : Int32)), (.int (0 : Int32)), (.int (0 : Int32)), (.int (0 : Int32)), (.int (0 : Int32)), (.int (0 : Int32)), (.int (0 : Int32)), (.int (0 : Int32)), (.int (0 : Int32)), (.int (0 : Int32)), (.int (0 : Int32)), (.int (0 : Int32)), (.int (0 : Int32)), (.int (0 : Int32)), (.int (0 : Int32)), (.int (0 : Int32)), (.int (0 : Int32)), (.int (0 : Int32)), (.int (0 : Int32)), (.int (0 : Int32)), (.int (0 : Int32)), (.int (0 : Int32)), (.int (0 : Int32))] (.int 0) := (Arv.new A1 (by decide)).pad (pad_rep [] _ 29)
  show own_Goes p.tables e below P (T1.setTop (mkF m 4 #[.val (.int p0), .val (.int p1), .val (.int p2), .unset, .unset, .unset, .unset] [(.ref b1)]))
  refine own_Goes.st ?_ (fun _ k => XS.dup X1.here hx rfl (hb hby at_4) rfl rfl k)
  show own_Goes p.tables e below P (T1.setTop (mkF m 5 #[.val (.int p0), .val (.int p1), .val (.int p2), .unset, .unset, .unset, .unset] [(.ref b1), (.ref b1)]))
  refine own_Goes.st ?_ (fun _ k => XS.iconst X1.here hx rfl (hb hby at_5) k)
  show own_Goes p.tables e below P (T1.setTop (mkF m 6 #[.val (.int p0), .val (.int p1), .val (.int p2), .unset, .unset, .unset, .unset] [(.int (0 : Int32)), (.ref b1), (.ref b1)]))
  refine own_Goes.st ?_ (fun _ k => XS.bipush X1.here hx rfl (hb hby at_6) k)
  show own_Goes p.tables e below P (T1.setTop (mkF m 8 #[.val (.int p0), .val (.int p1), .val (.int p2), .unset, .unset, .unset, .unset] [(.int (32 : Int32)), (.int (0 : Int32)), (.ref b1), (.ref b1)]))
  have Vc4 := V3
  obtain ⟨cl4, Ar4, qc4, S4, Nn4, Hs4, Gs4⟩ := Vc4
  have hin5 : ¬ ((0 : Int32) < 0 ∨ cl4.slots.size ≤ ((0 : Int32)).toNatClampNeg) := inb_of S4 ⟨by decide, by decide⟩
  obtain ⟨T5, h5, X5, e5, W5, st5⟩ := stI X1 hx hZ e1 Ar4 (j := (0 : Int32)) hin5 (g := (mkF m 8 #[.val (.int p0), .val (.int p1), .val (.int p2), .unset, .unset, .unset, .unset] [(.int (32 : Int32)), (.int (0 : Int32)), (.ref b1), (.ref b1)])) rfl rfl (hb hby at_8)
  refine own_Goes.st ?_ st5
  have V6 : Arv Z h5 b1 k1 .int (29 : Int32) [(.int (32 : Int32)), (.int (0 : Int32)), (.int (0 : Int32)), (.int (0 : Int32)), (.int (0 : Int32)), (.int (0 : Int32)), (.int (0 : Int32)), (.int (0 : Int32)), (.int (0 : Int32)), (.int (0 : Int32)), (.int (0 : Int32)), (.int (0 : Int32)), (.int (0 : Int32)), (.int (0 : Int32)), (.int (0 : Int32)), (.int (0 : Int32)), (.int (0 : Int32)), (.int (0 : Int32)), (.int (0 : Int32)), (.int (0 : Int32)), (.int (0 : Int32)), (.int (0 : Int32)), (.int (0 : Int32)), (.int (0 : Int32)), (.int (0 : Int32)), (.int (0 : Int32)), (.int (0 : Int32)), (.int (0 : Int32)), (.int (0 : Int32))] (.int 0) := Arv.set Ar4 qc4 S4 Nn4 Hs4 Gs4 rfl W5 0 rfl (Nat.le_of_ble_eq_true rfl)
  have Z7 : n0 ≤ h5.size := by rw [W5.size]; exact Z2
  have N8 := Fr.snoc X5 N0 ge_b1
  show own_Goes p.tables e below P (T5.setTop (mkF m 9 #[.val (.int p0), .val (.int p1), .val (.int p2), .unset, .unset, .unset, .unset] [(.ref b1)]))
  refine own_Goes.st ?_ (fun _ k => XS.dup X5.here hx rfl (hb hby at_9) rfl rfl k)
  show own_Goes p.tables e below P (T5.setTop (mkF m 10 #[.val (.int p0), .val (.int p1), .val (.int p2), .unset, .unset, .unset, .unset] [(.ref b1), (.ref b1)]))
  refine own_Goes.st ?_ (fun _ k => XS.iconst X5.here hx rfl (hb hby at_10) k)
  show own_Goes p.tables e below P (T5.setTop (mkF m 11 #[.val (.int p0), .val (.int p1), .val (.int p2), .unset, .unset, .unset, .unset] [(.int (1 : Int32)), (.ref b1), (.ref b1)]))
  refine own_Goes.st ?_ (fun _ k => XS.bipush X5.here hx rfl (hb hby at_11) k)
  show own_Goes p.tables e below P (T5.setTop (mkF m 13 #[.val (.int p0), .val (.int p1), .val (.int p2), .unset, .unset, .unset, .unset] [(.int (9 : Int32)), (.int (1 : Int32)), (.ref b1), (.ref b1)]))
  have Vc9 := V6
  obtain ⟨cl9, Ar9, qc9, S9, Nn9, Hs9, Gs9⟩ := Vc9
  have hin10 : ¬ ((1 : Int32) < 0 ∨ cl9.slots.size ≤ ((1 : Int32)).toNatClampNeg) := inb_of S9 ⟨by decide, by decide⟩
  obtain ⟨T10, h10, X10, e10, W10, st10⟩ := stI X5 hx hZ e5 Ar9 (j := (1 : Int32)) hin10 (g := (mkF m 13 #[.val (.int p0), .val (.int p1), .val (.int p2), .unset, .unset, .unset, .unset] [(.int (9 : Int32)), (.int (1 : Int32)), (.ref b1), (.ref b1)])) rfl rfl (hb hby at_13)
  refine own_Goes.st ?_ st10
  have V11 : Arv Z h10 b1 k1 .int (29 : Int32) [(.int (32 : Int32)), (.int (9 : Int32)), (.int (0 : Int32)), (.int (0 : Int32)), (.int (0 : Int32)), (.int (0 : Int32)), (.int (0 : Int32)), (.int (0 : Int32)), (.int (0 : Int32)), (.int (0 : Int32)), (.int (0 : Int32)), (.int (0 : Int32)), (.int (0 : Int32)), (.int (0 : Int32)), (.int (0 : Int32)), (.int (0 : Int32)), (.int (0 : Int32)), (.int (0 : Int32)), (.int (0 : Int32)), (.int (0 : Int32)), (.int (0 : Int32)), (.int (0 : Int32)), (.int (0 : Int32)), (.int (0 : Int32)), (.int (0 : Int32)), (.int (0 : Int32)), (.int (0 : Int32)), (.int (0 : Int32)), (.int (0 : Int32))] (.int 0) := Arv.set Ar9 qc9 S9 Nn9 Hs9 Gs9 rfl W10 1 rfl (Nat.le_of_ble_eq_true rfl)
  have Z12 : n0 ≤ h10.size := by rw [W10.size]; exact Z7
  have N13 := Fr.snoc X10 N8 ge_b1
  show own_Goes p.tables e below P (T10.setTop (mkF m 14 #[.val (.int p0), .val (.int p1), .val (.int p2), .unset, .unset, .unset, .unset] [(.ref b1)]))
  refine own_Goes.st ?_ (fun _ k => XS.dup X10.here hx rfl (hb hby at_14) rfl rfl k)
  show own_Goes p.tables e below P (T10.setTop (mkF m 15 #[.val (.int p0), .val (.int p1), .val (.int p2), .unset, .unset, .unset, .unset] [(.ref b1), (.ref b1)]))
  refine own_Goes.st ?_ (fun _ k => XS.iconst X10.here hx rfl (hb hby at_15) k)
  show own_Goes p.tables e below P (T10.setTop (mkF m 16 #[.val (.int p0), .val (.int p1), .val (.int p2), .unset, .unset, .unset, .unset] [(.int (2 : Int32)), (.ref b1), (.ref b1)]))
  refine own_Goes.st ?_ (fun _ k => XS.bipush X10.here hx rfl (hb hby at_16) k)
  show own_Goes p.tables e below P (T10.setTop (mkF m 18 #[.val (.int p0), .val (.int p1), .val (.int p2), .unset, .unset, .unset, .unset] [(.int (13 : Int32)), (.int (2 : Int32)), (.ref b1), (.ref b1)]))
  have Vc14 := V11
  obtain ⟨cl14, Ar14, qc14, S14, Nn14, Hs14, Gs14⟩ := Vc14
  have hin15 : ¬ ((2 : Int32) < 0 ∨ cl14.slots.size ≤ ((2 : Int32)).toNatClampNeg) := inb_of S14 ⟨by decide, by decide⟩
  obtain ⟨T15, h15, X15, e15, W15, st15⟩ := stI X10 hx hZ e10 Ar14 (j := (2 : Int32)) hin15 (g := (mkF m 18 #[.val (.int p0), .val (.int p1), .val (.int p2), .unset, .unset, .unset, .unset] [(.int (13 : Int32)), (.int (2 : Int32)), (.ref b1), (.ref b1)])) rfl rfl (hb hby at_18)
  refine own_Goes.st ?_ st15
  have V16 : Arv Z h15 b1 k1 .int (29 : Int32) [(.int (32 : Int32)), (.int (9 : Int32)), (.int (13 : Int32)), (.int (0 : Int32)), (.int (0 : Int32)), (.int (0 : Int32)), (.int (0 : Int32)), (.int (0 : Int32)), (.int (0 : Int32)), (.int (0 : Int32)), (.int (0 : Int32)), (.int (0 : Int32)), (.int (0 : Int32)), (.int (0 : Int32)), (.int (0 : Int32)), (.int (0 : Int32)), (.int (0 : Int32)), (.int (0 : Int32)), (.int (0 : Int32)), (.int (0 : Int32)), (.int (0 : Int32)), (.int (0 : Int32)), (.int (0 : Int32)), (.int (0 : Int32)), (.int (0 : Int32)), (.int (0 : Int32)), (.int (0 : Int32)), (.int (0 : Int32)), (.int (0 : Int32))] (.int 0) := Arv.set Ar14 qc14 S14 Nn14 Hs14 Gs14 rfl W15 2 rfl (Nat.le_of_ble_eq_true rfl)
  have Z17 : n0 ≤ h15.size := by rw [W15.size]; exact Z12
  have N18 := Fr.snoc X15 N13 ge_b1
  show own_Goes p.tables e below P (T15.setTop (mkF m 19 #[.val (.int p0), .val (.int p1), .val (.int p2), .unset, .unset, .unset, .unset] [(.ref b1)]))
  refine own_Goes.st ?_ (fun _ k => XS.dup X15.here hx rfl (hb hby at_19) rfl rfl k)
  show own_Goes p.tables e below P (T15.setTop (mkF m 20 #[.val (.int p0), .val (.int p1), .val (.int p2), .unset, .unset, .unset, .unset] [(.ref b1), (.ref b1)]))
  refine own_Goes.st ?_ (fun _ k => XS.iconst X15.here hx rfl (hb hby at_20) k)
  show own_Goes p.tables e below P (T15.setTop (mkF m 21 #[.val (.int p0), .val (.int p1), .val (.int p2), .unset, .unset, .unset, .unset] [(.int (3 : Int32)), (.ref b1), (.ref b1)]))
  refine own_Goes.st ?_ (fun _ k => XS.bipush X15.here hx rfl (hb hby at_21) k)
  show own_Goes p.tables e below P (T15.setTop (mkF m 23 #[.val (.int p0), .val (.int p1), .val (.int p2), .unset, .unset, .unset, .unset] [(.int (10 : Int32)), (.int (3 : Int32)), (.ref b1), (.ref b1)]))
  have Vc19 := V16
  obtain ⟨cl19, Ar19, qc19, S19, Nn19, Hs19, Gs19⟩ := Vc19
  have hin20 : ¬ ((3 : Int32) < 0 ∨ cl19.slots.size ≤ ((3 : Int32)).toNatClampNeg) := inb_of S19 ⟨by decide, by decide⟩
  obtain ⟨T20, h20, X20, e20, W20, st20⟩ := stI X15 hx hZ e15 Ar19 (j := (3 : Int32)) hin20 (g := (mkF m 23 #[.val (.int p0), .val (.int p1), .val (.int p2), .unset, .unset, .unset, .unset] [(.int (10 : Int32)), (.int (3 : Int32)), (.ref b1), (.ref b1)])) rfl rfl (hb hby at_23)
  refine own_Goes.st ?_ st20
  have V21 : Arv Z h20 b1 k1 .int (29 : Int32) [(.int (32 : Int32)), (.int (9 : Int32)), (.int (13 : Int32)), (.int (10 : Int32)), (.int (0 : Int32)), (.int (0 : Int32)), (.int (0 : Int32)), (.int (0 : Int32)), (.int (0 : Int32)), (.int (0 : Int32)), (.int (0 : Int32)), (.int (0 : Int32)), (.int (0 : Int32)), (.int (0 : Int32)), (.int (0 : Int32)), (.int (0 : Int32)), (.int (0 : Int32)), (.int (0 : Int32)), (.int (0 : Int32)), (.int (0 : Int32)), (.int (0 : Int32)), (.int (0 : Int32)), (.int (0 : Int32)), (.int (0 : Int32)), (.int (0 : Int32)), (.int (0 : Int32)), (.int (0 : Int32)), (.int (0 : Int32)), (.int (0 : Int32))] (.int 0) := Arv.set Ar19 qc19 S19 Nn19 Hs19 Gs19 rfl W20 3 rfl (Nat.le_of_ble_eq_true rfl)
  have Z22 : n0 ≤ h20.size := by rw [W20.size]; exact Z17
  have N23 := Fr.snoc X20 N18 ge_b1
  show own_Goes p.tables e below P (T20.setTop (mkF m 24 #[.val (.int p0), .val (.int p1), .val (.int p2), .unset, .unset, .unset, .unset] [(.ref b1)]))
  refine own_Goes.st ?_ (fun _ k => XS.dup X20.here hx rfl (hb hby at_24) rfl rfl k)
  show own_Goes p.tables e below P (T20.setTop (mkF m 25 #[.val (.int p0), .val (.int p1), .val (.int p2), .unset, .unset, .unset, .unset] [(.ref b1), (.ref b1)]))
  refine own_Goes.st ?_ (fun _ k => XS.iconst X20.here hx rfl (hb hby at_25) k)
  show own_Goes p.tables e below P (T20.setTop (mkF m 26 #[.val (.int p0), .val (.int p1), .val (.int p2), .unset, .unset, .unset, .unset] [(.int (4 : Int32)), (.ref b1), (.ref b1)]))
  refine own_Goes.st ?_ (fun _ k => XS.iconst X20.here hx rfl (hb hby at_26) k)
  show own_Goes p.tables e below P (T20.setTop (mkF m 27 #[.val (.int p0), .val (.int p1), .val (.int p2), .unset, .unset, .unset, .unset] [(.int (0 : Int32)), (.int (4 : Int32)), (.ref b1), (.ref b1)]))
  have Vc24 := V21
  obtain ⟨cl24, Ar24, qc24, S24, Nn24, Hs24, Gs24⟩ := Vc24
  have hin25 : ¬ ((4 : Int32) < 0 ∨ cl24.slots.size ≤ ((4 : Int32)).toNatClampNeg) := inb_of S24 ⟨by decide, by decide⟩
  obtain ⟨T25, h25, X25, e25, W25, st25⟩ := stI X20 hx hZ e20 Ar24 (j := (4 : Int32)) hin25 (g := (mkF m 27 #[.val (.int p0), .val (.int p1), .val (.int p2), .unset, .unset, .unset, .unset] [(.int (0 : Int32)), (.int (4 : Int32)), (.ref b1), (.ref b1)])) rfl rfl (hb hby at_27)
  refine own_Goes.st ?_ st25
  have V26 : Arv Z h25 b1 k1 .int (29 : Int32) [(.int (32 : Int32)), (.int (9 : Int32)), (.int (13 : Int32)), (.int (10 : Int32)), (.int (0 : Int32)), (.int (0 : Int32)), (.int (0 : Int32)), (.int (0 : Int32)), (.int (0 : Int32)), (.int (0 : Int32)), (.int (0 : Int32)), (.int (0 : Int32)), (.int (0 : Int32)), (.int (0 : Int32)), (.int (0 : Int32)), (.int (0 : Int32)), (.int (0 : Int32)), (.int (0 : Int32)), (.int (0 : Int32)), (.int (0 : Int32)), (.int (0 : Int32)), (.int (0 : Int32)), (.int (0 : Int32)), (.int (0 : Int32)), (.int (0 : Int32)), (.int (0 : Int32)), (.int (0 : Int32)), (.int (0 : Int32)), (.int (0 : Int32))] (.int 0) := Arv.set Ar24 qc24 S24 Nn24 Hs24 Gs24 rfl W25 4 rfl (Nat.le_of_ble_eq_true rfl)
  have Z27 : n0 ≤ h25.size := by rw [W25.size]; exact Z22
  have N28 := Fr.snoc X25 N23 ge_b1
  show own_Goes p.tables e below P (T25.setTop (mkF m 28 #[.val (.int p0), .val (.int p1), .val (.int p2), .unset, .unset, .unset, .unset] [(.ref b1)]))
  refine own_Goes.st ?_ (fun _ k => XS.dup X25.here hx rfl (hb hby at_28) rfl rfl k)
  show own_Goes p.tables e below P (T25.setTop (mkF m 29 #[.val (.int p0), .val (.int p1), .val (.int p2), .unset, .unset, .unset, .unset] [(.ref b1), (.ref b1)]))
  refine own_Goes.st ?_ (fun _ k => XS.iconst X25.here hx rfl (hb hby at_29) k)
  show own_Goes p.tables e below P (T25.setTop (mkF m 30 #[.val (.int p0), .val (.int p1), .val (.int p2), .unset, .unset, .unset, .unset] [(.int (5 : Int32)), (.ref b1), (.ref b1)]))
  refine own_Goes.st ?_ (fun _ k => XS.bipush X25.here hx rfl (hb hby at_30) k)
  show own_Goes p.tables e below P (T25.setTop (mkF m 32 #[.val (.int p0), .val (.int p1), .val (.int p2), .unset, .unset, .unset, .unset] [(.int (8 : Int32)), (.int (5 : Int32)), (.ref b1), (.ref b1)]))
  have Vc29 := V26
  obtain ⟨cl29, Ar29, qc29, S29, Nn29, Hs29, Gs29⟩ := Vc29
  have hin30 : ¬ ((5 : Int32) < 0 ∨ cl29.slots.size ≤ ((5 : Int32)).toNatClampNeg) := inb_of S29 ⟨by decide, by decide⟩
  obtain ⟨T30, h30, X30, e30, W30, st30⟩ := stI X25 hx hZ e25 Ar29 (j := (5 : Int32)) hin30 (g := (mkF m 32 #[.val (.int p0), .val (.int p1), .val (.int p2), .unset, .unset, .unset, .unset] [(.int (8 : Int32)), (.int (5 : Int32)), (.ref b1), (.ref b1)])) rfl rfl (hb hby at_32)
  refine own_Goes.st ?_ st30
  have V31 : Arv Z h30 b1 k1 .int (29 : Int32) [(.int (32 : Int32)), (.int (9 : Int32)), (.int (13 : Int32)), (.int (10 : Int32)), (.int (0 : Int32)), (.int (8 : Int32)), (.int (0 : Int32)), (.int (0 : Int32)), (.int (0 : Int32)), (.int (0 : Int32)), (.int (0 : Int32)), (.int (0 : Int32)), (.int (0 : Int32)), (.int (0 : Int32)), (.int (0 : Int32)), (.int (0 : Int32)), (.int (0 : Int32)), (.int (0 : Int32)), (.int (0 : Int32)), (.int (0 : Int32)), (.int (0 : Int32)), (.int (0 : Int32)), (.int (0 : Int32)), (.int (0 : Int32)), (.int (0 : Int32)), (.int (0 : Int32)), (.int (0 : Int32)), (.int (0 : Int32)), (.int (0 : Int32))] (.int 0) := Arv.set Ar29 qc29 S29 Nn29 Hs29 Gs29 rfl W30 5 rfl (Nat.le_of_ble_eq_true rfl)
  have Z32 : n0 ≤ h30.size := by rw [W30.size]; exact Z27
  have N33 := Fr.snoc X30 N28 ge_b1
  show own_Goes p.tables e below P (T30.setTop (mkF m 33 #[.val (.int p0), .val (.int p1), .val (.int p2), .unset, .unset, .unset, .unset] [(.ref b1)]))
  refine own_Goes.st ?_ (fun _ k => XS.dup X30.here hx rfl (hb hby at_33) rfl rfl k)
  show own_Goes p.tables e below P (T30.setTop (mkF m 34 #[.val (.int p0), .val (.int p1), .val (.int p2), .unset, .unset, .unset, .unset] [(.ref b1), (.ref b1)]))
  refine own_Goes.st ?_ (fun _ k => XS.bipush X30.here hx rfl (hb hby at_34) k)
  show own_Goes p.tables e below P (T30.setTop (mkF m 36 #[.val (.int p0), .val (.int p1), .val (.int p2), .unset, .unset, .unset, .unset] [(.int (6 : Int32)), (.ref b1), (.ref b1)]))
  refine own_Goes.st ?_ (fun _ k => XS.bipush X30.here hx rfl (hb hby at_36) k)
  show own_Goes p.tables e below P (T30.setTop (mkF m 38 #[.val (.int p0), .val (.int p1), .val (.int p2), .unset, .unset, .unset, .unset] [(.int (11 : Int32)), (.int (6 : Int32)), (.ref b1), (.ref b1)]))
  have Vc34 := V31
  obtain ⟨cl34, Ar34, qc34, S34, Nn34, Hs34, Gs34⟩ := Vc34
  have hin35 : ¬ ((6 : Int32) < 0 ∨ cl34.slots.size ≤ ((6 : Int32)).toNatClampNeg) := inb_of S34 ⟨by decide, by decide⟩
  obtain ⟨T35, h35, X35, e35, W35, st35⟩ := stI X30 hx hZ e30 Ar34 (j := (6 : Int32)) hin35 (g := (mkF m 38 #[.val (.int p0), .val (.int p1), .val (.int p2), .unset, .unset, .unset, .unset] [(.int (11 : Int32)), (.int (6 : Int32)), (.ref b1), (.ref b1)])) rfl rfl (hb hby at_38)
  refine own_Goes.st ?_ st35
  have V36 : Arv Z h35 b1 k1 .int (29 : Int32) [(.int (32 : Int32)), (.int (9 : Int32)), (.int (13 : Int32)), (.int (10 : Int32)), (.int (0 : Int32)), (.int (8 : Int32)), (.int (11 : Int32)), (.int (0 : Int32)), (.int (0 : Int32)), (.int (0 : Int32)), (.int (0 : Int32)), (.int (0 : Int32)), (.int (0 : Int32)), (.int (0 : Int32)), (.int (0 : Int32)), (.int (0 : Int32)), (.int (0 : Int32)), (.int (0 : Int32)), (.int (0 : Int32)), (.int (0 : Int32)), (.int (0 : Int32)), (.int (0 : Int32)), (.int (0 : Int32)), (.int (0 : Int32)), (.int (0 : Int32)), (.int (0 : Int32)), (.int (0 : Int32)), (.int (0 : Int32)), (.int (0 : Int32))] (.int 0) := Arv.set Ar34 qc34 S34 Nn34 Hs34 Gs34 rfl W35 6 rfl (Nat.le_of_ble_eq_true rfl)
  have Z37 : n0 ≤ h35.size := by rw [W35.size]; exact Z32
  have N38 := Fr.snoc X35 N33 ge_b1
  show own_Goes p.tables e below P (T35.setTop (mkF m 39 #[.val (.int p0), .val (.int p1), .val (.int p2), .unset, .unset, .unset, .unset] [(.ref b1)]))
  refine own_Goes.st ?_ (fun _ k => XS.dup X35.here hx rfl (hb hby at_39) rfl rfl k)
  show own_Goes p.tables e below P (T35.setTop (mkF m 40 #[.val (.int p0), .val (.int p1), .val (.int p2), .unset, .unset, .unset, .unset] [(.ref b1), (.ref b1)]))
  refine own_Goes.st ?_ (fun _ k => XS.bipush X35.here hx rfl (hb hby at_40) k)
  show own_Goes p.tables e below P (T35.setTop (mkF m 42 #[.val (.int p0), .val (.int p1), .val (.int p2), .unset, .unset, .unset, .unset] [(.int (7 : Int32)), (.ref b1), (.ref b1)]))
  refine own_Goes.st ?_ (fun _ k => XS.bipush X35.here hx rfl (hb hby at_42) k)
  show own_Goes p.tables e below P (T35.setTop (mkF m 44 #[.val (.int p0), .val (.int p1), .val (.int p2), .unset, .unset, .unset, .unset] [(.int (12 : Int32)), (.int (7 : Int32)), (.ref b1), (.ref b1)]))
  have Vc39 := V36
  obtain ⟨cl39, Ar39, qc39, S39, Nn39, Hs39, Gs39⟩ := Vc39
  have hin40 : ¬ ((7 : Int32) < 0 ∨ cl39.slots.size ≤ ((7 : Int32)).toNatClampNeg) := inb_of S39 ⟨by decide, by decide⟩
  obtain ⟨T40, h40, X40, e40, W40, st40⟩ := stI X35 hx hZ e35 Ar39 (j := (7 : Int32)) hin40 (g := (mkF m 44 #[.val (.int p0), .val (.int p1), .val (.int p2), .unset, .unset, .unset, .unset] [(.int (12 : Int32)), (.int (7 : Int32)), (.ref b1), (.ref b1)])) rfl rfl (hb hby at_44)
  refine own_Goes.st ?_ st40
  have V41 : Arv Z h40 b1 k1 .int (29 : Int32) [(.int (32 : Int32)), (.int (9 : Int32)), (.int (13 : Int32)), (.int (10 : Int32)), (.int (0 : Int32)), (.int (8 : Int32)), (.int (11 : Int32)), (.int (12 : Int32)), (.int (0 : Int32)), (.int (0 : Int32)), (.int (0 : Int32)), (.int (0 : Int32)), (.int (0 : Int32)), (.int (0 : Int32)), (.int (0 : Int32)), (.int (0 : Int32)), (.int (0 : Int32)), (.int (0 : Int32)), (.int (0 : Int32)), (.int (0 : Int32)), (.int (0 : Int32)), (.int (0 : Int32)), (.int (0 : Int32)), (.int (0 : Int32)), (.int (0 : Int32)), (.int (0 : Int32)), (.int (0 : Int32)), (.int (0 : Int32)), (.int (0 : Int32))] (.int 0) := Arv.set Ar39 qc39 S39 Nn39 Hs39 Gs39 rfl W40 7 rfl (Nat.le_of_ble_eq_true rfl)
  have Z42 : n0 ≤ h40.size := by rw [W40.size]; exact Z37
  have N43 := Fr.snoc X40 N38 ge_b1
  show own_Goes p.tables e below P (T40.setTop (mkF m 45 #[.val (.int p0), .val (.int p1), .val (.int p2), .unset, .unset, .unset, .unset] [(.ref b1)]))
  refine own_Goes.st ?_ (fun _ k => XS.dup X40.here hx rfl (hb hby at_45) rfl rfl k)
  show own_Goes p.tables e below P (T40.setTop (mkF m 46 #[.val (.int p0), .val (.int p1), .val (.int p2), .unset, .unset, .unset, .unset] [(.ref b1), (.ref b1)]))
  refine own_Goes.st ?_ (fun _ k => XS.bipush X40.here hx rfl (hb hby at_46) k)
  show own_Goes p.tables e below P (T40.setTop (mkF m 48 #[.val (.int p0), .val (.int p1), .val (.int p2), .unset, .unset, .unset, .unset] [(.int (8 : Int32)), (.ref b1), (.ref b1)]))
  refine own_Goes.st ?_ (fun _ k => XS.bipush X40.here hx rfl (hb hby at_48) k)
  show own_Goes p.tables e below P (T40.setTop (mkF m 50 #[.val (.int p0), .val (.int p1), .val (.int p2), .unset, .unset, .unset, .unset] [(.int (14 : Int32)), (.int (8 : Int32)), (.ref b1), (.ref b1)]))
  have Vc44 := V41
  obtain ⟨cl44, Ar44, qc44, S44, Nn44, Hs44, Gs44⟩ := Vc44
  have hin45 : ¬ ((8 : Int32) < 0 ∨ cl44.slots.size ≤ ((8 : Int32)).toNatClampNeg) := inb_of S44 ⟨by decide, by decide⟩
  obtain ⟨T45, h45, X45, e45, W45, st45⟩ := stI X40 hx hZ e40 Ar44 (j := (8 : Int32)) hin45 (g := (mkF m 50 #[.val (.int p0), .val (.int p1), .val (.int p2), .unset, .unset, .unset, .unset] [(.int (14 : Int32)), (.int (8 : Int32)), (.ref b1), (.ref b1)])) rfl rfl (hb hby at_50)
  refine own_Goes.st ?_ st45
  have V46 : Arv Z h45 b1 k1 .int (29 : Int32) [(.int (32 : Int32)), (.int (9 : Int32)), (.int (13 : Int32)), (.int (10 : Int32)), (.int (0 : Int32)), (.int (8 : Int32)), (.int (11 : Int32)), (.int (12 : Int32)), (.int (14 : Int32)), (.int (0 : Int32)), (.int (0 : Int32)), (.int (0 : Int32)), (.int (0 : Int32)), (.int (0 : Int32)), (.int (0 : Int32)), (.int (0 : Int32)), (.int (0 : Int32)), (.int (0 : Int32)), (.int (0 : Int32)), (.int (0 : Int32)), (.int (0 : Int32)), (.int (0 : Int32)), (.int (0 : Int32)), (.int (0 : Int32)), (.int (0 : Int32)), (.int (0 : Int32)), (.int (0 : Int32)), (.int (0 : Int32)), (.int (0 : Int32))] (.int 0) := Arv.set Ar44 qc44 S44 Nn44 Hs44 Gs44 rfl W45 8 rfl (Nat.le_of_ble_eq_true rfl)
  have Z47 : n0 ≤ h45.size := by rw [W45.size]; exact Z42
  have N48 := Fr.snoc X45 N43 ge_b1
  show own_Goes p.tables e below P (T45.setTop (mkF m 51 #[.val (.int p0), .val (.int p1), .val (.int p2), .unset, .unset, .unset, .unset] [(.ref b1)]))
  refine own_Goes.st ?_ (fun _ k => XS.dup X45.here hx rfl (hb hby at_51) rfl rfl k)
  show own_Goes p.tables e below P (T45.setTop (mkF m 52 #[.val (.int p0), .val (.int p1), .val (.int p2), .unset, .unset, .unset, .unset] [(.ref b1), (.ref b1)]))
  refine own_Goes.st ?_ (fun _ k => XS.bipush X45.here hx rfl (hb hby at_52) k)
  show own_Goes p.tables e below P (T45.setTop (mkF m 54 #[.val (.int p0), .val (.int p1), .val (.int p2), .unset, .unset, .unset, .unset] [(.int (9 : Int32)), (.ref b1), (.ref b1)]))
  refine own_Goes.st ?_ (fun _ k => XS.bipush X45.here hx rfl (hb hby at_54) k)
  show own_Goes p.tables e below P (T45.setTop (mkF m 56 #[.val (.int p0), .val (.int p1), .val (.int p2), .unset, .unset, .unset, .unset] [(.int (31 : Int32)), (.int (9 : Int32)), (.ref b1), (.ref b1)]))
  have Vc49 := V46
  obtain ⟨cl49, Ar49, qc49, S49, Nn49, Hs49, Gs49⟩ := Vc49
  have hin50 : ¬ ((9 : Int32) < 0 ∨ cl49.slots.size ≤ ((9 : Int32)).toNatClampNeg) := inb_of S49 ⟨by decide, by decide⟩
  obtain ⟨T50, h50, X50, e50, W50, st50⟩ := stI X45 hx hZ e45 Ar49 (j := (9 : Int32)) hin50 (g := (mkF m 56 #[.val (.int p0), .val (.int p1), .val (.int p2), .unset, .unset, .unset, .unset] [(.int (31 : Int32)), (.int (9 : Int32)), (.ref b1), (.ref b1)])) rfl rfl (hb hby at_56)
  refine own_Goes.st ?_ st50
  have V51 : Arv Z h50 b1 k1 .int (29 : Int32) [(.int (32 : Int32)), (.int (9 : Int32)), (.int (13 : Int32)), (.int (10 : Int32)), (.int (0 : Int32)), (.int (8 : Int32)), (.int (11 : Int32)), (.int (12 : Int32)), (.int (14 : Int32)), (.int (31 : Int32)), (.int (0 : Int32)), (.int (0 : Int32)), (.int (0 : Int32)), (.int (0 : Int32)), (.int (0 : Int32)), (.int (0 : Int32)), (.int (0 : Int32)), (.int (0 : Int32)), (.int (0 : Int32)), (.int (0 : Int32)), (.int (0 : Int32)), (.int (0 : Int32)), (.int (0 : Int32)), (.int (0 : Int32)), (.int (0 : Int32)), (.int (0 : Int32)), (.int (0 : Int32)), (.int (0 : Int32)), (.int (0 : Int32))] (.int 0) := Arv.set Ar49 qc49 S49 Nn49 Hs49 Gs49 rfl W50 9 rfl (Nat.le_of_ble_eq_true rfl)
  have Z52 : n0 ≤ h50.size := by rw [W50.size]; exact Z47
  have N53 := Fr.snoc X50 N48 ge_b1
  show own_Goes p.tables e below P (T50.setTop (mkF m 57 #[.val (.int p0), .val (.int p1), .val (.int p2), .unset, .unset, .unset, .unset] [(.ref b1)]))
  refine own_Goes.st ?_ (fun _ k => XS.dup X50.here hx rfl (hb hby at_57) rfl rfl k)
  show own_Goes p.tables e below P (T50.setTop (mkF m 58 #[.val (.int p0), .val (.int p1), .val (.int p2), .unset, .unset, .unset, .unset] [(.ref b1), (.ref b1)]))
  refine own_Goes.st ?_ (fun _ k => XS.bipush X50.here hx rfl (hb hby at_58) k)
  show own_Goes p.tables e below P (T50.setTop (mkF m 60 #[.val (.int p0), .val (.int p1), .val (.int p2), .unset, .unset, .unset, .unset] [(.int (10 : Int32)), (.ref b1), (.ref b1)]))
  refine own_Goes.st ?_ (fun _ k => XS.bipush X50.here hx rfl (hb hby at_60) k)
  show own_Goes p.tables e below P (T50.setTop (mkF m 62 #[.val (.int p0), .val (.int p1), .val (.int p2), .unset, .unset, .unset, .unset] [(.int (33 : Int32)), (.int (10 : Int32)), (.ref b1), (.ref b1)]))
  have Vc54 := V51
  obtain ⟨cl54, Ar54, qc54, S54, Nn54, Hs54, Gs54⟩ := Vc54
  have hin55 : ¬ ((10 : Int32) < 0 ∨ cl54.slots.size ≤ ((10 : Int32)).toNatClampNeg) := inb_of S54 ⟨by decide, by decide⟩
  obtain ⟨T55, h55, X55, e55, W55, st55⟩ := stI X50 hx hZ e50 Ar54 (j := (10 : Int32)) hin55 (g := (mkF m 62 #[.val (.int p0), .val (.int p1), .val (.int p2), .unset, .unset, .unset, .unset] [(.int (33 : Int32)), (.int (10 : Int32)), (.ref b1), (.ref b1)])) rfl rfl (hb hby at_62)
  refine own_Goes.st ?_ st55
  have V56 : Arv Z h55 b1 k1 .int (29 : Int32) [(.int (32 : Int32)), (.int (9 : Int32)), (.int (13 : Int32)), (.int (10 : Int32)), (.int (0 : Int32)), (.int (8 : Int32)), (.int (11 : Int32)), (.int (12 : Int32)), (.int (14 : Int32)), (.int (31 : Int32)), (.int (33 : Int32)), (.int (0 : Int32)), (.int (0 : Int32)), (.int (0 : Int32)), (.int (0 : Int32)), (.int (0 : Int32)), (.int (0 : Int32)), (.int (0 : Int32)), (.int (0 : Int32)), (.int (0 : Int32)), (.int (0 : Int32)), (.int (0 : Int32)), (.int (0 : Int32)), (.int (0 : Int32)), (.int (0 : Int32)), (.int (0 : Int32)), (.int (0 : Int32)), (.int (0 : Int32)), (.int (0 : Int32))] (.int 0) := Arv.set Ar54 qc54 S54 Nn54 Hs54 Gs54 rfl W55 10 rfl (Nat.le_of_ble_eq_true rfl)
  have Z57 : n0 ≤ h55.size := by rw [W55.size]; exact Z52
  have N58 := Fr.snoc X55 N53 ge_b1
  show own_Goes p.tables e below P (T55.setTop (mkF m 63 #[.val (.int p0), .val (.int p1), .val (.int p2), .unset, .unset, .unset, .unset] [(.ref b1)]))
  refine own_Goes.st ?_ (fun _ k => XS.dup X55.here hx rfl (hb hby at_63) rfl rfl k)
  show own_Goes p.tables e below P (T55.setTop (mkF m 64 #[.val (.int p0), .val (.int p1), .val (.int p2), .unset, .unset, .unset, .unset] [(.ref b1), (.ref b1)]))
  refine own_Goes.st ?_ (fun _ k => XS.bipush X55.here hx rfl (hb hby at_64) k)
  show own_Goes p.tables e below P (T55.setTop (mkF m 66 #[.val (.int p0), .val (.int p1), .val (.int p2), .unset, .unset, .unset, .unset] [(.int (11 : Int32)), (.ref b1), (.ref b1)]))
  refine own_Goes.st ?_ (fun _ k => Jvm.Free.XT.iconstV X55.here hx rfl (-1 : Int32) (hb hby at_66) (by decide) k)
  show own_Goes p.tables e below P (T55.setTop (mkF m 67 #[.val (.int p0), .val (.int p1), .val (.int p2), .unset, .unset, .unset, .unset] [(.int (-1 : Int32)), (.int (11 : Int32)), (.ref b1), (.ref b1)]))
  have Vc59 := V56
  obtain ⟨cl59, Ar59, qc59, S59, Nn59, Hs59, Gs59⟩ := Vc59
  have hin60 : ¬ ((11 : Int32) < 0 ∨ cl59.slots.size ≤ ((11 : Int32)).toNatClampNeg) := inb_of S59 ⟨by decide, by decide⟩
  obtain ⟨T60, h60, X60, e60, W60, st60⟩ := stI X55 hx hZ e55 Ar59 (j := (11 : Int32)) hin60 (g := (mkF m 67 #[.val (.int p0), .val (.int p1), .val (.int p2), .unset, .unset, .unset, .unset] [(.int (-1 : Int32)), (.int (11 : Int32)), (.ref b1), (.ref b1)])) rfl rfl (hb hby at_67)
  refine own_Goes.st ?_ st60
  have V61 : Arv Z h60 b1 k1 .int (29 : Int32) [(.int (32 : Int32)), (.int (9 : Int32)), (.int (13 : Int32)), (.int (10 : Int32)), (.int (0 : Int32)), (.int (8 : Int32)), (.int (11 : Int32)), (.int (12 : Int32)), (.int (14 : Int32)), (.int (31 : Int32)), (.int (33 : Int32)), (.int (-1 : Int32)), (.int (0 : Int32)), (.int (0 : Int32)), (.int (0 : Int32)), (.int (0 : Int32)), (.int (0 : Int32)), (.int (0 : Int32)), (.int (0 : Int32)), (.int (0 : Int32)), (.int (0 : Int32)), (.int (0 : Int32)), (.int (0 : Int32)), (.int (0 : Int32)), (.int (0 : Int32)), (.int (0 : Int32)), (.int (0 : Int32)), (.int (0 : Int32)), (.int (0 : Int32))] (.int 0) := Arv.set Ar59 qc59 S59 Nn59 Hs59 Gs59 rfl W60 11 rfl (Nat.le_of_ble_eq_true rfl)
  have Z62 : n0 ≤ h60.size := by rw [W60.size]; exact Z57
  have N63 := Fr.snoc X60 N58 ge_b1
  show own_Goes p.tables e below P (T60.setTop (mkF m 68 #[.val (.int p0), .val (.int p1), .val (.int p2), .unset, .unset, .unset, .unset] [(.ref b1)]))
  refine own_Goes.st ?_ (fun _ k => XS.dup X60.here hx rfl (hb hby at_68) rfl rfl k)
  show own_Goes p.tables e below P (T60.setTop (mkF m 69 #[.val (.int p0), .val (.int p1), .val (.int p2), .unset, .unset, .unset, .unset] [(.ref b1), (.ref b1)]))
  refine own_Goes.st ?_ (fun _ k => XS.bipush X60.here hx rfl (hb hby at_69) k)
  show own_Goes p.tables e below P (T60.setTop (mkF m 71 #[.val (.int p0), .val (.int p1), .val (.int p2), .unset, .unset, .unset, .unset] [(.int (12 : Int32)), (.ref b1), (.ref b1)]))
  refine own_Goes.st ?_ (X60.ldcInt hx hown (mvT hZ (hw _ (List.mem_of_getElem? (i := 1) rfl))) (g := (mkF m 71 #[.val (.int p0), .val (.int p1), .val (.int p2), .unset, .unset, .unset, .unset] [(.int (12 : Int32)), (.ref b1), (.ref b1)])) rfl (hb hby at_71))
  show own_Goes p.tables e below P (T60.setTop (mkF m 73 #[.val (.int p0), .val (.int p1), .val (.int p2), .unset, .unset, .unset, .unset] [(.int (-2147483648 : Int32)), (.int (12 : Int32)), (.ref b1), (.ref b1)]))
  have Vc64 := V61
  obtain ⟨cl64, Ar64, qc64, S64, Nn64, Hs64, Gs64⟩ := Vc64
  have hin65 : ¬ ((12 : Int32) < 0 ∨ cl64.slots.size ≤ ((12 : Int32)).toNatClampNeg) := inb_of S64 ⟨by decide, by decide⟩
  obtain ⟨T65, h65, X65, e65, W65, st65⟩ := stI X60 hx hZ e60 Ar64 (j := (12 : Int32)) hin65 (g := (mkF m 73 #[.val (.int p0), .val (.int p1), .val (.int p2), .unset, .unset, .unset, .unset] [(.int (-2147483648 : Int32)), (.int (12 : Int32)), (.ref b1), (.ref b1)])) rfl rfl (hb hby at_73)
  refine own_Goes.st ?_ st65
  have V66 : Arv Z h65 b1 k1 .int (29 : Int32) [(.int (32 : Int32)), (.int (9 : Int32)), (.int (13 : Int32)), (.int (10 : Int32)), (.int (0 : Int32)), (.int (8 : Int32)), (.int (11 : Int32)), (.int (12 : Int32)), (.int (14 : Int32)), (.int (31 : Int32)), (.int (33 : Int32)), (.int (-1 : Int32)), (.int (-2147483648 : Int32)), (.int (0 : Int32)), (.int (0 : Int32)), (.int (0 : Int32)), (.int (0 : Int32)), (.int (0 : Int32)), (.int (0 : Int32)), (.int (0 : Int32)), (.int (0 : Int32)), (.int (0 : Int32)), (.int (0 : Int32)), (.int (0 : Int32)), (.int (0 : Int32)), (.int (0 : Int32)), (.int (0 : Int32)), (.int (0 : Int32)), (.int (0 : Int32))] (.int 0) := Arv.set Ar64 qc64 S64 Nn64 Hs64 Gs64 rfl W65 12 rfl (Nat.le_of_ble_eq_true rfl)
  have Z67 : n0 ≤ h65.size := by rw [W65.size]; exact Z62
  have N68 := Fr.snoc X65 N63 ge_b1
  show own_Goes p.tables e below P (T65.setTop (mkF m 74 #[.val (.int p0), .val (.int p1), .val (.int p2), .unset, .unset, .unset, .unset] [(.ref b1)]))
  refine own_Goes.st ?_ (fun _ k => XS.dup X65.here hx rfl (hb hby at_74) rfl rfl k)
  show own_Goes p.tables e below P (T65.setTop (mkF m 75 #[.val (.int p0), .val (.int p1), .val (.int p2), .unset, .unset, .unset, .unset] [(.ref b1), (.ref b1)]))
  refine own_Goes.st ?_ (fun _ k => XS.bipush X65.here hx rfl (hb hby at_75) k)
  show own_Goes p.tables e below P (T65.setTop (mkF m 77 #[.val (.int p0), .val (.int p1), .val (.int p2), .unset, .unset, .unset, .unset] [(.int (13 : Int32)), (.ref b1), (.ref b1)]))
  refine own_Goes.st ?_ (X65.ldcInt hx hown (mvT hZ (hw _ (List.mem_of_getElem? (i := 2) rfl))) (g := (mkF m 77 #[.val (.int p0), .val (.int p1), .val (.int p2), .unset, .unset, .unset, .unset] [(.int (13 : Int32)), (.ref b1), (.ref b1)])) rfl (hb hby at_77))
  show own_Goes p.tables e below P (T65.setTop (mkF m 79 #[.val (.int p0), .val (.int p1), .val (.int p2), .unset, .unset, .unset, .unset] [(.int (2147483647 : Int32)), (.int (13 : Int32)), (.ref b1), (.ref b1)]))
  have Vc69 := V66
  obtain ⟨cl69, Ar69, qc69, S69, Nn69, Hs69, Gs69⟩ := Vc69
  have hin70 : ¬ ((13 : Int32) < 0 ∨ cl69.slots.size ≤ ((13 : Int32)).toNatClampNeg) := inb_of S69 ⟨by decide, by decide⟩
  obtain ⟨T70, h70, X70, e70, W70, st70⟩ := stI X65 hx hZ e65 Ar69 (j := (13 : Int32)) hin70 (g := (mkF m 79 #[.val (.int p0), .val (.int p1), .val (.int p2), .unset, .unset, .unset, .unset] [(.int (2147483647 : Int32)), (.int (13 : Int32)), (.ref b1), (.ref b1)])) rfl rfl (hb hby at_79)
  refine own_Goes.st ?_ st70
  have V71 : Arv Z h70 b1 k1 .int (29 : Int32) [(.int (32 : Int32)), (.int (9 : Int32)), (.int (13 : Int32)), (.int (10 : Int32)), (.int (0 : Int32)), (.int (8 : Int32)), (.int (11 : Int32)), (.int (12 : Int32)), (.int (14 : Int32)), (.int (31 : Int32)), (.int (33 : Int32)), (.int (-1 : Int32)), (.int (-2147483648 : Int32)), (.int (2147483647 : Int32)), (.int (0 : Int32)), (.int (0 : Int32)), (.int (0 : Int32)), (.int (0 : Int32)), (.int (0 : Int32)), (.int (0 : Int32)), (.int (0 : Int32)), (.int (0 : Int32)), (.int (0 : Int32)), (.int (0 : Int32)), (.int (0 : Int32)), (.int (0 : Int32)), (.int (0 : Int32)), (.int (0 : Int32)), (.int (0 : Int32))] (.int 0) := Arv.set Ar69 qc69 S69 Nn69 Hs69 Gs69 rfl W70 13 rfl (Nat.le_of_ble_eq_true rfl)
  have Z72 : n0 ≤ h70.size := by rw [W70.size]; exact Z67
  have N73 := Fr.snoc X70 N68 ge_b1
  show own_Goes p.tables e below P (T70.setTop (mkF m 80 #[.val (.int p0), .val (.int p1), .val (.int p2), .unset, .unset, .unset, .unset] [(.ref b1)]))
  refine own_Goes.st ?_ (fun _ k => XS.dup X70.here hx rfl (hb hby at_80) rfl rfl k)
  show own_Goes p.tables e below P (T70.setTop (mkF m 81 #[.val (.int p0), .val (.int p1), .val (.int p2), .unset, .unset, .unset, .unset] [(.ref b1), (.ref b1)]))
  refine own_Goes.st ?_ (fun _ k => XS.bipush X70.here hx rfl (hb hby at_81) k)
  show own_Goes p.tables e below P (T70.setTop (mkF m 83 #[.val (.int p0), .val (.int p1), .val (.int p2), .unset, .unset, .unset, .unset] [(.int (14 : Int32)), (.ref b1), (.ref b1)]))
  refine own_Goes.st ?_ (fun _ k => XS.sipush X70.here hx rfl (hb hby at_83) k)
  show own_Goes p.tables e below P (T70.setTop (mkF m 86 #[.val (.int p0), .val (.int p1), .val (.int p2), .unset, .unset, .unset, .unset] [(.int (133 : Int32)), (.int (14 : Int32)), (.ref b1), (.ref b1)]))
  have Vc74 := V71
  obtain ⟨cl74, Ar74, qc74, S74, Nn74, Hs74, Gs74⟩ := Vc74
  have hin75 : ¬ ((14 : Int32) < 0 ∨ cl74.slots.size ≤ ((14 : Int32)).toNatClampNeg) := inb_of S74 ⟨by decide, by decide⟩
  obtain ⟨T75, h75, X75, e75, W75, st75⟩ := stI X70 hx hZ e70 Ar74 (j := (14 : Int32)) hin75 (g := (mkF m 86 #[.val (.int p0), .val (.int p1), .val (.int p2), .unset, .unset, .unset, .unset] [(.int (133 : Int32)), (.int (14 : Int32)), (.ref b1), (.ref b1)])) rfl rfl (hb hby at_86)
  refine own_Goes.st ?_ st75
  have V76 : Arv Z h75 b1 k1 .int (29 : Int32) [(.int (32 : Int32)), (.int (9 : Int32)), (.int (13 : Int32)), (.int (10 : Int32)), (.int (0 : Int32)), (.int (8 : Int32)), (.int (11 : Int32)), (.int (12 : Int32)), (.int (14 : Int32)), (.int (31 : Int32)), (.int (33 : Int32)), (.int (-1 : Int32)), (.int (-2147483648 : Int32)), (.int (2147483647 : Int32)), (.int (133 : Int32)), (.int (0 : Int32)), (.int (0 : Int32)), (.int (0 : Int32)), (.int (0 : Int32)), (.int (0 : Int32)), (.int (0 : Int32)), (.int (0 : Int32)), (.int (0 : Int32)), (.int (0 : Int32)), (.int (0 : Int32)), (.int (0 : Int32)), (.int (0 : Int32)), (.int (0 : Int32)), (.int (0 : Int32))] (.int 0) := Arv.set Ar74 qc74 S74 Nn74 Hs74 Gs74 rfl W75 14 rfl (Nat.le_of_ble_eq_true rfl)
  have Z77 : n0 ≤ h75.size := by rw [W75.size]; exact Z72
  have N78 := Fr.snoc X75 N73 ge_b1
  show own_Goes p.tables e below P (T75.setTop (mkF m 87 #[.val (.int p0), .val (.int p1), .val (.int p2), .unset, .unset, .unset, .unset] [(.ref b1)]))
  refine own_Goes.st ?_ (fun _ k => XS.dup X75.here hx rfl (hb hby at_87) rfl rfl k)
  show own_Goes p.tables e below P (T75.setTop (mkF m 88 #[.val (.int p0), .val (.int p1), .val (.int p2), .unset, .unset, .unset, .unset] [(.ref b1), (.ref b1)]))
  refine own_Goes.st ?_ (fun _ k => XS.bipush X75.here hx rfl (hb hby at_88) k)
  show own_Goes p.tables e below P (T75.setTop (mkF m 90 #[.val (.int p0), .val (.int p1), .val (.int p2), .unset, .unset, .unset, .unset] [(.int (15 : Int32)), (.ref b1), (.ref b1)]))
  refine own_Goes.st ?_ (fun _ k => XS.sipush X75.here hx rfl (hb hby at_90) k)
  show own_Goes p.tables e below P (T75.setTop (mkF m 93 #[.val (.int p0), .val (.int p1), .val (.int p2), .unset, .unset, .unset, .unset] [(.int (160 : Int32)), (.int (15 : Int32)), (.ref b1), (.ref b1)]))
  have Vc79 := V76
  obtain ⟨cl79, Ar79, qc79, S79, Nn79, Hs79, Gs79⟩ := Vc79
  have hin80 : ¬ ((15 : Int32) < 0 ∨ cl79.slots.size ≤ ((15 : Int32)).toNatClampNeg) := inb_of S79 ⟨by decide, by decide⟩
  obtain ⟨T80, h80, X80, e80, W80, st80⟩ := stI X75 hx hZ e75 Ar79 (j := (15 : Int32)) hin80 (g := (mkF m 93 #[.val (.int p0), .val (.int p1), .val (.int p2), .unset, .unset, .unset, .unset] [(.int (160 : Int32)), (.int (15 : Int32)), (.ref b1), (.ref b1)])) rfl rfl (hb hby at_93)
  refine own_Goes.st ?_ st80
  have V81 : Arv Z h80 b1 k1 .int (29 : Int32) [(.int (32 : Int32)), (.int (9 : Int32)), (.int (13 : Int32)), (.int (10 : Int32)), (.int (0 : Int32)), (.int (8 : Int32)), (.int (11 : Int32)), (.int (12 : Int32)), (.int (14 : Int32)), (.int (31 : Int32)), (.int (33 : Int32)), (.int (-1 : Int32)), (.int (-2147483648 : Int32)), (.int (2147483647 : Int32)), (.int (133 : Int32)), (.int (160 : Int32)), (.int (0 : Int32)), (.int (0 : Int32)), (.int (0 : Int32)), (.int (0 : Int32)), (.int (0 : Int32)), (.int (0 : Int32)), (.int (0 : Int32)), (.int (0 : Int32)), (.int (0 : Int32)), (.int (0 : Int32)), (.int (0 : Int32)), (.int (0 : Int32)), (.int (0 : Int32))] (.int 0) := Arv.set Ar79 qc79 S79 Nn79 Hs79 Gs79 rfl W80 15 rfl (Nat.le_of_ble_eq_true rfl)
  have Z82 : n0 ≤ h80.size := by rw [W80.size]; exact Z77
  have N83 := Fr.snoc X80 N78 ge_b1
  show own_Goes p.tables e below P (T80.setTop (mkF m 94 #[.val (.int p0), .val (.int p1), .val (.int p2), .unset, .unset, .unset, .unset] [(.ref b1)]))
  refine own_Goes.st ?_ (fun _ k => XS.dup X80.here hx rfl (hb hby at_94) rfl rfl k)
  show own_Goes p.tables e below P (T80.setTop (mkF m 95 #[.val (.int p0), .val (.int p1), .val (.int p2), .unset, .unset, .unset, .unset] [(.ref b1), (.ref b1)]))
  refine own_Goes.st ?_ (fun _ k => XS.bipush X80.here hx rfl (hb hby at_95) k)
  show own_Goes p.tables e below P (T80.setTop (mkF m 97 #[.val (.int p0), .val (.int p1), .val (.int p2), .unset, .unset, .unset, .unset] [(.int (16 : Int32)), (.ref b1), (.ref b1)]))
  refine own_Goes.st ?_ (fun _ k => XS.sipush X80.here hx rfl (hb hby at_97) k)
  show own_Goes p.tables e below P (T80.setTop (mkF m 100 #[.val (.int p0), .val (.int p1), .val (.int p2), .unset, .unset, .unset, .unset] [(.int (5760 : Int32)), (.int (16 : Int32)), (.ref b1), (.ref b1)]))
  have Vc84 := V81
  obtain ⟨cl84, Ar84, qc84, S84, Nn84, Hs84, Gs84⟩ := Vc84
  have hin85 : ¬ ((16 : Int32) < 0 ∨ cl84.slots.size ≤ ((16 : Int32)).toNatClampNeg) := inb_of S84 ⟨by decide, by decide⟩
  obtain ⟨T85, h85, X85, e85, W85, st85⟩ := stI X80 hx hZ e80 Ar84 (j := (16 : Int32)) hin85 (g := (mkF m 100 #[.val (.int p0), .val (.int p1), .val (.int p2), .unset, .unset, .unset, .unset] [(.int (5760 : Int32)), (.int (16 : Int32)), (.ref b1), (.ref b1)])) rfl rfl (hb hby at_100)
  refine own_Goes.st ?_ st85
  have V86 : Arv Z h85 b1 k1 .int (29 : Int32) [(.int (32 : Int32)), (.int (9 : Int32)), (.int (13 : Int32)), (.int (10 : Int32)), (.int (0 : Int32)), (.int (8 : Int32)), (.int (11 : Int32)), (.int (12 : Int32)), (.int (14 : Int32)), (.int (31 : Int32)), (.int (33 : Int32)), (.int (-1 : Int32)), (.int (-2147483648 : Int32)), (.int (2147483647 : Int32)), (.int (133 : Int32)), (.int (160 : Int32)), (.int (5760 : Int32)), (.int (0 : Int32)), (.int (0 : Int32)), (.int (0 : Int32)), (.int (0 : Int32)), (.int (0 : Int32)), (.int (0 : Int32)), (.int (0 : Int32)), (.int (0 : Int32)), (.int (0 : Int32)), (.int (0 : Int32)), (.int (0 : Int32)), (.int (0 : Int32))] (.int 0) := Arv.set Ar84 qc84 S84 Nn84 Hs84 Gs84 rfl W85 16 rfl (Nat.le_of_ble_eq_true rfl)
  have Z87 : n0 ≤ h85.size := by rw [W85.size]; exact Z82
  have N88 := Fr.snoc X85 N83 ge_b1
  show own_Goes p.tables e below P (T85.setTop (mkF m 101 #[.val (.int p0), .val (.int p1), .val (.int p2), .unset, .unset, .unset, .unset] [(.ref b1)]))
  refine own_Goes.st ?_ (fun _ k => XS.dup X85.here hx rfl (hb hby at_101) rfl rfl k)
  show own_Goes p.tables e below P (T85.setTop (mkF m 102 #[.val (.int p0), .val (.int p1), .val (.int p2), .unset, .unset, .unset, .unset] [(.ref b1), (.ref b1)]))
  refine own_Goes.st ?_ (fun _ k => XS.bipush X85.here hx rfl (hb hby at_102) k)
  show own_Goes p.tables e below P (T85.setTop (mkF m 104 #[.val (.int p0), .val (.int p1), .val (.int p2), .unset, .unset, .unset, .unset] [(.int (17 : Int32)), (.ref b1), (.ref b1)]))
  refine own_Goes.st ?_ (fun _ k => XS.sipush X85.here hx rfl (hb hby at_104) k)
  show own_Goes p.tables e below P (T85.setTop (mkF m 107 #[.val (.int p0), .val (.int p1), .val (.int p2), .unset, .unset, .unset, .unset] [(.int (8232 : Int32)), (.int (17 : Int32)), (.ref b1), (.ref b1)]))
  have Vc89 := V86
  obtain ⟨cl89, Ar89, qc89, S89, Nn89, Hs89, Gs89⟩ := Vc89
  have hin90 : ¬ ((17 : Int32) < 0 ∨ cl89.slots.size ≤ ((17 : Int32)).toNatClampNeg) := inb_of S89 ⟨by decide, by decide⟩
  obtain ⟨T90, h90, X90, e90, W90, st90⟩ := stI X85 hx hZ e85 Ar89 (j := (17 : Int32)) hin90 (g := (mkF m 107 #[.val (.int p0), .val (.int p1), .val (.int p2), .unset, .unset, .unset, .unset] [(.int (8232 : Int32)), (.int (17 : Int32)), (.ref b1), (.ref b1)])) rfl rfl (hb hby at_107)
  refine own_Goes.st ?_ st90
  have V91 : Arv Z h90 b1 k1 .int (29 : Int32) [(.int (32 : Int32)), (.int (9 : Int32)), (.int (13 : Int32)), (.int (10 : Int32)), (.int (0 : Int32)), (.int (8 : Int32)), (.int (11 : Int32)), (.int (12 : Int32)), (.int (14 : Int32)), (.int (31 : Int32)), (.int (33 : Int32)), (.int (-1 : Int32)), (.int (-2147483648 : Int32)), (.int (2147483647 : Int32)), (.int (133 : Int32)), (.int (160 : Int32)), (.int (5760 : Int32)), (.int (8232 : Int32)), (.int (0 : Int32)), (.int (0 : Int32)), (.int (0 : Int32)), (.int (0 : Int32)), (.int (0 : Int32)), (.int (0 : Int32)), (.int (0 : Int32)), (.int (0 : Int32)), (.int (0 : Int32)), (.int (0 : Int32)), (.int (0 : Int32))] (.int 0) := Arv.set Ar89 qc89 S89 Nn89 Hs89 Gs89 rfl W90 17 rfl (Nat.le_of_ble_eq_true rfl)
  have Z92 : n0 ≤ h90.size := by rw [W90.size]; exact Z87
  have N93 := Fr.snoc X90 N88 ge_b1
  show own_Goes p.tables e below P (T90.setTop (mkF m 108 #[.val (.int p0), .val (.int p1), .val (.int p2), .unset, .unset, .unset, .unset] [(.ref b1)]))
  refine own_Goes.st ?_ (fun _ k => XS.dup X90.here hx rfl (hb hby at_108) rfl rfl k)
  show own_Goes p.tables e below P (T90.setTop (mkF m 109 #[.val (.int p0), .val (.int p1), .val (.int p2), .unset, .unset, .unset, .unset] [(.ref b1), (.ref b1)]))
  refine own_Goes.st ?_ (fun _ k => XS.bipush X90.here hx rfl (hb hby at_109) k)
  show own_Goes p.tables e below P (T90.setTop (mkF m 111 #[.val (.int p0), .val (.int p1), .val (.int p2), .unset, .unset, .unset, .unset] [(.int (18 : Int32)), (.ref b1), (.ref b1)]))
  refine own_Goes.st ?_ (fun _ k => XS.sipush X90.here hx rfl (hb hby at_111) k)
  show own_Goes p.tables e below P (T90.setTop (mkF m 114 #[.val (.int p0), .val (.int p1), .val (.int p2), .unset, .unset, .unset, .unset] [(.int (12288 : Int32)), (.int (18 : Int32)), (.ref b1), (.ref b1)]))
  have Vc94 := V91
  obtain ⟨cl94, Ar94, qc94, S94, Nn94, Hs94, Gs94⟩ := Vc94
  have hin95 : ¬ ((18 : Int32) < 0 ∨ cl94.slots.size ≤ ((18 : Int32)).toNatClampNeg) := inb_of S94 ⟨by decide, by decide⟩
  obtain ⟨T95, h95, X95, e95, W95, st95⟩ := stI X90 hx hZ e90 Ar94 (j := (18 : Int32)) hin95 (g := (mkF m 114 #[.val (.int p0), .val (.int p1), .val (.int p2), .unset, .unset, .unset, .unset] [(.int (12288 : Int32)), (.int (18 : Int32)), (.ref b1), (.ref b1)])) rfl rfl (hb hby at_114)
  refine own_Goes.st ?_ st95
  have V96 : Arv Z h95 b1 k1 .int (29 : Int32) [(.int (32 : Int32)), (.int (9 : Int32)), (.int (13 : Int32)), (.int (10 : Int32)), (.int (0 : Int32)), (.int (8 : Int32)), (.int (11 : Int32)), (.int (12 : Int32)), (.int (14 : Int32)), (.int (31 : Int32)), (.int (33 : Int32)), (.int (-1 : Int32)), (.int (-2147483648 : Int32)), (.int (2147483647 : Int32)), (.int (133 : Int32)), (.int (160 : Int32)), (.int (5760 : Int32)), (.int (8232 : Int32)), (.int (12288 : Int32)), (.int (0 : Int32)), (.int (0 : Int32)), (.int (0 : Int32)), (.int (0 : Int32)), (.int (0 : Int32)), (.int (0 : Int32)), (.int (0 : Int32)), (.int (0 : Int32)), (.int (0 : Int32)), (.int (0 : Int32))] (.int 0) := Arv.set Ar94 qc94 S94 Nn94 Hs94 Gs94 rfl W95 18 rfl (Nat.le_of_ble_eq_true rfl)
  have Z97 : n0 ≤ h95.size := by rw [W95.size]; exact Z92
  have N98 := Fr.snoc X95 N93 ge_b1
  show own_Goes p.tables e below P (T95.setTop (mkF m 115 #[.val (.int p0), .val (.int p1), .val (.int p2), .unset, .unset, .unset, .unset] [(.ref b1)]))
  refine own_Goes.st ?_ (fun _ k => XS.dup X95.here hx rfl (hb hby at_115) rfl rfl k)
  show own_Goes p.tables e below P (T95.setTop (mkF m 116 #[.val (.int p0), .val (.int p1), .val (.int p2), .unset, .unset, .unset, .unset] [(.ref b1), (.ref b1)]))
  refine own_Goes.st ?_ (fun _ k => XS.bipush X95.here hx rfl (hb hby at_116) k)
  show own_Goes p.tables e below P (T95.setTop (mkF m 118 #[.val (.int p0), .val (.int p1), .val (.int p2), .unset, .unset, .unset, .unset] [(.int (19 : Int32)), (.ref b1), (.ref b1)]))
  refine own_Goes.st ?_ (fun _ k => XS.sipush X95.here hx rfl (hb hby at_118) k)
  show own_Goes p.tables e below P (T95.setTop (mkF m 121 #[.val (.int p0), .val (.int p1), .val (.int p2), .unset, .unset, .unset, .unset] [(.int (288 : Int32)), (.int (19 : Int32)), (.ref b1), (.ref b1)]))
  have Vc99 := V96
  obtain ⟨cl99, Ar99, qc99, S99, Nn99, Hs99, Gs99⟩ := Vc99
  have hin100 : ¬ ((19 : Int32) < 0 ∨ cl99.slots.size ≤ ((19 : Int32)).toNatClampNeg) := inb_of S99 ⟨by decide, by decide⟩
  obtain ⟨T100, h100, X100, e100, W100, st100⟩ := stI X95 hx hZ e95 Ar99 (j := (19 : Int32)) hin100 (g := (mkF m 121 #[.val (.int p0), .val (.int p1), .val (.int p2), .unset, .unset, .unset, .unset] [(.int (288 : Int32)), (.int (19 : Int32)), (.ref b1), (.ref b1)])) rfl rfl (hb hby at_121)
  refine own_Goes.st ?_ st100
  have V101 : Arv Z h100 b1 k1 .int (29 : Int32) [(.int (32 : Int32)), (.int (9 : Int32)), (.int (13 : Int32)), (.int (10 : Int32)), (.int (0 : Int32)), (.int (8 : Int32)), (.int (11 : Int32)), (.int (12 : Int32)), (.int (14 : Int32)), (.int (31 : Int32)), (.int (33 : Int32)), (.int (-1 : Int32)), (.int (-2147483648 : Int32)), (.int (2147483647 : Int32)), (.int (133 : Int32)), (.int (160 : Int32)), (.int (5760 : Int32)), (.int (8232 : Int32)), (.int (12288 : Int32)), (.int (288 : Int32)), (.int (0 : Int32)), (.int (0 : Int32)), (.int (0 : Int32)), (.int (0 : Int32)), (.int (0 : Int32)), (.int (0 : Int32)), (.int (0 : Int32)), (.int (0 : Int32)), (.int (0 : Int32))] (.int 0) := Arv.set Ar99 qc99 S99 Nn99 Hs99 Gs99 rfl W100 19 rfl (Nat.le_of_ble_eq_true rfl)
  have Z102 : n0 ≤ h100.size := by rw [W100.size]; exact Z97
  have N103 := Fr.snoc X100 N98 ge_b1
  show own_Goes p.tables e below P (T100.setTop (mkF m 122 #[.val (.int p0), .val (.int p1), .val (.int p2), .unset, .unset, .unset, .unset] [(.ref b1)]))
  refine own_Goes.st ?_ (fun _ k => XS.dup X100.here hx rfl (hb hby at_122) rfl rfl k)
  show own_Goes p.tables e below P (T100.setTop (mkF m 123 #[.val (.int p0), .val (.int p1), .val (.int p2), .unset, .unset, .unset, .unset] [(.ref b1), (.ref b1)]))
  refine own_Goes.st ?_ (fun _ k => XS.bipush X100.here hx rfl (hb hby at_123) k)
  show own_Goes p.tables e below P (T100.setTop (mkF m 125 #[.val (.int p0), .val (.int p1), .val (.int p2), .unset, .unset, .unset, .unset] [(.int (20 : Int32)), (.ref b1), (.ref b1)]))
  refine own_Goes.st ?_ (fun _ k => XS.sipush X100.here hx rfl (hb hby at_125) k)
  show own_Goes p.tables e below P (T100.setTop (mkF m 128 #[.val (.int p0), .val (.int p1), .val (.int p2), .unset, .unset, .unset, .unset] [(.int (265 : Int32)), (.int (20 : Int32)), (.ref b1), (.ref b1)]))
  have Vc104 := V101
  obtain ⟨cl104, Ar104, qc104, S104, Nn104, Hs104, Gs104⟩ := Vc104
  have hin105 : ¬ ((20 : Int32) < 0 ∨ cl104.slots.size ≤ ((20 : Int32)).toNatClampNeg) := inb_of S104 ⟨by decide, by decide⟩
  obtain ⟨T105, h105, X105, e105, W105, st105⟩ := stI X100 hx hZ e100 Ar104 (j := (20 : Int32)) hin105 (g := (mkF m 128 #[.val (.int p0), .val (.int p1), .val (.int p2), .unset, .unset, .unset, .unset] [(.int (265 : Int32)), (.int (20 : Int32)), (.ref b1), (.ref b1)])) rfl rfl (hb hby at_128)
  refine own_Goes.st ?_ st105
  have V106 : Arv Z h105 b1 k1 .int (29 : Int32) [(.int (32 : Int32)), (.int (9 : Int32)), (.int (13 : Int32)), (.int (10 : Int32)), (.int (0 : Int32)), (.int (8 : Int32)), (.int (11 : Int32)), (.int (12 : Int32)), (.int (14 : Int32)), (.int (31 : Int32)), (.int (33 : Int32)), (.int (-1 : Int32)), (.int (-2147483648 : Int32)), (.int (2147483647 : Int32)), (.int (133 : Int32)), (.int (160 : Int32)), (.int (5760 : Int32)), (.int (8232 : Int32)), (.int (12288 : Int32)), (.int (288 : Int32)), (.int (265 : Int32)), (.int (0 : Int32)), (.int (0 : Int32)), (.int (0 : Int32)), (.int (0 : Int32)), (.int (0 : Int32)), (.int (0 : Int32)), (.int (0 : Int32)), (.int (0 : Int32))] (.int 0) := Arv.set Ar104 qc104 S104 Nn104 Hs104 Gs104 rfl W105 20 rfl (Nat.le_of_ble_eq_true rfl)
  have Z107 : n0 ≤ h105.size := by rw [W105.size]; exact Z102
  have N108 := Fr.snoc X105 N103 ge_b1
  show own_Goes p.tables e below P (T105.setTop (mkF m 129 #[.val (.int p0), .val (.int p1), .val (.int p2), .unset, .unset, .unset, .unset] [(.ref b1)]))
  refine own_Goes.st ?_ (fun _ k => XS.dup X105.here hx rfl (hb hby at_129) rfl rfl k)
  show own_Goes p.tables e below P (T105.setTop (mkF m 130 #[.val (.int p0), .val (.int p1), .val (.int p2), .unset, .unset, .unset, .unset] [(.ref b1), (.ref b1)]))
  refine own_Goes.st ?_ (fun _ k => XS.bipush X105.here hx rfl (hb hby at_130) k)
  show own_Goes p.tables e below P (T105.setTop (mkF m 132 #[.val (.int p0), .val (.int p1), .val (.int p2), .unset, .unset, .unset, .unset] [(.int (21 : Int32)), (.ref b1), (.ref b1)]))
  refine own_Goes.st ?_ (fun _ k => XS.sipush X105.here hx rfl (hb hby at_132) k)
  show own_Goes p.tables e below P (T105.setTop (mkF m 135 #[.val (.int p0), .val (.int p1), .val (.int p2), .unset, .unset, .unset, .unset] [(.int (266 : Int32)), (.int (21 : Int32)), (.ref b1), (.ref b1)]))
  have Vc109 := V106
  obtain ⟨cl109, Ar109, qc109, S109, Nn109, Hs109, Gs109⟩ := Vc109
  have hin110 : ¬ ((21 : Int32) < 0 ∨ cl109.slots.size ≤ ((21 : Int32)).toNatClampNeg) := inb_of S109 ⟨by decide, by decide⟩
  obtain ⟨T110, h110, X110, e110, W110, st110⟩ := stI X105 hx hZ e105 Ar109 (j := (21 : Int32)) hin110 (g := (mkF m 135 #[.val (.int p0), .val (.int p1), .val (.int p2), .unset, .unset, .unset, .unset] [(.int (266 : Int32)), (.int (21 : Int32)), (.ref b1), (.ref b1)])) rfl rfl (hb hby at_135)
  refine own_Goes.st ?_ st110
  have V111 : Arv Z h110 b1 k1 .int (29 : Int32) [(.int (32 : Int32)), (.int (9 : Int32)), (.int (13 : Int32)), (.int (10 : Int32)), (.int (0 : Int32)), (.int (8 : Int32)), (.int (11 : Int32)), (.int (12 : Int32)), (.int (14 : Int32)), (.int (31 : Int32)), (.int (33 : Int32)), (.int (-1 : Int32)), (.int (-2147483648 : Int32)), (.int (2147483647 : Int32)), (.int (133 : Int32)), (.int (160 : Int32)), (.int (5760 : Int32)), (.int (8232 : Int32)), (.int (12288 : Int32)), (.int (288 : Int32)), (.int (265 : Int32)), (.int (266 : Int32)), (.int (0 : Int32)), (.int (0 : Int32)), (.int (0 : Int32)), (.int (0 : Int32)), (.int (0 : Int32)), (.int (0 : Int32)), (.int (0 : Int32))] (.int 0) := Arv.set Ar109 qc109 S109 Nn109 Hs109 Gs109 rfl W110 21 rfl (Nat.le_of_ble_eq_true rfl)
  have Z112 : n0 ≤ h110.size := by rw [W110.size]; exact Z107
  have N113 := Fr.snoc X110 N108 ge_b1
  show own_Goes p.tables e below P (T110.setTop (mkF m 136 #[.val (.int p0), .val (.int p1), .val (.int p2), .unset, .unset, .unset, .unset] [(.ref b1)]))
  refine own_Goes.st ?_ (fun _ k => XS.dup X110.here hx rfl (hb hby at_136) rfl rfl k)
  show own_Goes p.tables e below P (T110.setTop (mkF m 137 #[.val (.int p0), .val (.int p1), .val (.int p2), .unset, .unset, .unset, .unset] [(.ref b1), (.ref b1)]))
  refine own_Goes.st ?_ (fun _ k => XS.bipush X110.here hx rfl (hb hby at_137) k)
  show own_Goes p.tables e below P (T110.setTop (mkF m 139 #[.val (.int p0), .val (.int p1), .val (.int p2), .unset, .unset, .unset, .unset] [(.int (22 : Int32)), (.ref b1), (.ref b1)]))
  refine own_Goes.st ?_ (fun _ k => XS.sipush X110.here hx rfl (hb hby at_139) k)
  show own_Goes p.tables e below P (T110.setTop (mkF m 142 #[.val (.int p0), .val (.int p1), .val (.int p2), .unset, .unset, .unset, .unset] [(.int (269 : Int32)), (.int (22 : Int32)), (.ref b1), (.ref b1)]))
  have Vc114 := V111
  obtain ⟨cl114, Ar114, qc114, S114, Nn114, Hs114, Gs114⟩ := Vc114
  have hin115 : ¬ ((22 : Int32) < 0 ∨ cl114.slots.size ≤ ((22 : Int32)).toNatClampNeg) := inb_of S114 ⟨by decide, by decide⟩
  obtain ⟨T115, h115, X115, e115, W115, st115⟩ := stI X110 hx hZ e110 Ar114 (j := (22 : Int32)) hin115 (g := (mkF m 142 #[.val (.int p0), .val (.int p1), .val (.int p2), .unset, .unset, .unset, .unset] [(.int (269 : Int32)), (.int (22 : Int32)), (.ref b1), (.ref b1)])) rfl rfl (hb hby at_142)
  refine own_Goes.st ?_ st115
  have V116 : Arv Z h115 b1 k1 .int (29 : Int32) [(.int (32 : Int32)), (.int (9 : Int32)), (.int (13 : Int32)), (.int (10 : Int32)), (.int (0 : Int32)), (.int (8 : Int32)), (.int (11 : Int32)), (.int (12 : Int32)), (.int (14 : Int32)), (.int (31 : Int32)), (.int (33 : Int32)), (.int (-1 : Int32)), (.int (-2147483648 : Int32)), (.int (2147483647 : Int32)), (.int (133 : Int32)), (.int (160 : Int32)), (.int (5760 : Int32)), (.int (8232 : Int32)), (.int (12288 : Int32)), (.int (288 : Int32)), (.int (265 : Int32)), (.int (266 : Int32)), (.int (269 : Int32)), (.int (0 : Int32)), (.int (0 : Int32)), (.int (0 : Int32)), (.int (0 : Int32)), (.int (0 : Int32)), (.int (0 : Int32))] (.int 0) := Arv.set Ar114 qc114 S114 Nn114 Hs114 Gs114 rfl W115 22 rfl (Nat.le_of_ble_eq_true rfl)
  have Z117 : n0 ≤ h115.size := by rw [W115.size]; exact Z112
  have N118 := Fr.snoc X115 N113 ge_b1
  show own_Goes p.tables e below P (T115.setTop (mkF m 143 #[.val (.int p0), .val (.int p1), .val (.int p2), .unset, .unset, .unset, .unset] [(.ref b1)]))
  refine own_Goes.st ?_ (fun _ k => XS.dup X115.here hx rfl (hb hby at_143) rfl rfl k)
  show own_Goes p.tables e below P (T115.setTop (mkF m 144 #[.val (.int p0), .val (.int p1), .val (.int p2), .unset, .unset, .unset, .unset] [(.ref b1), (.ref b1)]))
  refine own_Goes.st ?_ (fun _ k => XS.bipush X115.here hx rfl (hb hby at_144) k)
  show own_Goes p.tables e below P (T115.setTop (mkF m 146 #[.val (.int p0), .val (.int p1), .val (.int p2), .unset, .unset, .unset, .unset] [(.int (23 : Int32)), (.ref b1), (.ref b1)]))
  refine own_Goes.st ?_ (fun _ k => XS.bipush X115.here hx rfl (hb hby at_146) k)
  show own_Goes p.tables e below P (T115.setTop (mkF m 148 #[.val (.int p0), .val (.int p1), .val (.int p2), .unset, .unset, .unset, .unset] [(.int (127 : Int32)), (.int (23 : Int32)), (.ref b1), (.ref b1)]))
  have Vc119 := V116
  obtain ⟨cl119, Ar119, qc119, S119, Nn119, Hs119, Gs119⟩ := Vc119
  have hin120 : ¬ ((23 : Int32) < 0 ∨ cl119.slots.size ≤ ((23 : Int32)).toNatClampNeg) := inb_of S119 ⟨by decide, by decide⟩
  obtain ⟨T120, h120, X120, e120, W120, st120⟩ := stI X115 hx hZ e115 Ar119 (j := (23 : Int32)) hin120 (g := (mkF m 148 #[.val (.int p0), .val (.int p1), .val (.int p2), .unset, .unset, .unset, .unset] [(.int (127 : Int32)), (.int (23 : Int32)), (.ref b1), (.ref b1)])) rfl rfl (hb hby at_148)
  refine own_Goes.st ?_ st120
  have V121 : Arv Z h120 b1 k1 .int (29 : Int32) [(.int (32 : Int32)), (.int (9 : Int32)), (.int (13 : Int32)), (.int (10 : Int32)), (.int (0 : Int32)), (.int (8 : Int32)), (.int (11 : Int32)), (.int (12 : Int32)), (.int (14 : Int32)), (.int (31 : Int32)), (.int (33 : Int32)), (.int (-1 : Int32)), (.int (-2147483648 : Int32)), (.int (2147483647 : Int32)), (.int (133 : Int32)), (.int (160 : Int32)), (.int (5760 : Int32)), (.int (8232 : Int32)), (.int (12288 : Int32)), (.int (288 : Int32)), (.int (265 : Int32)), (.int (266 : Int32)), (.int (269 : Int32)), (.int (127 : Int32)), (.int (0 : Int32)), (.int (0 : Int32)), (.int (0 : Int32)), (.int (0 : Int32)), (.int (0 : Int32))] (.int 0) := Arv.set Ar119 qc119 S119 Nn119 Hs119 Gs119 rfl W120 23 rfl (Nat.le_of_ble_eq_true rfl)
  have Z122 : n0 ≤ h120.size := by rw [W120.size]; exact Z117
  have N123 := Fr.snoc X120 N118 ge_b1
  show own_Goes p.tables e below P (T120.setTop (mkF m 149 #[.val (.int p0), .val (.int p1), .val (.int p2), .unset, .unset, .unset, .unset] [(.ref b1)]))
  refine own_Goes.st ?_ (fun _ k => XS.dup X120.here hx rfl (hb hby at_149) rfl rfl k)
  show own_Goes p.tables e below P (T120.setTop (mkF m 150 #[.val (.int p0), .val (.int p1), .val (.int p2), .unset, .unset, .unset, .unset] [(.ref b1), (.ref b1)]))
  refine own_Goes.st ?_ (fun _ k => XS.bipush X120.here hx rfl (hb hby at_150) k)
  show own_Goes p.tables e below P (T120.setTop (mkF m 152 #[.val (.int p0), .val (.int p1), .val (.int p2), .unset, .unset, .unset, .unset] [(.int (24 : Int32)), (.ref b1), (.ref b1)]))
  refine own_Goes.st ?_ (fun _ k => XS.bipush X120.here hx rfl (hb hby at_152) k)
  show own_Goes p.tables e below P (T120.setTop (mkF m 154 #[.val (.int p0), .val (.int p1), .val (.int p2), .unset, .unset, .unset, .unset] [(.int (28 : Int32)), (.int (24 : Int32)), (.ref b1), (.ref b1)]))
  have Vc124 := V121
  obtain ⟨cl124, Ar124, qc124, S124, Nn124, Hs124, Gs124⟩ := Vc124
  have hin125 : ¬ ((24 : Int32) < 0 ∨ cl124.slots.size ≤ ((24 : Int32)).toNatClampNeg) := inb_of S124 ⟨by decide, by decide⟩
  obtain ⟨T125, h125, X125, e125, W125, st125⟩ := stI X120 hx hZ e120 Ar124 (j := (24 : Int32)) hin125 (g := (mkF m 154 #[.val (.int p0), .val (.int p1), .val (.int p2), .unset, .unset, .unset, .unset] [(.int (28 : Int32)), (.int (24 : Int32)), (.ref b1), (.ref b1)])) rfl rfl (hb hby at_154)
  refine own_Goes.st ?_ st125
  have V126 : Arv Z h125 b1 k1 .int (29 : Int32) [(.int (32 : Int32)), (.int (9 : Int32)), (.int (13 : Int32)), (.int (10 : Int32)), (.int (0 : Int32)), (.int (8 : Int32)), (.int (11 : Int32)), (.int (12 : Int32)), (.int (14 : Int32)), (.int (31 : Int32)), (.int (33 : Int32)), (.int (-1 : Int32)), (.int (-2147483648 : Int32)), (.int (2147483647 : Int32)), (.int (133 : Int32)), (.int (160 : Int32)), (.int (5760 : Int32)), (.int (8232 : Int32)), (.int (12288 : Int32)), (.int (288 : Int32)), (.int (265 : Int32)), (.int (266 : Int32)), (.int (269 : Int32)), (.int (127 : Int32)), (.int (28 : Int32)), (.int (0 : Int32)), (.int (0 : Int32)), (.int (0 : Int32)), (.int (0 : Int32))] (.int 0) := Arv.set Ar124 qc124 S124 Nn124 Hs124 Gs124 rfl W125 24 rfl (Nat.le_of_ble_eq_true rfl)
  have Z127 : n0 ≤ h125.size := by rw [W125.size]; exact Z122
  have N128 := Fr.snoc X125 N123 ge_b1
  show own_Goes p.tables e below P (T125.setTop (mkF m 155 #[.val (.int p0), .val (.int p1), .val (.int p2), .unset, .unset, .unset, .unset] [(.ref b1)]))
  refine own_Goes.st ?_ (fun _ k => XS.dup X125.here hx rfl (hb hby at_155) rfl rfl k)
  show own_Goes p.tables e below P (T125.setTop (mkF m 156 #[.val (.int p0), .val (.int p1), .val (.int p2), .unset, .unset, .unset, .unset] [(.ref b1), (.ref b1)]))
  refine own_Goes.st ?_ (fun _ k => XS.bipush X125.here hx rfl (hb hby at_156) k)
  show own_Goes p.tables e below P (T125.setTop (mkF m 158 #[.val (.int p0), .val (.int p1), .val (.int p2), .unset, .unset, .unset, .unset] [(.int (25 : Int32)), (.ref b1), (.ref b1)]))
  refine own_Goes.st ?_ (fun _ k => XS.bipush X125.here hx rfl (hb hby at_158) k)
  show own_Goes p.tables e below P (T125.setTop (mkF m 160 #[.val (.int p0), .val (.int p1), .val (.int p2), .unset, .unset, .unset, .unset] [(.int (29 : Int32)), (.int (25 : Int32)), (.ref b1), (.ref b1)]))
  have Vc129 := V126
  obtain ⟨cl129, Ar129, qc129, S129, Nn129, Hs129, Gs129⟩ := Vc129
  have hin130 : ¬ ((25 : Int32) < 0 ∨ cl129.slots.size ≤ ((25 : Int32)).toNatClampNeg) := inb_of S129 ⟨by decide, by decide⟩
  obtain ⟨T130, h130, X130, e130, W130, st130⟩ := stI X125 hx hZ e125 Ar129 (j := (25 : Int32)) hin130 (g := (mkF m 160 #[.val (.int p0), .val (.int p1), .val (.int p2), .unset, .unset, .unset, .unset] [(.int (29 : Int32)), (.int (25 : Int32)), (.ref b1), (.ref b1)])) rfl rfl (hb hby at_160)
  refine own_Goes.st ?_ st130
  have V131 : Arv Z h130 b1 k1 .int (29 : Int32) [(.int (32 : Int32)), (.int (9 : Int32)), (.int (13 : Int32)), (.int (10 : Int32)), (.int (0 : Int32)), (.int (8 : Int32)), (.int (11 : Int32)), (.int (12 : Int32)), (.int (14 : Int32)), (.int (31 : Int32)), (.int (33 : Int32)), (.int (-1 : Int32)), (.int (-2147483648 : Int32)), (.int (2147483647 : Int32)), (.int (133 : Int32)), (.int (160 : Int32)), (.int (5760 : Int32)), (.int (8232 : Int32)), (.int (12288 : Int32)), (.int (288 : Int32)), (.int (265 : Int32)), (.int (266 : Int32)), (.int (269 : Int32)), (.int (127 : Int32)), (.int (28 : Int32)), (.int (29 : Int32)), (.int (0 : Int32)), (.int (0 : Int32)), (.int (0 : Int32))] (.int 0) := Arv.set Ar129 qc129 S129 Nn129 Hs129 Gs129 rfl W130 25 rfl (Nat.le_of_ble_eq_true rfl)
  have Z132 : n0 ≤ h130.size := by rw [W130.size]; exact Z127
  have N133 := Fr.snoc X130 N128 ge_b1
  show own_Goes p.tables e below P (T130.setTop (mkF m 161 #[.val (.int p0), .val (.int p1), .val (.int p2), .unset, .unset, .unset, .unset] [(.ref b1)]))
  refine own_Goes.st ?_ (fun _ k => XS.dup X130.here hx rfl (hb hby at_161) rfl rfl k)
  show own_Goes p.tables e below P (T130.setTop (mkF m 162 #[.val (.int p0), .val (.int p1), .val (.int p2), .unset, .unset, .unset, .unset] [(.ref b1), (.ref b1)]))
  refine own_Goes.st ?_ (fun _ k => XS.bipush X130.here hx rfl (hb hby at_162) k)
  show own_Goes p.tables e below P (T130.setTop (mkF m 164 #[.val (.int p0), .val (.int p1), .val (.int p2), .unset, .unset, .unset, .unset] [(.int (26 : Int32)), (.ref b1), (.ref b1)]))
  refine own_Goes.st ?_ (fun _ k => XS.bipush X130.here hx rfl (hb hby at_164) k)
  show own_Goes p.tables e below P (T130.setTop (mkF m 166 #[.val (.int p0), .val (.int p1), .val (.int p2), .unset, .unset, .unset, .unset] [(.int (30 : Int32)), (.int (26 : Int32)), (.ref b1), (.ref b1)]))
  have Vc134 := V131
  obtain ⟨cl134, Ar134, qc134, S134, Nn134, Hs134, Gs134⟩ := Vc134
  have hin135 : ¬ ((26 : Int32) < 0 ∨ cl134.slots.size ≤ ((26 : Int32)).toNatClampNeg) := inb_of S134 ⟨by decide, by decide⟩
  obtain ⟨T135, h135, X135, e135, W135, st135⟩ := stI X130 hx hZ e130 Ar134 (j := (26 : Int32)) hin135 (g := (mkF m 166 #[.val (.int p0), .val (.int p1), .val (.int p2), .unset, .unset, .unset, .unset] [(.int (30 : Int32)), (.int (26 : Int32)), (.ref b1), (.ref b1)])) rfl rfl (hb hby at_166)
  refine own_Goes.st ?_ st135
  have V136 : Arv Z h135 b1 k1 .int (29 : Int32) [(.int (32 : Int32)), (.int (9 : Int32)), (.int (13 : Int32)), (.int (10 : Int32)), (.int (0 : Int32)), (.int (8 : Int32)), (.int (11 : Int32)), (.int (12 : Int32)), (.int (14 : Int32)), (.int (31 : Int32)), (.int (33 : Int32)), (.int (-1 : Int32)), (.int (-2147483648 : Int32)), (.int (2147483647 : Int32)), (.int (133 : Int32)), (.int (160 : Int32)), (.int (5760 : Int32)), (.int (8232 : Int32)), (.int (12288 : Int32)), (.int (288 : Int32)), (.int (265 : Int32)), (.int (266 : Int32)), (.int (269 : Int32)), (.int (127 : Int32)), (.int (28 : Int32)), (.int (29 : Int32)), (.int (30 : Int32)), (.int (0 : Int32)), (.int (0 : Int32))] (.int 0) := Arv.set Ar134 qc134 S134 Nn134 Hs134 Gs134 rfl W135 26 rfl (Nat.le_of_ble_eq_true rfl)
  have Z137 : n0 ≤ h135.size := by rw [W135.size]; exact Z132
  have N138 := Fr.snoc X135 N133 ge_b1
  show own_Goes p.tables e below P (T135.setTop (mkF m 167 #[.val (.int p0), .val (.int p1), .val (.int p2), .unset, .unset, .unset, .unset] [(.ref b1)]))
  refine own_Goes.st ?_ (fun _ k => XS.dup X135.here hx rfl (hb hby at_167) rfl rfl k)
  show own_Goes p.tables e below P (T135.setTop (mkF m 168 #[.val (.int p0), .val (.int p1), .val (.int p2), .unset, .unset, .unset, .unset] [(.ref b1), (.ref b1)]))
  refine own_Goes.st ?_ (fun _ k => XS.bipush X135.here hx rfl (hb hby at_168) k)
  show own_Goes p.tables e below P (T135.setTop (mkF m 170 #[.val (.int p0), .val (.int p1), .val (.int p2), .unset, .unset, .unset, .unset] [(.int (27 : Int32)), (.ref b1), (.ref b1)]))
  refine own_Goes.st ?_ (fun _ k => Jvm.Free.XT.bipushV X135.here hx rfl (-32 : Int32) (hb hby at_170) (by decide) k)
  show own_Goes p.tables e below P (T135.setTop (mkF m 172 #[.val (.int p0), .val (.int p1), .val (.int p2), .unset, .unset, .unset, .unset] [(.int (-32 : Int32)), (.int (27 : Int32)), (.ref b1), (.ref b1)]))
  have Vc139 := V136
  obtain ⟨cl139, Ar139, qc139, S139, Nn139, Hs139, Gs139⟩ := Vc139
  have hin140 : ¬ ((27 : Int32) < 0 ∨ cl139.slots.size ≤ ((27 : Int32)).toNatClampNeg) := inb_of S139 ⟨by decide, by decide⟩
  obtain ⟨T140, h140, X140, e140, W140, st140⟩ := stI X135 hx hZ e135 Ar139 (j := (27 : Int32)) hin140 (g := (mkF m 172 #[.val (.int p0), .val (.int p1), .val (.int p2), .unset, .unset, .unset, .unset] [(.int (-32 : Int32)), (.int (27 : Int32)), (.ref b1), (.ref b1)])) rfl rfl (hb hby at_172)
  refine own_Goes.st ?_ st140
  have V141 : Arv Z h140 b1 k1 .int (29 : Int32) [(.int (32 : Int32)), (.int (9 : Int32)), (.int (13 : Int32)), (.int (10 : Int32)), (.int (0 : Int32)), (.int (8 : Int32)), (.int (11 : Int32)), (.int (12 : Int32)), (.int (14 : Int32)), (.int (31 : Int32)), (.int (33 : Int32)), (.int (-1 : Int32)), (.int (-2147483648 : Int32)), (.int (2147483647 : Int32)), (.int (133 : Int32)), (.int (160 : Int32)), (.int (5760 : Int32)), (.int (8232 : Int32)), (.int (12288 : Int32)), (.int (288 : Int32)), (.int (265 : Int32)), (.int (266 : Int32)), (.int (269 : Int32)), (.int (127 : Int32)), (.int (28 : Int32)), (.int (29 : Int32)), (.int (30 : Int32)), (.int (-32 : Int32)), (.int (0 : Int32))] (.int 0) := Arv.set Ar139 qc139 S139 Nn139 Hs139 Gs139 rfl W140 27 rfl (Nat.le_of_ble_eq_true rfl)
  have Z142 : n0 ≤ h140.size := by rw [W140.size]; exact Z137
  have N143 := Fr.snoc X140 N138 ge_b1
  show own_Goes p.tables e below P (T140.setTop (mkF m 173 #[.val (.int p0), .val (.int p1), .val (.int p2), .unset, .unset, .unset, .unset] [(.ref b1)]))
  refine own_Goes.st ?_ (fun _ k => XS.dup X140.here hx rfl (hb hby at_173) rfl rfl k)
  show own_Goes p.tables e below P (T140.setTop (mkF m 174 #[.val (.int p0), .val (.int p1), .val (.int p2), .unset, .unset, .unset, .unset] [(.ref b1), (.ref b1)]))
  refine own_Goes.st ?_ (fun _ k => XS.bipush X140.here hx rfl (hb hby at_174) k)
  show own_Goes p.tables e below P (T140.setTop (mkF m 176 #[.val (.int p0), .val (.int p1), .val (.int p2), .unset, .unset, .unset, .unset] [(.int (28 : Int32)), (.ref b1), (.ref b1)]))
  refine own_Goes.st ?_ (fun _ k => Jvm.Free.XT.bipushV X140.here hx rfl (-9 : Int32) (hb hby at_176) (by decide) k)
  show own_Goes p.tables e below P (T140.setTop (mkF m 178 #[.val (.int p0), .val (.int p1), .val (.int p2), .unset, .unset, .unset, .unset] [(.int (-9 : Int32)), (.int (28 : Int32)), (.ref b1), (.ref b1)]))
  have Vc144 := V141
  obtain ⟨cl144, Ar144, qc144, S144, Nn144, Hs144, Gs144⟩ := Vc144
  have hin145 : ¬ ((28 : Int32) < 0 ∨ cl144.slots.size ≤ ((28 : Int32)).toNatClampNeg) := inb_of S144 ⟨by decide, by decide⟩
  obtain ⟨T145, h145, X145, e145, W145, st145⟩ := stI X140 hx hZ e140 Ar144 (j := (28 : Int32)) hin145 (g := (mkF m 178 #[.val (.int p0), .val (.int p1), .val (.int p2), .unset, .unset, .unset, .unset] [(.int (-9 : Int32)), (.int (28 : Int32)), (.ref b1), (.ref b1)])) rfl rfl (hb hby at_178)
  refine own_Goes.st ?_ st145
  have V146 : Arv Z h145 b1 k1 .int (29 : Int32) [(.int (32 : Int32)), (.int (9 : Int32)), (.int (13 : Int32)), (.int (10 : Int32)), (.int (0 : Int32)), (.int (8 : Int32)), (.int (11 : Int32)), (.int (12 : Int32)), (.int (14 : Int32)), (.int (31 : Int32)), (.int (33 : Int32)), (.int (-1 : Int32)), (.int (-2147483648 : Int32)), (.int (2147483647 : Int32)), (.int (133 : Int32)), (.int (160 : Int32)), (.int (5760 : Int32)), (.int (8232 : Int32)), (.int (12288 : Int32)), (.int (288 : Int32)), (.int (265 : Int32)), (.int (266 : Int32)), (.int (269 : Int32)), (.int (127 : Int32)), (.int (28 : Int32)), (.int (29 : Int32)), (.int (30 : Int32)), (.int (-32 : Int32)), (.int (-9 : Int32))] (.int 0) := Arv.set Ar144 qc144 S144 Nn144 Hs144 Gs144 rfl W145 28 rfl (Nat.le_of_ble_eq_true rfl)
  have Z147 : n0 ≤ h145.size := by rw [W145.size]; exact Z142
  have N148 := Fr.snoc X145 N143 ge_b1
  show own_Goes p.tables e below P (T145.setTop (mkF m 179 #[.val (.int p0), .val (.int p1), .val (.int p2), .unset, .unset, .unset, .unset] [(.ref b1)]))
  refine own_Goes.st ?_ (fun _ k => XS.astoreN X145.here hx rfl (hb hby at_179) rfl rfl (l' := #[.val (.int p0), .val (.int p1), .val (.int p2), .val (.ref b1), .unset, .unset, .unset]) rfl k)
  show own_Goes p.tables e below P (T145.setTop (mkF m 180 #[.val (.int p0), .val (.int p1), .val (.int p2), .val (.ref b1), .unset, .unset, .unset] []))
  refine own_Goes.st ?_ (fun _ k => XS.aloadN X145.here hx rfl (hb hby at_180) rfl rfl k)
  show own_Goes p.tables e below P (T145.setTop (mkF m 181 #[.val (.int p0), .val (.int p1), .val (.int p2), .val (.ref b1), .unset, .unset, .unset] [(.ref b1)]))
  refine own_Goes.st ?_ (fun _ k => XS.iloadN X145.here hx rfl (hb hby at_181) rfl k)
  show own_Goes p.tables e below P (T145.setTop (mkF m 182 #[.val (.int p0), .val (.int p1), .val (.int p2), .val (.ref b1), .unset, .unset, .unset] [(.int p1), (.ref b1)]))
  refine own_Goes.st ?_ (X145.ldcInt hx hown (mvT hZ (hw _ (List.mem_of_getElem? (i := 2) rfl))) (g := (mkF m 182 #[.val (.int p0), .val (.int p1), .val (.int p2), .val (.ref b1), .unset, .unset, .unset] [(.int p1), (.ref b1)])) rfl (hb hby at_182))
  show own_Goes p.tables e below P (T145.setTop (mkF m 184 #[.val (.int p0), .val (.int p1), .val (.int p2), .val (.ref b1), .unset, .unset, .unset] [(.int (2147483647 : Int32)), (.int p1), (.ref b1)]))
  refine own_Goes.st ?_ (fun _ k => XS.iand X145.here hx rfl (hb hby at_184) rfl k)
  show own_Goes p.tables e below P (T145.setTop (mkF m 185 #[.val (.int p0), .val (.int p1), .val (.int p2), .val (.ref b1), .unset, .unset, .unset] [(.int (p1 &&& (2147483647 : Int32))), (.ref b1)]))
  refine own_Goes.st ?_ (fun _ k => XS.aloadN X145.here hx rfl (hb hby at_185) rfl rfl k)
  show own_Goes p.tables e below P (T145.setTop (mkF m 186 #[.val (.int p0), .val (.int p1), .val (.int p2), .val (.ref b1), .unset, .unset, .unset] [(.ref b1), (.int (p1 &&& (2147483647 : Int32))), (.ref b1)]))
  have Vc149 := V146
  obtain ⟨cl149, Ar149, qc149, S149, Nn149, Hs149, Gs149⟩ := Vc149
  refine own_Goes.st ?_ (X145.arraylength hx (by rw [e145]; exact Ar149.1) (State.isArrayOf_alike hZ.alike Ar149.2.1) (g := (mkF m 186 #[.val (.int p0), .val (.int p1), .val (.int p2), .val (.ref b1), .unset, .unset, .unset] [(.ref b1), (.int (p1 &&& (2147483647 : Int32))), (.ref b1)])) rfl rfl (hb hby at_186))
  rw [len_of S149 Nn149]
  show own_Goes p.tables e below P (T145.setTop (mkF m 187 #[.val (.int p0), .val (.int p1), .val (.int p2), .val (.ref b1), .unset, .unset, .unset] [(.int (29 : Int32)), (.int (p1 &&& (2147483647 : Int32))), (.ref b1)]))
  refine own_Goes.st ?_ (fun _ k => iremM X145 hx rfl (hb hby at_187) rfl (by decide) k)
  show own_Goes p.tables e below P (T145.setTop (mkF m 188 #[.val (.int p0), .val (.int p1), .val (.int p2), .val (.ref b1), .unset, .unset, .unset] [(.int ((p1 &&& (2147483647 : Int32)) % (29 : Int32))), (.ref b1)]))
  have hin : ¬ (((p1 &&& (2147483647 : Int32)) % (29 : Int32)) < 0 ∨ cl149.slots.size ≤ (((p1 &&& (2147483647 : Int32)) % (29 : Int32))).toNatClampNeg) := inb_of S149 (own_idx p1)
  obtain ⟨dd, hdd⟩ := fit_I (Gs149 _ (Nat.lt_of_not_le fun y => hin (Or.inr y))) (Or.inl rfl)
  refine own_Goes.st ?_ (X145.iaload hx (j := ((p1 &&& (2147483647 : Int32)) % (29 : Int32))) (v := .int dd) (by rw [e145]; exact Ar149.1) (State.isArrayOf_alike hZ.alike Ar149.2.1) Ar149.2.2 hin (Has.at Hs149 hin hdd) (g := (mkF m 188 #[.val (.int p0), .val (.int p1), .val (.int p2), .val (.ref b1), .unset, .unset, .unset] [(.int ((p1 &&& (2147483647 : Int32)) % (29 : Int32))), (.ref b1)])) rfl rfl (hb hby at_188))
  show own_Goes p.tables e below P (T145.setTop (mkF m 189 #[.val (.int p0), .val (.int p1), .val (.int p2), .val (.ref b1), .unset, .unset, .unset] [(.int dd)]))
  refine own_Goes.st ?_ (fun _ k => XS.istore X145.here hx rfl (hb hby at_189) rfl (l' := #[.val (.int p0), .val (.int p1), .val (.int p2), .val (.ref b1), .val (.int dd), .unset, .unset]) rfl k)
  show own_Goes p.tables e below P (T145.setTop (mkF m 191 #[.val (.int p0), .val (.int p1), .val (.int p2), .val (.ref b1), .val (.int dd), .unset, .unset] []))
  refine own_Goes.st ?_ (fun _ k => XS.iload X145.here hx rfl (hb hby at_191) rfl k)
  show own_Goes p.tables e below P (T145.setTop (mkF m 193 #[.val (.int p0), .val (.int p1), .val (.int p2), .val (.ref b1), .val (.int dd), .unset, .unset] [(.int dd)]))
  refine own_Goes.st ?_ (fun _ k => XS.iloadN X145.here hx rfl (hb hby at_193) rfl k)
  show own_Goes p.tables e below P (T145.setTop (mkF m 194 #[.val (.int p0), .val (.int p1), .val (.int p2), .val (.ref b1), .val (.int dd), .unset, .unset] [(.int p2), (.int dd)]))
  refine own_Goes.st ?_ (fun _ k => XS.iconst X145.here hx rfl (hb hby at_194) k)
  show own_Goes p.tables e below P (T145.setTop (mkF m 195 #[.val (.int p0), .val (.int p1), .val (.int p2), .val (.ref b1), .val (.int dd), .unset, .unset] [(.int (3 : Int32)), (.int p2), (.int dd)]))
  refine own_Goes.st ?_ (fun _ k => iremM X145 hx rfl (hb hby at_195) rfl (by decide) k)
  show own_Goes p.tables e below P (T145.setTop (mkF m 196 #[.val (.int p0), .val (.int p1), .val (.int p2), .val (.ref b1), .val (.int dd), .unset, .unset] [(.int (p2 % (3 : Int32))), (.int dd)]))
  refine own_Goes.st ?_ (fun _ k => XS.iadd X145.here hx rfl (hb hby at_196) rfl k)
  show own_Goes p.tables e below P (T145.setTop (mkF m 197 #[.val (.int p0), .val (.int p1), .val (.int p2), .val (.ref b1), .val (.int dd), .unset, .unset] [(.int (dd + (p2 % (3 : Int32))))]))
  refine own_Goes.st ?_ (fun _ k => XS.istore X145.here hx rfl (hb hby at_197) rfl (l' := #[.val (.int p0), .val (.int p1), .val (.int p2), .val (.ref b1), .val (.int dd), .val (.int (dd + (p2 % (3 : Int32)))), .unset]) rfl k)
  show own_Goes p.tables e below P (T145.setTop (mkF m 199 #[.val (.int p0), .val (.int p1), .val (.int p2), .val (.ref b1), .val (.int dd), .val (.int (dd + (p2 % (3 : Int32)))), .unset] []))
  refine own_Goes.st ?_ (fun _ k => XS.iloadN X145.here hx rfl (hb hby at_199) rfl k)
  show own_Goes p.tables e below P (T145.setTop (mkF m 200 #[.val (.int p0), .val (.int p1), .val (.int p2), .val (.ref b1), .val (.int dd), .val (.int (dd + (p2 % (3 : Int32)))), .unset] [(.int p0)]))
  obtain ⟨_, _, ⟨T150, L150, k150, n150⟩, -, X150, ⟨Lc150, hQ150, l150, y150, z150⟩, st150⟩ := Jvm.LawKit.callS X145 hx (y := (⟨"com/example/larder/larder/TextSyntax", "isWhitespace", "(I)Z"⟩ : MethodName)) hown (mvT hZ (hw _ (List.mem_of_getElem? (i := 3) rfl))) (mvT hZ (hw _ (List.mem_of_getElem? (i := 4) rfl))) (mvT hZ (hw _ (List.mem_of_getElem? (i := 5) rfl))) (mvT hZ (hw _ (List.mem_of_getElem? (i := 6) rfl))) (by decide) (backOf (W := 0) (rm_ws l Z a0 hw [] p0 h145 n0 Z147) hZ (hw _ (List.mem_of_getElem? (i := 6) rfl)) (hw _ (List.mem_of_getElem? (i := 5) rfl)) (by decide) (by decide)) (g := (mkF m 200 #[.val (.int p0), .val (.int p1), .val (.int p2), .val (.ref b1), .val (.int dd), .val (.int (dd + (p2 % (3 : Int32)))), .unset] [(.int p0)])) rfl (by rw [hml]; rfl) (argsL := [(.int p0)]) (rest := []) (lenOf own_pd__28_I_29_Z rfl) rfl (by show 2 * 0 + _ ≤ _; exact Nat.le_of_eq rfl) (hb hby at_200) (fun _ _ => ⟨rfl, e145, (by decide : 1 + 0 ≤ _), (by decide : 29 + 0 ≤ _)⟩)
  dsimp only [Pt.U, Pt.locs, Pt.cells, Pt.slots] at X150 l150 y150 z150 st150 hQ150
  rw [l150, y150, z150] at X150
  obtain ⟨rfl, Nq150, e150⟩ := hQ150
  have N150 := Fr.app N148 Nq150
  refine own_Goes.st ?_ st150
  show own_Goes p.tables e below P (T150.setTop (mkF m 203 #[.val (.int p0), .val (.int p1), .val (.int p2), .val (.ref b1), .val (.int dd), .val (.int (dd + (p2 % (3 : Int32)))), .unset] [(.int (own_ws p0))]))
  refine own_Goes.st ?_ (fun _ k => XS.iloadN X150.here hx rfl (hb hby at_203) rfl k)
  show own_Goes p.tables e below P (T150.setTop (mkF m 204 #[.val (.int p0), .val (.int p1), .val (.int p2), .val (.ref b1), .val (.int dd), .val (.int (dd + (p2 % (3 : Int32)))), .unset] [(.int p0), (.int (own_ws p0))]))
  obtain ⟨_, _, ⟨T151, L151, k151, n151⟩, -, X151, ⟨Lc151, hQ151, l151, y151, z151⟩, st151⟩ := Jvm.LawKit.callS X150 hx (y := (⟨"com/example/larder/larder/TextSyntaxIsWhitespacePinLaw", "reference", "(I)Z"⟩ : MethodName)) hown (mvT hZ (hw _ (List.mem_of_getElem? (i := 7) rfl))) (mvT hZ (hw _ (List.mem_of_getElem? (i := 8) rfl))) (mvT hZ (hw _ (List.mem_of_getElem? (i := 9) rfl))) (mvT hZ (hw _ (List.mem_of_getElem? (i := 10) rfl))) (by decide) (backOf (W := 1) (rm_ref l Z a0 hw [] p0 h145 n0 Z147) hZ (hw _ (List.mem_of_getElem? (i := 10) rfl)) (hw _ (List.mem_of_getElem? (i := 9) rfl)) (by decide) (by decide)) (g := (mkF m 204 #[.val (.int p0), .val (.int p1), .val (.int p2), .val (.ref b1), .val (.int dd), .val (.int (dd + (p2 % (3 : Int32)))), .unset] [(.int p0), (.int (own_ws p0))])) rfl (by rw [hml]; rfl) (argsL := [(.int p0)]) (rest := [(.int (own_ws p0))]) (lenOf own_pd__28_I_29_Z rfl) rfl (by show 2 * 0 + _ ≤ _; exact Nat.le_of_eq rfl) (hb hby at_204) (fun _ _ => ⟨rfl, e150, (by decide : 1 + 0 ≤ _), (by decide : 29 + 0 ≤ _)⟩)
  dsimp only [Pt.U, Pt.locs, Pt.cells, Pt.slots] at X151 l151 y151 z151 st151 hQ151
  rw [l151, y151, z151] at X151
  obtain ⟨rfl, Nq151, e151⟩ := hQ151
  have N151 := Fr.app N150 Nq151
  refine own_Goes.st ?_ st151
  show own_Goes p.tables e below P (T151.setTop (mkF m 207 #[.val (.int p0), .val (.int p1), .val (.int p2), .val (.ref b1), .val (.int dd), .val (.int (dd + (p2 % (3 : Int32)))), .unset] [(.int (own_ref p0)), (.int (own_ws p0))]))
  refine own_Goes.st ?_ (fun _ k => XS.icmpNo X151.here hx rfl (hb hby at_207) rfl (teq (own_same _)).2 k)
  show own_Goes p.tables e below P (T151.setTop (mkF m 210 #[.val (.int p0), .val (.int p1), .val (.int p2), .val (.ref b1), .val (.int dd), .val (.int (dd + (p2 % (3 : Int32)))), .unset] []))
  refine own_Goes.st ?_ (fun _ k => XS.iconst X151.here hx rfl (hb hby at_210) k)
  show own_Goes p.tables e below P (T151.setTop (mkF m 211 #[.val (.int p0), .val (.int p1), .val (.int p2), .val (.ref b1), .val (.int dd), .val (.int (dd + (p2 % (3 : Int32)))), .unset] [(.int (1 : Int32))]))
  refine own_Goes.st ?_ (fun _ k => XS.goto X151.here hx rfl (pc0 := 211) (pc' := 215) rfl (hb hby at_211) (by decide) (by decide) k)
  show own_Goes p.tables e below P (T151.setTop (mkF m 215 #[.val (.int p0), .val (.int p1), .val (.int p2), .val (.ref b1), .val (.int dd), .val (.int (dd + (p2 % (3 : Int32)))), .unset] [(.int (1 : Int32))]))
  refine own_Goes.st ?_ (fun _ k => XS.istore X151.here hx rfl (hb hby at_215) rfl (l' := #[.val (.int p0), .val (.int p1), .val (.int p2), .val (.ref b1), .val (.int dd), .val (.int (dd + (p2 % (3 : Int32)))), .val (.int (1 : Int32))]) rfl k)
  show own_Goes p.tables e below P (T151.setTop (mkF m 217 #[.val (.int p0), .val (.int p1), .val (.int p2), .val (.ref b1), .val (.int dd), .val (.int (dd + (p2 % (3 : Int32)))), .val (.int (1 : Int32))] []))
  refine own_Goes.st ?_ (fun _ k => XS.iload X151.here hx rfl (hb hby at_217) rfl k)
  show own_Goes p.tables e below P (T151.setTop (mkF m 219 #[.val (.int p0), .val (.int p1), .val (.int p2), .val (.ref b1), .val (.int dd), .val (.int (dd + (p2 % (3 : Int32)))), .val (.int (1 : Int32))] [(.int (1 : Int32))]))
  refine own_Goes.st ?_ (fun _ k => XS.ifNo X151.here hx rfl (hb hby at_219) rfl ((if0 _ _).trans (feq (by decide : ¬ ((1 : Int32) = (0 : Int32)))).1) k)
  show own_Goes p.tables e below P (T151.setTop (mkF m 222 #[.val (.int p0), .val (.int p1), .val (.int p2), .val (.ref b1), .val (.int dd), .val (.int (dd + (p2 % (3 : Int32)))), .val (.int (1 : Int32))] []))
  refine own_Goes.st ?_ (fun _ k => XS.iload X151.here hx rfl (hb hby at_222) rfl k)
  show own_Goes p.tables e below P (T151.setTop (mkF m 224 #[.val (.int p0), .val (.int p1), .val (.int p2), .val (.ref b1), .val (.int dd), .val (.int (dd + (p2 % (3 : Int32)))), .val (.int (1 : Int32))] [(.int dd)]))
  obtain ⟨_, _, ⟨T152, L152, k152, n152⟩, -, X152, ⟨Lc152, hQ152, l152, y152, z152⟩, st152⟩ := Jvm.LawKit.callS X151 hx (y := (⟨"com/example/larder/larder/TextSyntax", "isWhitespace", "(I)Z"⟩ : MethodName)) hown (mvT hZ (hw _ (List.mem_of_getElem? (i := 3) rfl))) (mvT hZ (hw _ (List.mem_of_getElem? (i := 4) rfl))) (mvT hZ (hw _ (List.mem_of_getElem? (i := 5) rfl))) (mvT hZ (hw _ (List.mem_of_getElem? (i := 6) rfl))) (by decide) (backOf (W := 0) (rm_ws l Z a0 hw [] dd h145 n0 Z147) hZ (hw _ (List.mem_of_getElem? (i := 6) rfl)) (hw _ (List.mem_of_getElem? (i := 5) rfl)) (by decide) (by decide)) (g := (mkF m 224 #[.val (.int p0), .val (.int p1), .val (.int p2), .val (.ref b1), .val (.int dd), .val (.int (dd + (p2 % (3 : Int32)))), .val (.int (1 : Int32))] [(.int dd)])) rfl (by rw [hml]; rfl) (argsL := [(.int dd)]) (rest := []) (lenOf own_pd__28_I_29_Z rfl) rfl (by show 2 * 0 + _ ≤ _; exact Nat.le_of_eq rfl) (hb hby at_224) (fun _ _ => ⟨rfl, e151, (by decide : 1 + 0 ≤ _), (by decide : 29 + 0 ≤ _)⟩)
  dsimp only [Pt.U, Pt.locs, Pt.cells, Pt.slots] at X152 l152 y152 z152 st152 hQ152
  rw [l152, y152, z152] at X152
  obtain ⟨rfl, Nq152, e152⟩ := hQ152
  have N152 := Fr.app N151 Nq152
  refine own_Goes.st ?_ st152
  show own_Goes p.tables e below P (T152.setTop (mkF m 227 #[.val (.int p0), .val (.int p1), .val (.int p2), .val (.ref b1), .val (.int dd), .val (.int (dd + (p2 % (3 : Int32)))), .val (.int (1 : Int32))] [(.int (own_ws dd))]))
  refine own_Goes.st ?_ (fun _ k => XS.iload X152.here hx rfl (hb hby at_227) rfl k)
  show own_Goes p.tables e below P (T152.setTop (mkF m 229 #[.val (.int p0), .val (.int p1), .val (.int p2), .val (.ref b1), .val (.int dd), .val (.int (dd + (p2 % (3 : Int32)))), .val (.int (1 : Int32))] [(.int dd), (.int (own_ws dd))]))
  obtain ⟨_, _, ⟨T153, L153, k153, n153⟩, -, X153, ⟨Lc153, hQ153, l153, y153, z153⟩, st153⟩ := Jvm.LawKit.callS X152 hx (y := (⟨"com/example/larder/larder/TextSyntaxIsWhitespacePinLaw", "reference", "(I)Z"⟩ : MethodName)) hown (mvT hZ (hw _ (List.mem_of_getElem? (i := 7) rfl))) (mvT hZ (hw _ (List.mem_of_getElem? (i := 8) rfl))) (mvT hZ (hw _ (List.mem_of_getElem? (i := 9) rfl))) (mvT hZ (hw _ (List.mem_of_getElem? (i := 10) rfl))) (by decide) (backOf (W := 1) (rm_ref l Z a0 hw [] dd h145 n0 Z147) hZ (hw _ (List.mem_of_getElem? (i := 10) rfl)) (hw _ (List.mem_of_getElem? (i := 9) rfl)) (by decide) (by decide)) (g := (mkF m 229 #[.val (.int p0), .val (.int p1), .val (.int p2), .val (.ref b1), .val (.int dd), .val (.int (dd + (p2 % (3 : Int32)))), .val (.int (1 : Int32))] [(.int dd), (.int (own_ws dd))])) rfl (by rw [hml]; rfl) (argsL := [(.int dd)]) (rest := [(.int (own_ws dd))]) (lenOf own_pd__28_I_29_Z rfl) rfl (by show 2 * 0 + _ ≤ _; exact Nat.le_of_eq rfl) (hb hby at_229) (fun _ _ => ⟨rfl, e152, (by decide : 1 + 0 ≤ _), (by decide : 29 + 0 ≤ _)⟩)
  dsimp only [Pt.U, Pt.locs, Pt.cells, Pt.slots] at X153 l153 y153 z153 st153 hQ153
  rw [l153, y153, z153] at X153
  obtain ⟨rfl, Nq153, e153⟩ := hQ153
  have N153 := Fr.app N152 Nq153
  refine own_Goes.st ?_ st153
  show own_Goes p.tables e below P (T153.setTop (mkF m 232 #[.val (.int p0), .val (.int p1), .val (.int p2), .val (.ref b1), .val (.int dd), .val (.int (dd + (p2 % (3 : Int32)))), .val (.int (1 : Int32))] [(.int (own_ref dd)), (.int (own_ws dd))]))
  refine own_Goes.st ?_ (fun _ k => XS.icmpNo X153.here hx rfl (hb hby at_232) rfl (teq (own_same _)).2 k)
  show own_Goes p.tables e below P (T153.setTop (mkF m 235 #[.val (.int p0), .val (.int p1), .val (.int p2), .val (.ref b1), .val (.int dd), .val (.int (dd + (p2 % (3 : Int32)))), .val (.int (1 : Int32))] []))
  refine own_Goes.st ?_ (fun _ k => XS.iconst X153.here hx rfl (hb hby at_235) k)
  show own_Goes p.tables e below P (T153.setTop (mkF m 236 #[.val (.int p0), .val (.int p1), .val (.int p2), .val (.ref b1), .val (.int dd), .val (.int (dd + (p2 % (3 : Int32)))), .val (.int (1 : Int32))] [(.int (1 : Int32))]))
  refine own_Goes.st ?_ (fun _ k => XS.goto X153.here hx rfl (pc0 := 236) (pc' := 240) rfl (hb hby at_236) (by decide) (by decide) k)
  show own_Goes p.tables e below P (T153.setTop (mkF m 240 #[.val (.int p0), .val (.int p1), .val (.int p2), .val (.ref b1), .val (.int dd), .val (.int (dd + (p2 % (3 : Int32)))), .val (.int (1 : Int32))] [(.int (1 : Int32))]))
  refine own_Goes.st ?_ (fun _ k => XS.istore X153.here hx rfl (hb hby at_240) rfl (l' := #[.val (.int p0), .val (.int p1), .val (.int p2), .val (.ref b1), .val (.int dd), .val (.int (dd + (p2 % (3 : Int32)))), .val (.int (1 : Int32))]) rfl k)
  show own_Goes p.tables e below P (T153.setTop (mkF m 242 #[.val (.int p0), .val (.int p1), .val (.int p2), .val (.ref b1), .val (.int dd), .val (.int (dd + (p2 % (3 : Int32)))), .val (.int (1 : Int32))] []))
  refine own_Goes.st ?_ (fun _ k => XS.iload X153.here hx rfl (hb hby at_242) rfl k)
  show own_Goes p.tables e below P (T153.setTop (mkF m 244 #[.val (.int p0), .val (.int p1), .val (.int p2), .val (.ref b1), .val (.int dd), .val (.int (dd + (p2 % (3 : Int32)))), .val (.int (1 : Int32))] [(.int (1 : Int32))]))
  refine own_Goes.st ?_ (fun _ k => XS.ifNo X153.here hx rfl (hb hby at_244) rfl ((if0 _ _).trans (feq (by decide : ¬ ((1 : Int32) = (0 : Int32)))).1) k)
  show own_Goes p.tables e below P (T153.setTop (mkF m 247 #[.val (.int p0), .val (.int p1), .val (.int p2), .val (.ref b1), .val (.int dd), .val (.int (dd + (p2 % (3 : Int32)))), .val (.int (1 : Int32))] []))
  refine own_Goes.st ?_ (fun _ k => XS.iload X153.here hx rfl (hb hby at_247) rfl k)
  show own_Goes p.tables e below P (T153.setTop (mkF m 249 #[.val (.int p0), .val (.int p1), .val (.int p2), .val (.ref b1), .val (.int dd), .val (.int (dd + (p2 % (3 : Int32)))), .val (.int (1 : Int32))] [(.int (dd + (p2 % (3 : Int32))))]))
  obtain ⟨_, _, ⟨T154, L154, k154, n154⟩, -, X154, ⟨Lc154, hQ154, l154, y154, z154⟩, st154⟩ := Jvm.LawKit.callS X153 hx (y := (⟨"com/example/larder/larder/TextSyntax", "isWhitespace", "(I)Z"⟩ : MethodName)) hown (mvT hZ (hw _ (List.mem_of_getElem? (i := 3) rfl))) (mvT hZ (hw _ (List.mem_of_getElem? (i := 4) rfl))) (mvT hZ (hw _ (List.mem_of_getElem? (i := 5) rfl))) (mvT hZ (hw _ (List.mem_of_getElem? (i := 6) rfl))) (by decide) (backOf (W := 0) (rm_ws l Z a0 hw [] (dd + (p2 % (3 : Int32))) h145 n0 Z147) hZ (hw _ (List.mem_of_getElem? (i := 6) rfl)) (hw _ (List.mem_of_getElem? (i := 5) rfl)) (by decide) (by decide)) (g := (mkF m 249 #[.val (.int p0), .val (.int p1), .val (.int p2), .val (.ref b1), .val (.int dd), .val (.int (dd + (p2 % (3 : Int32)))), .val (.int (1 : Int32))] [(.int (dd + (p2 % (3 : Int32))))])) rfl (by rw [hml]; rfl) (argsL := [(.int (dd + (p2 % (3 : Int32))))]) (rest := []) (lenOf own_pd__28_I_29_Z rfl) rfl (by show 2 * 0 + _ ≤ _; exact Nat.le_of_eq rfl) (hb hby at_249) (fun _ _ => ⟨rfl, e153, (by decide : 1 + 0 ≤ _), (by decide : 29 + 0 ≤ _)⟩)
  dsimp only [Pt.U, Pt.locs, Pt.cells, Pt.slots] at X154 l154 y154 z154 st154 hQ154
  rw [l154, y154, z154] at X154
  obtain ⟨rfl, Nq154, e154⟩ := hQ154
  have N154 := Fr.app N153 Nq154
  refine own_Goes.st ?_ st154
  show own_Goes p.tables e below P (T154.setTop (mkF m 252 #[.val (.int p0), .val (.int p1), .val (.int p2), .val (.ref b1), .val (.int dd), .val (.int (dd + (p2 % (3 : Int32)))), .val (.int (1 : Int32))] [(.int (own_ws (dd + (p2 % (3 : Int32)))))]))
  refine own_Goes.st ?_ (fun _ k => XS.iload X154.here hx rfl (hb hby at_252) rfl k)
  show own_Goes p.tables e below P (T154.setTop (mkF m 254 #[.val (.int p0), .val (.int p1), .val (.int p2), .val (.ref b1), .val (.int dd), .val (.int (dd + (p2 % (3 : Int32)))), .val (.int (1 : Int32))] [(.int (dd + (p2 % (3 : Int32)))), (.int (own_ws (dd + (p2 % (3 : Int32)))))]))
  obtain ⟨_, _, ⟨T155, L155, k155, n155⟩, -, X155, ⟨Lc155, hQ155, l155, y155, z155⟩, st155⟩ := Jvm.LawKit.callS X154 hx (y := (⟨"com/example/larder/larder/TextSyntaxIsWhitespacePinLaw", "reference", "(I)Z"⟩ : MethodName)) hown (mvT hZ (hw _ (List.mem_of_getElem? (i := 7) rfl))) (mvT hZ (hw _ (List.mem_of_getElem? (i := 8) rfl))) (mvT hZ (hw _ (List.mem_of_getElem? (i := 9) rfl))) (mvT hZ (hw _ (List.mem_of_getElem? (i := 10) rfl))) (by decide) (backOf (W := 1) (rm_ref l Z a0 hw [] (dd + (p2 % (3 : Int32))) h145 n0 Z147) hZ (hw _ (List.mem_of_getElem? (i := 10) rfl)) (hw _ (List.mem_of_getElem? (i := 9) rfl)) (by decide) (by decide)) (g := (mkF m 254 #[.val (.int p0), .val (.int p1), .val (.int p2), .val (.ref b1), .val (.int dd), .val (.int (dd + (p2 % (3 : Int32)))), .val (.int (1 : Int32))] [(.int (dd + (p2 % (3 : Int32)))), (.int (own_ws (dd + (p2 % (3 : Int32)))))])) rfl (by rw [hml]; rfl) (argsL := [(.int (dd + (p2 % (3 : Int32))))]) (rest := [(.int (own_ws (dd + (p2 % (3 : Int32)))))]) (lenOf own_pd__28_I_29_Z rfl) rfl (by show 2 * 0 + _ ≤ _; exact Nat.le_of_eq rfl) (hb hby at_254) (fun _ _ => ⟨rfl, e154, (by decide : 1 + 0 ≤ _), (by decide : 29 + 0 ≤ _)⟩)
  dsimp only [Pt.U, Pt.locs, Pt.cells, Pt.slots] at X155 l155 y155 z155 st155 hQ155
  rw [l155, y155, z155] at X155
  obtain ⟨rfl, Nq155, e155⟩ := hQ155
  have N155 := Fr.app N154 Nq155
  refine own_Goes.st ?_ st155
  show own_Goes p.tables e below P (T155.setTop (mkF m 257 #[.val (.int p0), .val (.int p1), .val (.int p2), .val (.ref b1), .val (.int dd), .val (.int (dd + (p2 % (3 : Int32)))), .val (.int (1 : Int32))] [(.int (own_ref (dd + (p2 % (3 : Int32))))), (.int (own_ws (dd + (p2 % (3 : Int32)))))]))
  refine own_Goes.st ?_ (fun _ k => XS.icmpNo X155.here hx rfl (hb hby at_257) rfl (teq (own_same _)).2 k)
  show own_Goes p.tables e below P (T155.setTop (mkF m 260 #[.val (.int p0), .val (.int p1), .val (.int p2), .val (.ref b1), .val (.int dd), .val (.int (dd + (p2 % (3 : Int32)))), .val (.int (1 : Int32))] []))
  refine own_Goes.st ?_ (fun _ k => XS.iconst X155.here hx rfl (hb hby at_260) k)
  show own_Goes p.tables e below P (T155.setTop (mkF m 261 #[.val (.int p0), .val (.int p1), .val (.int p2), .val (.ref b1), .val (.int dd), .val (.int (dd + (p2 % (3 : Int32)))), .val (.int (1 : Int32))] [(.int (1 : Int32))]))
  refine own_Goes.st ?_ (fun _ k => XS.goto X155.here hx rfl (pc0 := 261) (pc' := 265) rfl (hb hby at_261) (by decide) (by decide) k)
  show own_Goes p.tables e below P (T155.setTop (mkF m 265 #[.val (.int p0), .val (.int p1), .val (.int p2), .val (.ref b1), .val (.int dd), .val (.int (dd + (p2 % (3 : Int32)))), .val (.int (1 : Int32))] [(.int (1 : Int32))]))
  refine own_Goes.st ?_ (fun _ k => XS.istore X155.here hx rfl (hb hby at_265) rfl (l' := #[.val (.int p0), .val (.int p1), .val (.int p2), .val (.ref b1), .val (.int dd), .val (.int (dd + (p2 % (3 : Int32)))), .val (.int (1 : Int32))]) rfl k)
  show own_Goes p.tables e below P (T155.setTop (mkF m 267 #[.val (.int p0), .val (.int p1), .val (.int p2), .val (.ref b1), .val (.int dd), .val (.int (dd + (p2 % (3 : Int32)))), .val (.int (1 : Int32))] []))
  refine own_Goes.st ?_ (fun _ k => XS.iload X155.here hx rfl (hb hby at_267) rfl k)
  show own_Goes p.tables e below P (T155.setTop (mkF m 269 #[.val (.int p0), .val (.int p1), .val (.int p2), .val (.ref b1), .val (.int dd), .val (.int (dd + (p2 % (3 : Int32)))), .val (.int (1 : Int32))] [(.int (1 : Int32))]))
  obtain ⟨fs, hr, hrun, hended, hW, hsame⟩ := X155.leave (v := some (.int (1 : Int32))) (fun h => by rw [Bd.returns] at h; cases h)
  exact own_Goes.fin _ _ (retOut X155 hx (t := .boolean) Bd.returns rfl (Or.inl ⟨rfl, Or.inr (Or.inl rfl), _, rfl⟩) (hb hby at_269) hr) (hPP _ _ ⟨hrun, hended, _, _, rfl, (by show Q_law n0 _ _; exact ⟨rfl, N155⟩), ⟨_, rfl⟩, hW, hsame.mono (by decide) (by decide)⟩)
set_option maxRecDepth 65536 in
set_option maxHeartbeats 40000000 in
theorem comes_1 {Post : Tables → Env → Array Value → State → Outcome → State → Prop} (hpost : ∀ tb e args s v u, (limb_1_1.after args s (.returned v) u = true ∧ limb_1_2.after args s (.returned v) u = true ∧ True) → FrameEnd s (.returned v) u (Jvm.fieldLocs frame_1_writes args s ++ Jvm.arrayLocs frame_1_arrays args s ++ Jvm.staticLocs frame_1_statics s) 16 128 → Post tb e args s (.returned v) u) :
    ArmFor flags0 classFile x code maxLocals ret World_1 tables_1 room_1 Calls_1 rest_1 Pre_1 Post := by
  intro l hfl _ _ p e ha hc hk s m args below hf hA hF happ hP
  obtain ⟨hcalls, hrest, hpre⟩ := hP
  obtain ⟨-, -, -, hnamed, -, -, -, hat⟩ := (Spec.applies_iff hf).mp happ
  obtain ⟨hg, hn⟩ := and_e (Cond.before_iff.mp (show (Jvm.Cond.and given_1 narrow_1).before args s = true from hpre))
  obtain ⟨hg0, hg1⟩ := and_e hg
  obtain ⟨hv0, hr0⟩ := and_e hg1
  obtain ⟨hv1, hr1⟩ := and_e hr0
  obtain ⟨w0, w1, w2, rfl⟩ : ∃ w0 w1 w2 : Value, args = #[w0, w1, w2] := by
    have hs : args.size = 3 := by simpa [Cond.value, given_1] using hg0
    obtain ⟨L⟩ := args
    match L, hs with
    | [w0, w1, w2], _ => exact ⟨w0, w1, w2, rfl⟩
  have hw := fun d (hd : d ∈ tables_1) => atoms_spec (ws := Jvm.Cond.code x code maxLocals ret :: tables_1) hat d (List.mem_cons_of_mem _ hd)
  have hfit : Fit s := fun {y c} hc i hi => by
    obtain ⟨ha, rfl⟩ := Array.getElem?_eq_some_iff.mp hc
    have q := List.all_eq_true.mp ((Array.all_eq_true_iff_forall_mem.mp hF) _ (Array.getElem_mem ha)) i (List.mem_range.mpr hi)
    simpa [Array.getElem?_eq_getElem hi] using q
  obtain ⟨i0, ei0⟩ := is_v hv0
  obtain rfl : w0 = (.int i0) := Option.some.inj ei0
  obtain ⟨i1, ei1⟩ := is_v hv1
  obtain rfl : w1 = (.int i1) := Option.some.inj ei1
  obtain ⟨i2, ei2⟩ := is_v hr1
  obtain rfl : w2 = (.int i2) := Option.some.inj ei2
  obtain ⟨n, o, h1, h2, h3, _, L, rfl, ⟨rfl, N⟩, hq⟩ := rm_law l s _ hw tables_1 i0 i1 i2  s.heap s.heap.size (Nat.le_refl _)  p e ha hc hk s m _ below hf ((Spec.applies_iff_loose hf).mp happ).1 ⟨rfl, State.Warmed39.refl s, rfl⟩ trivial
  refine ⟨n, _, h1, h2, h3, hpost _ _ _ _ _ _ ⟨Cond.after_iff.mpr rfl, Cond.after_iff.mpr (eq_i res_at (Term.int_eval (1)) rfl), trivial⟩ ⟨hq.1, hq.2.1, (hq.2.2.sift fun y hy => Or.inr (N y hy)).mono (by decide) (by decide)⟩⟩
theorem main_1_1 : Claimed_1_1 := comes_1 fun _ _ _ _ _ _ h hF => ⟨h.1, hF⟩
theorem main_1_2 : Claimed_1_2 := comes_1 fun _ _ _ _ _ _ h hF => ⟨h.2.1, hF⟩
end Jvm.Pilot.@@N@@
namespace Jvm.Pilot.@@N@@
open Jvm Jvm.ClassFile Sem Op Lib Jvm.Free Jvm.Stand Jvm.Pilot.@@N@@.Jvm.D
/-! MADE BY PROGRAM (witnessworld.py) out of the Statement's table words and the real class files: 9 classes; the members and pool entries that the words name. The judged class is class 1, her method 2. -/
namespace start1
open Jvm.ClassFile
def u (s : String) : CpInfo := .utf8 (stringToUtf16 s)
/-- a pool by its gaps: so many unusable entries, then the entry; so many at the end -/
def gap : Nat → List CpInfo → List CpInfo
  | 0, r => r
  | n + 1, r => .unusable :: gap n r
def poolList (es : List (Nat × CpInfo)) (last : Nat) : List CpInfo := es.foldr (fun e r => gap e.1 (e.2 :: r)) (gap last [])
def pool (es : List (Nat × CpInfo)) (last : Nat) : Array CpInfo := ⟨poolList es last⟩
def fileOf (pool : Array CpInfo) (this : Nat) (attrs : Array Attribute := #[]) (ms : Array MethodInfo := #[]) (fl : Nat := 33) (sup : Nat := 0) (ifs : Array Nat := #[]) (fds : Array FieldInfo := #[]) : ClassFile where
  minorVersion := 0
  majorVersion := 65
  constantPool := pool
  accessFlags := fl
  thisClass := this
  superClass := sup
  interfaces := ifs
  fields := fds
  methods := ms
  attributes := attrs
def plain (name : String) (sup : Option ClassId) : Class where
  name := name
  kind := .ordinary
  loader := none
  accessFlags := 33
  super := sup
  interfaces := #[]
  cf := none
  fields := #[]
  methods := #[]
  instanceTypes := #[]
  staticTypes := #[]
  resolved := #[]
  callSites := []
  init := .initialized
  statics := none
  mirror := none

def pool0 : Array CpInfo := pool [(5, u "<init>"), (0, u "()V"), (1, .class_ 10), (1, u "java/lang/Object")] 113

def k0m0 : Method := { name := "<init>", desc := "()V", sig := { parameters := [], returnType := none }, accessFlags := 1, code := none }
/-- java/lang/Object -/
def k0 : Class := { plain "java/lang/Object" none with
  accessFlags := 33
  interfaces := #[]
  cf := some (fileOf pool0 8 #[] #[{ accessFlags := 1, nameIndex := 5, descriptorIndex := 6, attributes := #[] }] 33 0 #[] #[])
  fields := #[]
  methods := #[k0m0]
  instanceTypes := #[]
  staticTypes := #[]
  resolved := Array.replicate 124 none
  statics := none }

def pool1 : Array CpInfo := pool [(2, .class_ 4), (1, u "java/lang/Object"), (0, u "<init>"), (0, u "()V"), (2, .integer 2147483648), (0, .integer 2147483647), (0, .methodref 12 13), (0, .class_ 14), (0, .nameAndType 15 16), (0, u "com/example/larder/larder/TextSyntax"), (0, u "isWhitespace"), (0, u "(I)Z"), (0, .methodref 18 19), (0, .class_ 20), (0, .nameAndType 21 16), (0, u "com/example/larder/larder/TextSyntaxIsWhitespacePinLaw"), (0, u "reference"), (3, u "law"), (0, u "(III)Z")] 4

def k1m0 : Method := { name := "<init>", desc := "()V", sig := { parameters := [], returnType := none }, accessFlags := 2, code := none }
def k1c1 : Code := { maxStack := 2, maxLocals := 1, code := method_2_code, exceptionTable := #[], attributes := #[] }
def k1m1 : Method := { name := "reference", desc := "(I)Z", sig := { parameters := [.int], returnType := some .boolean }, accessFlags := 10, code := some k1c1 }
def k1c2 : Code := { maxStack := 4, maxLocals := 7, code := code, exceptionTable := #[], attributes := #[] }
def k1m2 : Method := { name := "law", desc := "(III)Z", sig := { parameters := [.int, .int, .int], returnType := some .boolean }, accessFlags := 9, code := some k1c2 }
/-- com/example/larder/larder/TextSyntaxIsWhitespacePinLaw -/
def k1 : Class := { plain "com/example/larder/larder/TextSyntaxIsWhitespacePinLaw" (some 0) with
  accessFlags := 49
  interfaces := #[]
  cf := some (fileOf pool1 18 #[] #[{ accessFlags := 2, nameIndex := 5, descriptorIndex := 6, attributes := #[] }, { accessFlags := 10, nameIndex := 21, descriptorIndex := 16, attributes := #[] }, { accessFlags := 9, nameIndex := 25, descriptorIndex := 26, attributes := #[] }] 49 2 #[] #[])
  fields := #[]
  methods := #[k1m0, k1m1, k1m2]
  instanceTypes := #[]
  staticTypes := #[]
  resolved := Array.replicate 31 none
  statics := none }

def pool2 : Array CpInfo := pool [(4, .class_ 6), (1, u "java/lang/Object"), (0, u "<init>"), (0, u "()V"), (0, .class_ 10), (0, u "com/example/larder/larder/TextSyntax"), (26, u "(I)Z"), (66, u "ASCII_SYMBOL_PUNCTUATION"), (0, u "Ljava/lang/String;"), (1, u "DIGITS_AT_ONCE"), (0, u "I"), (1, u "SYMBOL_CATEGORIES"), (2, u "isWhitespace")] 12

def k2m0 : Method := { name := "<init>", desc := "()V", sig := { parameters := [], returnType := none }, accessFlags := 2, code := none }
def k2c1 : Code := { maxStack := 2, maxLocals := 1, code := prog_36_method_2_code, exceptionTable := #[], attributes := #[] }
def k2m1 : Method := { name := "isWhitespace", desc := "(I)Z", sig := { parameters := [.int], returnType := some .boolean }, accessFlags := 8, code := some k2c1 }
/-- com/example/larder/larder/TextSyntax -/
def k2 : Class := { plain "com/example/larder/larder/TextSyntax" (some 0) with
  accessFlags := 48
  interfaces := #[]
  cf := some (fileOf pool2 9 #[] #[{ accessFlags := 2, nameIndex := 7, descriptorIndex := 8, attributes := #[] }, { accessFlags := 8, nameIndex := 113, descriptorIndex := 37, attributes := #[] }] 48 4 #[] #[{ accessFlags := 26, nameIndex := 104, descriptorIndex := 105, attributes := #[] }, { accessFlags := 26, nameIndex := 107, descriptorIndex := 108, attributes := #[] }, { accessFlags := 26, nameIndex := 110, descriptorIndex := 108, attributes := #[] }])
  fields := #[{ name := "ASCII_SYMBOL_PUNCTUATION", type := (.object "java/lang/String"), accessFlags := 26, slot := 0, constantValue := 0 }, { name := "DIGITS_AT_ONCE", type := .int, accessFlags := 26, slot := 1, constantValue := 0 }, { name := "SYMBOL_CATEGORIES", type := .int, accessFlags := 26, slot := 2, constantValue := 0 }]
  methods := #[k2m0, k2m1]
  instanceTypes := #[]
  staticTypes := #[(.object "java/lang/String"), .int, .int]
  resolved := Array.replicate 126 none
  statics := none }

def pool3 : Array CpInfo := pool [(1, u "java/lang/Cloneable"), (0, .class_ 1), (0, u "java/lang/Object"), (0, .class_ 3)] 3

/-- java/lang/Cloneable -/
def k3 : Class := { plain "java/lang/Cloneable" (some 0) with
  accessFlags := 1537
  interfaces := #[]
  cf := some (fileOf pool3 2 #[] #[] 1537 4 #[] #[])
  fields := #[]
  methods := #[]
  instanceTypes := #[]
  staticTypes := #[]
  resolved := Array.replicate 8 none
  statics := none }

def pool4 : Array CpInfo := pool [(1, u "java/io/Serializable"), (0, .class_ 1), (0, u "java/lang/Object"), (0, .class_ 3)] 3

/-- java/io/Serializable -/
def k4 : Class := { plain "java/io/Serializable" (some 0) with
  accessFlags := 1537
  interfaces := #[]
  cf := some (fileOf pool4 2 #[] #[] 1537 4 #[] #[])
  fields := #[]
  methods := #[]
  instanceTypes := #[]
  staticTypes := #[]
  resolved := Array.replicate 8 none
  statics := none }

/-- the primitive byte -/
def k5 : Class := { plain "byte" none with kind := .primitive 'B', accessFlags := 0x411 }
/-- [B -/
def k6 : Class := { plain "[B" (some 0) with kind := .array 5 .byte, interfaces := #[3, 4], accessFlags := 1041 }

/-- the primitive int -/
def k7 : Class := { plain "int" none with kind := .primitive 'I', accessFlags := 0x411 }
/-- [I -/
def k8 : Class := { plain "[I" (some 0) with kind := .array 7 .int, interfaces := #[3, 4], accessFlags := 1041 }

def heap : Heap := #[]
def classes : Array Class := #[k0, k1, k2, k3, k4, k5, k6, k7, k8]
def interned : List (Array UInt16 × Addr) := []
def slotsUsed : Nat := 0
def theMethod : MethodId := ⟨1, 2⟩
def args0 : Array Value := #[.int 3, .int 1, .int 2]
def aboutOver (below : List Frame) : State where
  vm := { classes := classes, interned := interned.toArray }
  heap := heap
  slotsUsed := slotsUsed
  threads := #[{ frames := .invoking theMethod args0 :: below }]
def below0 : List Frame := [.native { method := ⟨0, 0⟩, args := #[] }]
def about1 : State := aboutOver below0
def p0 : Program := .bare "" "" ""
def e0 : Env := launch0.env 0 0 0
theorem w_frames : about1.frames = Frame.invoking theMethod args0 :: below0 := rfl
set_option maxRecDepth 65536 in
theorem w_args : argsFit about1.vm theMethod args0 = true := by decide +kernel
set_option maxRecDepth 65536 in
theorem w_heap : heapFits about1 = true := by decide +kernel
set_option maxRecDepth 65536 in
theorem w_runnable : about1.curStatus? = some .runnable := by decide +kernel
set_option maxRecDepth 65536 in
theorem w_alone : about1.alone = true := by decide +kernel
set_option maxRecDepth 65536 in
theorem w_named : about1.methodNamed? x = some theMethod := by decide +kernel
set_option maxRecDepth 65536 in
theorem w_hears : about1.hears theMethod below0 = true := by decide +kernel
set_option maxRecDepth 65536 in
theorem w_ripe : about1.ripe theMethod args0 below0 = true := by decide +kernel
theorem w_running : about1.status = .running := rfl
set_option maxRecDepth 65536 in
theorem w_room : about1.hasRoom e0.platform room_1 = true :=
  launch0.hasRoom_least _ room_1 (by decide +kernel) (by decide +kernel) (by decide +kernel) (by decide +kernel) (by decide +kernel) (by decide +kernel)
theorem allAtoms_all (ts : List Jvm.Cond) (a : Array Jvm.Value) (st : Jvm.State) : (allAtoms ts).before a st = ts.all (fun c => c.before a st) := by
  induction ts with
  | nil => rfl
  | cons c t ih =>
    show (Jvm.Cond.and c (allAtoms t)).before a st = _
    rw [Jvm.Cond.before_and, ih, List.all_cons]
def words1 : List Jvm.Cond := Jvm.Cond.code x code maxLocals ret :: tables_1
/-- a 'code' word, met by the world's own term for the bytes: nothing is compared byte by byte -/
theorem code_word {y : MethodName} {bytes : ByteArray} {mx : Nat} {rt : Option FieldType} {a : Array Value} {s : State} {m : MethodId} {meth : Method} {c : Code} (h1 : s.methodNamed? y = some m) (h2 : s.vm.method? m = some meth) (h3 : meth.code = some c) (h4 : c.code = bytes)
    (h5 : (c.maxLocals == mx && c.exceptionTable.isEmpty && decide (c.maxStack ≤ mostOperands) && decide (meth.sig.returnType = rt) && !meth.locks && decide (parseMethodDescriptor y.desc = some meth.sig)) = true) : (Jvm.Cond.code y bytes mx rt).before a s = true := by
  simp only [Bool.and_eq_true, beq_iff_eq, Bool.not_eq_true', decide_eq_true_eq] at h5
  obtain ⟨⟨⟨⟨⟨g1, g2⟩, g3⟩, g4⟩, g5⟩, g6⟩ := h5
  simp [Cond.before, Cond.holds, Cond.value, h1, h2, h3, h4, g1, g2, g3, g4, g5, g6]
def isCode : Jvm.Cond → Bool
  | .code _ _ _ _ => true
  | _ => false
theorem all_split {L : List Jvm.Cond} {P : Jvm.Cond → Bool} (h1 : L.all (fun c => isCode c || P c) = true) (h2 : ∀ c ∈ L.filter isCode, P c = true) : L.all P = true := by
  refine List.all_eq_true.mpr fun c hc => ?_
  have h := List.all_eq_true.mp h1 c hc
  rcases Bool.eq_false_or_eq_true (isCode c) with hi | hi
  · exact h2 c (List.mem_filter.mpr ⟨hc, hi⟩)
  · simpa [hi] using h
set_option maxRecDepth 65536 in
theorem w_c0 : (Jvm.Cond.code x code maxLocals ret).before args0 about1 = true := code_word (m := ⟨1, 2⟩) (meth := k1m2) (c := k1c2) (by decide +kernel) rfl rfl rfl (by decide +kernel)
set_option maxRecDepth 65536 in
theorem w_c1 : (Jvm.Cond.code ({ cls := "com/example/larder/larder/TextSyntax", name := "isWhitespace", desc := "(I)Z" } : Jvm.MethodName) prog_36_method_2_code (1 : Nat) (Option.some Jvm.ClassFile.FieldType.boolean)).before args0 about1 = true := code_word (m := ⟨2, 1⟩) (meth := k2m1) (c := k2c1) (by decide +kernel) rfl rfl rfl (by decide +kernel)
set_option maxRecDepth 65536 in
theorem w_c2 : (Jvm.Cond.code ({ cls := "com/example/larder/larder/TextSyntaxIsWhitespacePinLaw", name := "reference", desc := "(I)Z" } : Jvm.MethodName) method_2_code (1 : Nat) (Option.some Jvm.ClassFile.FieldType.boolean)).before args0 about1 = true := code_word (m := ⟨1, 1⟩) (meth := k1m1) (c := k1c1) (by decide +kernel) rfl rfl rfl (by decide +kernel)
def codes1 : List Jvm.Cond := [Jvm.Cond.code x code maxLocals ret, Jvm.Cond.code ({ cls := "com/example/larder/larder/TextSyntax", name := "isWhitespace", desc := "(I)Z" } : Jvm.MethodName) prog_36_method_2_code (1 : Nat) (Option.some Jvm.ClassFile.FieldType.boolean), Jvm.Cond.code ({ cls := "com/example/larder/larder/TextSyntaxIsWhitespacePinLaw", name := "reference", desc := "(I)Z" } : Jvm.MethodName) method_2_code (1 : Nat) (Option.some Jvm.ClassFile.FieldType.boolean)]
set_option maxRecDepth 65536 in
theorem codes_eq : words1.filter isCode = codes1 := rfl
theorem w_codes : ∀ c ∈ words1.filter isCode, c.before args0 about1 = true := by
  rw [codes_eq]
  intro c hc
  simp only [codes1, List.mem_cons, List.not_mem_nil, or_false] at hc
  rcases hc with rfl | rfl | rfl
  · exact w_c0
  · exact w_c1
  · exact w_c2
set_option maxRecDepth 65536 in
theorem w_t1 : words1.all (fun c => isCode c || c.before args0 about1) = true := by decide +kernel
theorem w_tables : (allAtoms (Jvm.Cond.code x code maxLocals ret :: tables_1)).before args0 about1 = true := by
  rw [allAtoms_all]
  show words1.all (fun c => c.before args0 about1) = true
  refine all_split ?_ w_codes
  rw [w_t1]
set_option maxRecDepth 65536 in
theorem w_case : (Jvm.Cond.and given_1 narrow_1).before args0 about1 = true := by decide +kernel
theorem w_applies : (headSpec (Jvm.Cond.code x code maxLocals ret :: tables_1) room_1).applies x e0.platform about1 = true :=
  (Spec.applies_iff w_frames).mpr ⟨w_running, w_runnable, w_alone, w_named, w_hears, w_ripe, w_room, w_tables⟩
theorem atStart : AtStart classFile x code maxLocals ret World_1 tables_1 room_1 Calls_1 rest_1 Pre_1 launch0 p0 e0 about1 theMethod args0 below0 :=
  ⟨lists_1, trivial, launch0.admits_env _ _ _, launch0.least_env, fairChoices_fair.cas, fairChoices_fair.clock, w_frames, w_args, w_heap, w_applies, trivial, trivial, w_case⟩
end start1
theorem witness_1 : WitnessClaimed_1 := ⟨start1.p0, start1.e0, start1.about1, start1.theMethod, start1.args0, start1.below0, start1.atStart⟩
end Jvm.Pilot.@@N@@
