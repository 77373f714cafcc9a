import JvmDerived
import JvmDerived.Pilot.@@N@@Statement
import JvmDerived.Pilot.@@N@@Code
set_option linter.unusedVariables false
set_option linter.unusedSimpArgs false
namespace Jvm.RoadKit
open Sem ClassFile Op Lib Jvm.Stand Jvm.Free Jvm.LawKit
/-- the walk that stands at S comes to an end of which P holds -/
def own_Goes (tb : Tables) (e : Env) (below : List Frame) (P : State → Outcome → Prop) (S : State) : Prop := ∃ t o, Steps tb e below S t ∧ P t o
theorem own_Goes.of {tb : Tables} {e : Env} {below : List Frame} {P : State → Outcome → Prop} {S : State} (k : own_Goes tb e below P S) : ∃ t o, Steps tb e below S t ∧ P t o := k
theorem own_Goes.nm {tb : Tables} {e : Env} {below : List Frame} {P : State → Outcome → Prop} {S : State} (k : ∀ P' : State → Outcome → Prop, (∀ t o, P t o → P' t o) → own_Goes tb e below P' S) : own_Goes tb e below P S := k P fun _ _ q => q
theorem own_Goes.st {tb : Tables} {e : Env} {below : List Frame} {P : State → Outcome → Prop} {S S' : State} (k : own_Goes tb e below P S') (h : ∀ t, Steps tb e below S' t → Steps tb e below S t) : own_Goes tb e below P S := by
  obtain ⟨t, o, h1, h2⟩ := k; exact ⟨t, o, h t h1, h2⟩
theorem own_Goes.tr {tb : Tables} {e : Env} {below : List Frame} {P : State → Outcome → Prop} {S S' : State} (h : Steps tb e below S S') (k : own_Goes tb e below P S') : own_Goes tb e below P S := by
  obtain ⟨t, o, h1, h2⟩ := k; exact ⟨t, o, h.trans h1, h2⟩
theorem own_Goes.fin {tb : Tables} {e : Env} {below : List Frame} {P : State → Outcome → Prop} {S : State} (t : State) (o : Outcome) (h : Steps tb e below S t) (k : P t o) : own_Goes tb e below P S := ⟨t, o, h, k⟩
end Jvm.RoadKit
namespace Jvm.Pilot.@@N@@
open Jvm Jvm.ClassFile Sem Op Lib Jvm.Free Jvm.Stand Jvm.LawKit Jvm.RoadKit Bundle Jvm.Pilot.@@N@@.Jvm.D
def own_seq3 (x : Int32) : Int32 := if x < 194 then 1 else if 223 < x then 1 else 2
def own_seq2 (x : Int32) : Int32 := if x < 224 then own_seq3 x else if 239 < x then own_seq3 x else 3
def own_seq (x : Int32) : Int32 := if x < 240 then own_seq2 x else if 244 < x then own_seq2 x else 4
def own_exq (x : Int32) : Int32 := if x &&& 254 = 192 then 1 else 2
def own_exp (x : Int32) : Int32 := if x >>> (4 &&& 31) = 15 then (if 4 < x &&& 15 then 1 else 4) else if x >>> (4 &&& 31) = 14 then 3 else if x >>> (4 &&& 31) = 12 then own_exq x else if x >>> (4 &&& 31) = 13 then own_exq x else 1
theorem own_all : ∀ n : Fin 256, own_seq (Int32.ofNat n.val) = own_exp (Int32.ofNat n.val) := by decide +kernel
theorem own_mask (x : Int32) : ∃ n : Fin 256, x &&& 255 = Int32.ofNat n.val := by
  have h := c_mask x 255 8 (by decide) (by decide)
  have h0 : 0 ≤ (x &&& 255).toInt ∧ (x &&& 255).toInt < 256 := by rw [h]; omega
  refine ⟨⟨(x &&& 255).toInt.toNat, by omega⟩, ?_⟩
  apply Int32.toInt_inj.mp
  rw [Int32.toInt_ofNat_of_lt (by omega)]
  show (x &&& 255).toInt = ((x &&& 255).toInt.toNat : Int)
  omega
theorem own_law (x : Int32) : own_seq (x &&& 255) = own_exp (x &&& 255) := by
  obtain ⟨n, hn⟩ := own_mask x
  rw [hn]; exact own_all n
theorem own_ef_seq (m : MethodId) (x0 : Int32) : entryFrame m #[(.int x0)] 1 = mkF m 0 #[.val (.int x0)] [] := by first | (simp [entryFrame, mkF, argsToLocals, Value.category]; done) | rfl
theorem own_pn_com_example_larder_larder_Utf8 : plainName "com/example/larder/larder/Utf8" = true := by first | (simp [plainName, overriddenIn]; done) | decide +kernel
theorem own_d_prog_40_method_2_50 : decode prog_40_method_2_code 50 = .ok (.iconst 1, 1) := by decide +kernel
theorem own_d_prog_40_method_2_51 : decode prog_40_method_2_code 51 = .ok (.ireturn, 1) := by decide +kernel
theorem own_d_prog_40_method_2_32 : decode prog_40_method_2_code 32 = .ok (.iload_n 0, 1) := by decide +kernel
theorem own_d_prog_40_method_2_33 : decode prog_40_method_2_code 33 = .ok (.sipush 194, 3) := by decide +kernel
theorem own_d_prog_40_method_2_36 : decode prog_40_method_2_code 36 = .ok (.if_icmp .lt 14, 3) := by decide +kernel
theorem own_d_prog_40_method_2_39 : decode prog_40_method_2_code 39 = .ok (.iload_n 0, 1) := by decide +kernel
theorem own_d_prog_40_method_2_40 : decode prog_40_method_2_code 40 = .ok (.sipush 223, 3) := by decide +kernel
theorem own_d_prog_40_method_2_43 : decode prog_40_method_2_code 43 = .ok (.if_icmp .gt 7, 3) := by decide +kernel
theorem own_d_prog_40_method_2_46 : decode prog_40_method_2_code 46 = .ok (.iconst 2, 1) := by decide +kernel
theorem own_d_prog_40_method_2_47 : decode prog_40_method_2_code 47 = .ok (.goto 4, 3) := by decide +kernel
theorem own_d_prog_40_method_2_16 : decode prog_40_method_2_code 16 = .ok (.iload_n 0, 1) := by decide +kernel
theorem own_d_prog_40_method_2_17 : decode prog_40_method_2_code 17 = .ok (.sipush 224, 3) := by decide +kernel
theorem own_d_prog_40_method_2_20 : decode prog_40_method_2_code 20 = .ok (.if_icmp .lt 12, 3) := by decide +kernel
theorem own_d_prog_40_method_2_23 : decode prog_40_method_2_code 23 = .ok (.iload_n 0, 1) := by decide +kernel
theorem own_d_prog_40_method_2_24 : decode prog_40_method_2_code 24 = .ok (.sipush 239, 3) := by decide +kernel
theorem own_d_prog_40_method_2_27 : decode prog_40_method_2_code 27 = .ok (.if_icmp .gt 5, 3) := by decide +kernel
theorem own_d_prog_40_method_2_30 : decode prog_40_method_2_code 30 = .ok (.iconst 3, 1) := by decide +kernel
theorem own_d_prog_40_method_2_31 : decode prog_40_method_2_code 31 = .ok (.ireturn, 1) := by decide +kernel
theorem own_d_prog_40_method_2_0 : decode prog_40_method_2_code 0 = .ok (.iload_n 0, 1) := by decide +kernel
theorem own_d_prog_40_method_2_1 : decode prog_40_method_2_code 1 = .ok (.sipush 240, 3) := by decide +kernel
theorem own_d_prog_40_method_2_4 : decode prog_40_method_2_code 4 = .ok (.if_icmp .lt 12, 3) := by decide +kernel
theorem own_d_prog_40_method_2_7 : decode prog_40_method_2_code 7 = .ok (.iload_n 0, 1) := by decide +kernel
theorem own_d_prog_40_method_2_8 : decode prog_40_method_2_code 8 = .ok (.sipush 244, 3) := by decide +kernel
theorem own_d_prog_40_method_2_11 : decode prog_40_method_2_code 11 = .ok (.if_icmp .gt 5, 3) := by decide +kernel
theorem own_d_prog_40_method_2_14 : decode prog_40_method_2_code 14 = .ok (.iconst 4, 1) := by decide +kernel
theorem own_d_prog_40_method_2_15 : decode prog_40_method_2_code 15 = .ok (.ireturn, 1) := by decide +kernel
def Q_seq (Z : State) (x : Int32) (h0 : Heap) (n0 : Nat) (v : Option Value) (h : Heap) (L : List Loc) : Prop := v = some (.int (own_seq x)) ∧ Fr n0 L ∧ h = h0
set_option maxRecDepth 65536 in
set_option maxHeartbeats 40000000 in
theorem rm_seq (l : Launch) (Z : State) (a0 : Array Value) (hw : ∀ d ∈ tables_1, d.before a0 Z = true) (ws : List Jvm.Cond) (x : Int32) (h0 : Heap) (n0 : Nat) (Z0 : n0 ≤ h0.size) :
    MetFree l (⟨"com/example/larder/larder/Utf8", "sequenceLength", "(I)I"⟩ : MethodName) (head1 (Jvm.Cond.code (⟨"com/example/larder/larder/Utf8", "sequenceLength", "(I)I"⟩ : MethodName) prog_40_method_2_code 1 (some .int) :: ws) ({ frames := 0, cells := 0, slots := 0, locals := 0 } : Room)) (fun a U => a = #[(.int x)] ∧ Z.Warmed39 U.vm ∧ U.heap = h0) (fun _ _ _ _ _ => True) (fun _ U o U' => ∃ v L, o = .returned v ∧ Q_seq Z x h0 n0 v U'.heap L ∧ FrameEnd U o U' L ({ frames := 0, cells := 0, slots := 0, locals := 0 } : Room).cells ({ frames := 0, cells := 0, slots := 0, locals := 0 } : Room).slots) := by
  refine MetFree.of_bodySF (plainFor_of_name own_pn_com_example_larder_larder_Utf8) hisR ?_
  intro p e s m args below meth c s₁ Bd hml0 hP hK
  obtain ⟨rfl, hZ, hh⟩ := hP
  have hx := Bd.exec
  have hby := Bd.bytes
  have hml : c.maxLocals = 1 := hml0
  have hown : s.vm.findClass "com/example/larder/larder/Utf8" = some m.cls := findClass_of_methodNamed Bd.named
  have hnm := (name_of_methodNamed Bd.named Bd.method).1
  have X0 : Stand p l e ({ frames := 0, cells := 0, slots := 0, locals := 0 } : Room) s m #[(.int x)] below meth c s₁ [] 0 0 := Stand.of_body Bd
  have e0 : s₁.heap = h0 := by rw [← hh, Bd.state]; rfl
  have N0 := Fr.nil n0
  refine own_Goes.of ?_
  refine own_Goes.nm (fun P hPP => ?_)
  refine own_Goes.st ?_ (fun _ k => castTop (own_ef_seq m x) k)
  show own_Goes p.tables e below P (s₁.setTop (mkF m 0 #[.val (.int x)] []))
  have J50 : ∀ (_ : own_seq x = 1), own_Goes p.tables e below P (s₁.setTop (mkF m 50 #[.val (.int x)] [])) := by
    intro hj
    refine own_Goes.st ?_ (fun _ k => XS.iconst X0.here hx rfl (hb hby own_d_prog_40_method_2_50) k)
    show own_Goes p.tables e below P (s₁.setTop (mkF m 51 #[.val (.int x)] [(.int (1 : Int32))]))
    obtain ⟨fs, hr, hrun, hended, hW, hsame⟩ := X0.leave (v := some (.int (1 : Int32))) (fun h => by rw [Bd.returns] at h; cases h)
    exact own_Goes.fin _ _ (retOut X0 hx (t := .int) Bd.returns rfl (Or.inl ⟨rfl, Or.inl rfl, _, rfl⟩) (hb hby own_d_prog_40_method_2_51) hr) (hPP _ _ ⟨hrun, hended, _, _, rfl, (by show Q_seq Z x h0 n0 _ s₁.heap _; rw [e0]; exact ⟨(by rw [hj]), N0, rfl⟩), ⟨_, rfl⟩, hW, hsame.mono (by decide) (by decide)⟩)
  have J32 : ∀ (_ : own_seq x = own_seq3 x), own_Goes p.tables e below P (s₁.setTop (mkF m 32 #[.val (.int x)] [])) := by
    intro hj
    refine own_Goes.st ?_ (fun _ k => XS.iloadN X0.here hx rfl (hb hby own_d_prog_40_method_2_32) rfl k)
    show own_Goes p.tables e below P (s₁.setTop (mkF m 33 #[.val (.int x)] [(.int x)]))
    refine own_Goes.st ?_ (fun _ k => XS.sipush X0.here hx rfl (hb hby own_d_prog_40_method_2_33) k)
    show own_Goes p.tables e below P (s₁.setTop (mkF m 36 #[.val (.int x)] [(.int (194 : Int32)), (.int x)]))
    by_cases h1 : x < (194 : Int32)
    · skip
      refine own_Goes.st ?_ (fun _ k => XS.icmpYes X0.here hx rfl (pc0 := 36) (pc' := 50) rfl (hb hby own_d_prog_40_method_2_36) rfl (tlt h1).1 (by decide) (by decide) k)
      show own_Goes p.tables e below P (s₁.setTop (mkF m 50 #[.val (.int x)] []))
      exact (J50 (by rw [hj, own_seq3, if_pos h1]))
    · skip
      refine own_Goes.st ?_ (fun _ k => XS.icmpNo X0.here hx rfl (hb hby own_d_prog_40_method_2_36) rfl (flt h1).1 k)
      show own_Goes p.tables e below P (s₁.setTop (mkF m 39 #[.val (.int x)] []))
      refine own_Goes.st ?_ (fun _ k => XS.iloadN X0.here hx rfl (hb hby own_d_prog_40_method_2_39) rfl k)
      show own_Goes p.tables e below P (s₁.setTop (mkF m 40 #[.val (.int x)] [(.int x)]))
      refine own_Goes.st ?_ (fun _ k => XS.sipush X0.here hx rfl (hb hby own_d_prog_40_method_2_40) k)
      show own_Goes p.tables e below P (s₁.setTop (mkF m 43 #[.val (.int x)] [(.int (223 : Int32)), (.int x)]))
      by_cases h2 : (223 : Int32) < x
      · skip
        refine own_Goes.st ?_ (fun _ k => XS.icmpYes X0.here hx rfl (pc0 := 43) (pc' := 50) rfl (hb hby own_d_prog_40_method_2_43) rfl (tlt h2).2.2.1 (by decide) (by decide) k)
        show own_Goes p.tables e below P (s₁.setTop (mkF m 50 #[.val (.int x)] []))
        exact (J50 (by rw [hj, own_seq3, if_neg h1, if_pos h2]))
      · skip
        refine own_Goes.st ?_ (fun _ k => XS.icmpNo X0.here hx rfl (hb hby own_d_prog_40_method_2_43) rfl (flt h2).2.2.1 k)
        show own_Goes p.tables e below P (s₁.setTop (mkF m 46 #[.val (.int x)] []))
        refine own_Goes.st ?_ (fun _ k => XS.iconst X0.here hx rfl (hb hby own_d_prog_40_method_2_46) k)
        show own_Goes p.tables e below P (s₁.setTop (mkF m 47 #[.val (.int x)] [(.int (2 : Int32))]))
        refine own_Goes.st ?_ (fun _ k => XS.goto X0.here hx rfl (pc0 := 47) (pc' := 51) rfl (hb hby own_d_prog_40_method_2_47) (by decide) (by decide) k)
        show own_Goes p.tables e below P (s₁.setTop (mkF m 51 #[.val (.int x)] [(.int (2 : Int32))]))
        obtain ⟨fs, hr, hrun, hended, hW, hsame⟩ := X0.leave (v := some (.int (2 : Int32))) (fun h => by rw [Bd.returns] at h; cases h)
        exact own_Goes.fin _ _ (retOut X0 hx (t := .int) Bd.returns rfl (Or.inl ⟨rfl, Or.inl rfl, _, rfl⟩) (hb hby own_d_prog_40_method_2_51) hr) (hPP _ _ ⟨hrun, hended, _, _, rfl, (by show Q_seq Z x h0 n0 _ s₁.heap _; rw [e0]; exact ⟨(by rw [hj, own_seq3, if_neg h1, if_neg h2]), N0, rfl⟩), ⟨_, rfl⟩, hW, hsame.mono (by decide) (by decide)⟩)
  have J16 : ∀ (_ : own_seq x = own_seq2 x), own_Goes p.tables e below P (s₁.setTop (mkF m 16 #[.val (.int x)] [])) := by
    intro hj
    refine own_Goes.st ?_ (fun _ k => XS.iloadN X0.here hx rfl (hb hby own_d_prog_40_method_2_16) rfl k)
    show own_Goes p.tables e below P (s₁.setTop (mkF m 17 #[.val (.int x)] [(.int x)]))
    refine own_Goes.st ?_ (fun _ k => XS.sipush X0.here hx rfl (hb hby own_d_prog_40_method_2_17) k)
    show own_Goes p.tables e below P (s₁.setTop (mkF m 20 #[.val (.int x)] [(.int (224 : Int32)), (.int x)]))
    by_cases h1 : x < (224 : Int32)
    · skip
      refine own_Goes.st ?_ (fun _ k => XS.icmpYes X0.here hx rfl (pc0 := 20) (pc' := 32) rfl (hb hby own_d_prog_40_method_2_20) rfl (tlt h1).1 (by decide) (by decide) k)
      show own_Goes p.tables e below P (s₁.setTop (mkF m 32 #[.val (.int x)] []))
      exact (J32 (by rw [hj, own_seq2, if_pos h1]))
    · skip
      refine own_Goes.st ?_ (fun _ k => XS.icmpNo X0.here hx rfl (hb hby own_d_prog_40_method_2_20) rfl (flt h1).1 k)
      show own_Goes p.tables e below P (s₁.setTop (mkF m 23 #[.val (.int x)] []))
      refine own_Goes.st ?_ (fun _ k => XS.iloadN X0.here hx rfl (hb hby own_d_prog_40_method_2_23) rfl k)
      show own_Goes p.tables e below P (s₁.setTop (mkF m 24 #[.val (.int x)] [(.int x)]))
      refine own_Goes.st ?_ (fun _ k => XS.sipush X0.here hx rfl (hb hby own_d_prog_40_method_2_24) k)
      show own_Goes p.tables e below P (s₁.setTop (mkF m 27 #[.val (.int x)] [(.int (239 : Int32)), (.int x)]))
      by_cases h2 : (239 : Int32) < x
      · skip
        refine own_Goes.st ?_ (fun _ k => XS.icmpYes X0.here hx rfl (pc0 := 27) (pc' := 32) rfl (hb hby own_d_prog_40_method_2_27) rfl (tlt h2).2.2.1 (by decide) (by decide) k)
        show own_Goes p.tables e below P (s₁.setTop (mkF m 32 #[.val (.int x)] []))
        exact (J32 (by rw [hj, own_seq2, if_neg h1, if_pos h2]))
      · skip
        refine own_Goes.st ?_ (fun _ k => XS.icmpNo X0.here hx rfl (hb hby own_d_prog_40_method_2_27) rfl (flt h2).2.2.1 k)
        show own_Goes p.tables e below P (s₁.setTop (mkF m 30 #[.val (.int x)] []))
        refine own_Goes.st ?_ (fun _ k => XS.iconst X0.here hx rfl (hb hby own_d_prog_40_method_2_30) k)
        show own_Goes p.tables e below P (s₁.setTop (mkF m 31 #[.val (.int x)] [(.int (3 : Int32))]))
        obtain ⟨fs, hr, hrun, hended, hW, hsame⟩ := X0.leave (v := some (.int (3 : Int32))) (fun h => by rw [Bd.returns] at h; cases h)
        exact own_Goes.fin _ _ (retOut X0 hx (t := .int) Bd.returns rfl (Or.inl ⟨rfl, Or.inl rfl, _, rfl⟩) (hb hby own_d_prog_40_method_2_31) hr) (hPP _ _ ⟨hrun, hended, _, _, rfl, (by show Q_seq Z x h0 n0 _ s₁.heap _; rw [e0]; exact ⟨(by rw [hj, own_seq2, if_neg h1, if_neg h2]), N0, rfl⟩), ⟨_, rfl⟩, hW, hsame.mono (by decide) (by decide)⟩)
  refine own_Goes.st ?_ (fun _ k => XS.iloadN X0.here hx rfl (hb hby own_d_prog_40_method_2_0) rfl k)
  show own_Goes p.tables e below P (s₁.setTop (mkF m 1 #[.val (.int x)] [(.int x)]))
  refine own_Goes.st ?_ (fun _ k => XS.sipush X0.here hx rfl (hb hby own_d_prog_40_method_2_1) k)
  show own_Goes p.tables e below P (s₁.setTop (mkF m 4 #[.val (.int x)] [(.int (240 : Int32)), (.int x)]))
  by_cases h1 : x < (240 : Int32)
  · skip
    refine own_Goes.st ?_ (fun _ k => XS.icmpYes X0.here hx rfl (pc0 := 4) (pc' := 16) rfl (hb hby own_d_prog_40_method_2_4) rfl (tlt h1).1 (by decide) (by decide) k)
    show own_Goes p.tables e below P (s₁.setTop (mkF m 16 #[.val (.int x)] []))
    exact (J16 (by rw [own_seq, if_pos h1]))
  · skip
    refine own_Goes.st ?_ (fun _ k => XS.icmpNo X0.here hx rfl (hb hby own_d_prog_40_method_2_4) rfl (flt h1).1 k)
    show own_Goes p.tables e below P (s₁.setTop (mkF m 7 #[.val (.int x)] []))
    refine own_Goes.st ?_ (fun _ k => XS.iloadN X0.here hx rfl (hb hby own_d_prog_40_method_2_7) rfl k)
    show own_Goes p.tables e below P (s₁.setTop (mkF m 8 #[.val (.int x)] [(.int x)]))
    refine own_Goes.st ?_ (fun _ k => XS.sipush X0.here hx rfl (hb hby own_d_prog_40_method_2_8) k)
    show own_Goes p.tables e below P (s₁.setTop (mkF m 11 #[.val (.int x)] [(.int (244 : Int32)), (.int x)]))
    by_cases h2 : (244 : Int32) < x
    · skip
      refine own_Goes.st ?_ (fun _ k => XS.icmpYes X0.here hx rfl (pc0 := 11) (pc' := 16) rfl (hb hby own_d_prog_40_method_2_11) rfl (tlt h2).2.2.1 (by decide) (by decide) k)
      show own_Goes p.tables e below P (s₁.setTop (mkF m 16 #[.val (.int x)] []))
      exact (J16 (by rw [own_seq, if_neg h1, if_pos h2]))
    · skip
      refine own_Goes.st ?_ (fun _ k => XS.icmpNo X0.here hx rfl (hb hby own_d_prog_40_method_2_11) rfl (flt h2).2.2.1 k)
      show own_Goes p.tables e below P (s₁.setTop (mkF m 14 #[.val (.int x)] []))
      refine own_Goes.st ?_ (fun _ k => XS.iconst X0.here hx rfl (hb hby own_d_prog_40_method_2_14) k)
      show own_Goes p.tables e below P (s₁.setTop (mkF m 15 #[.val (.int x)] [(.int (4 : Int32))]))
      obtain ⟨fs, hr, hrun, hended, hW, hsame⟩ := X0.leave (v := some (.int (4 : Int32))) (fun h => by rw [Bd.returns] at h; cases h)
      exact own_Goes.fin _ _ (retOut X0 hx (t := .int) Bd.returns rfl (Or.inl ⟨rfl, Or.inl rfl, _, rfl⟩) (hb hby own_d_prog_40_method_2_15) hr) (hPP _ _ ⟨hrun, hended, _, _, rfl, (by show Q_seq Z x h0 n0 _ s₁.heap _; rw [e0]; exact ⟨(by rw [own_seq, if_neg h1, if_neg h2]), N0, rfl⟩), ⟨_, rfl⟩, hW, hsame.mono (by decide) (by decide)⟩)
theorem own_ef_exp (m : MethodId) (x0 : Int32) : entryFrame m #[(.int x0)] 2 = mkF m 0 #[.val (.int x0), .unset] [] := by first | (simp [entryFrame, mkF, argsToLocals, Value.category]; done) | rfl
theorem own_pn_com_example_larder_larder_Utf8SequenceLengthPinLaw : plainName "com/example/larder/larder/Utf8SequenceLengthPinLaw" = true := by first | (simp [plainName, overriddenIn]; done) | decide +kernel
theorem own_d_method_2_0 : decode method_2_code 0 = .ok (.iload_n 0, 1) := by decide +kernel
theorem own_d_method_2_1 : decode method_2_code 1 = .ok (.iconst 4, 1) := by decide +kernel
theorem own_d_method_2_2 : decode method_2_code 2 = .ok (.ishr, 1) := by decide +kernel
theorem own_d_method_2_3 : decode method_2_code 3 = .ok (.istore_n 1, 1) := by decide +kernel
theorem own_d_method_2_44 : decode method_2_code 44 = .ok (.iload_n 0, 1) := by decide +kernel
theorem own_d_method_2_45 : decode method_2_code 45 = .ok (.sipush 254, 3) := by decide +kernel
theorem own_d_method_2_48 : decode method_2_code 48 = .ok (.iand, 1) := by decide +kernel
theorem own_d_method_2_49 : decode method_2_code 49 = .ok (.sipush 192, 3) := by decide +kernel
theorem own_d_method_2_52 : decode method_2_code 52 = .ok (.if_icmp .ne 7, 3) := by decide +kernel
theorem own_d_method_2_55 : decode method_2_code 55 = .ok (.iconst 1, 1) := by decide +kernel
theorem own_d_method_2_56 : decode method_2_code 56 = .ok (.goto 4, 3) := by decide +kernel
theorem own_d_method_2_60 : decode method_2_code 60 = .ok (.ireturn, 1) := by decide +kernel
theorem own_d_method_2_59 : decode method_2_code 59 = .ok (.iconst 2, 1) := by decide +kernel
theorem own_d_method_2_4 : decode method_2_code 4 = .ok (.iload_n 1, 1) := by decide +kernel
theorem own_d_method_2_5 : decode method_2_code 5 = .ok (.bipush 15, 2) := by decide +kernel
theorem own_d_method_2_7 : decode method_2_code 7 = .ok (.if_icmp .ne 17, 3) := by decide +kernel
theorem own_d_method_2_10 : decode method_2_code 10 = .ok (.iload_n 0, 1) := by decide +kernel
theorem own_d_method_2_11 : decode method_2_code 11 = .ok (.bipush 15, 2) := by decide +kernel
theorem own_d_method_2_13 : decode method_2_code 13 = .ok (.iand, 1) := by decide +kernel
theorem own_d_method_2_14 : decode method_2_code 14 = .ok (.iconst 4, 1) := by decide +kernel
theorem own_d_method_2_15 : decode method_2_code 15 = .ok (.if_icmp .gt 7, 3) := by decide +kernel
theorem own_d_method_2_22 : decode method_2_code 22 = .ok (.iconst 1, 1) := by decide +kernel
theorem own_d_method_2_23 : decode method_2_code 23 = .ok (.ireturn, 1) := by decide +kernel
theorem own_d_method_2_18 : decode method_2_code 18 = .ok (.iconst 4, 1) := by decide +kernel
theorem own_d_method_2_19 : decode method_2_code 19 = .ok (.goto 4, 3) := by decide +kernel
theorem own_d_method_2_24 : decode method_2_code 24 = .ok (.iload_n 1, 1) := by decide +kernel
theorem own_d_method_2_25 : decode method_2_code 25 = .ok (.bipush 14, 2) := by decide +kernel
theorem own_d_method_2_27 : decode method_2_code 27 = .ok (.if_icmp .ne 5, 3) := by decide +kernel
theorem own_d_method_2_30 : decode method_2_code 30 = .ok (.iconst 3, 1) := by decide +kernel
theorem own_d_method_2_31 : decode method_2_code 31 = .ok (.ireturn, 1) := by decide +kernel
theorem own_d_method_2_32 : decode method_2_code 32 = .ok (.iload_n 1, 1) := by decide +kernel
theorem own_d_method_2_33 : decode method_2_code 33 = .ok (.bipush 12, 2) := by decide +kernel
theorem own_d_method_2_35 : decode method_2_code 35 = .ok (.if_icmp .eq 9, 3) := by decide +kernel
theorem own_d_method_2_38 : decode method_2_code 38 = .ok (.iload_n 1, 1) := by decide +kernel
theorem own_d_method_2_39 : decode method_2_code 39 = .ok (.bipush 13, 2) := by decide +kernel
theorem own_d_method_2_41 : decode method_2_code 41 = .ok (.if_icmp .ne 20, 3) := by decide +kernel
theorem own_d_method_2_61 : decode method_2_code 61 = .ok (.iconst 1, 1) := by decide +kernel
theorem own_d_method_2_62 : decode method_2_code 62 = .ok (.ireturn, 1) := by decide +kernel
def Q_exp (Z : State) (x : Int32) (h0 : Heap) (n0 : Nat) (v : Option Value) (h : Heap) (L : List Loc) : Prop := v = some (.int (own_exp x)) ∧ Fr n0 L ∧ h = h0
set_option maxRecDepth 65536 in
set_option maxHeartbeats 40000000 in
theorem rm_exp (l : Launch) (Z : State) (a0 : Array Value) (hw : ∀ d ∈ tables_1, d.before a0 Z = true) (ws : List Jvm.Cond) (x : Int32) (h0 : Heap) (n0 : Nat) (Z0 : n0 ≤ h0.size) :
    MetFree l (⟨"com/example/larder/larder/Utf8SequenceLengthPinLaw", "expected", "(I)I"⟩ : MethodName) (head1 (Jvm.Cond.code (⟨"com/example/larder/larder/Utf8SequenceLengthPinLaw", "expected", "(I)I"⟩ : MethodName) method_2_code 2 (some .int) :: ws) ({ frames := 0, cells := 0, slots := 0, locals := 0 } : Room)) (fun a U => a = #[(.int x)] ∧ Z.Warmed39 U.vm ∧ U.heap = h0) (fun _ _ _ _ _ => True) (fun _ U o U' => ∃ v L, o = .returned v ∧ Q_exp Z x h0 n0 v U'.heap L ∧ FrameEnd U o U' L ({ frames := 0, cells := 0, slots := 0, locals := 0 } : Room).cells ({ frames := 0, cells := 0, slots := 0, locals := 0 } : Room).slots) := by
  refine MetFree.of_bodySF (plainFor_of_name own_pn_com_example_larder_larder_Utf8SequenceLengthPinLaw) hisR ?_
  intro p e s m args below meth c s₁ Bd hml0 hP hK
  obtain ⟨rfl, hZ, hh⟩ := hP
  have hx := Bd.exec
  have hby := Bd.bytes
  have hml : c.maxLocals = 2 := hml0
  have hown : s.vm.findClass "com/example/larder/larder/Utf8SequenceLengthPinLaw" = some m.cls := findClass_of_methodNamed Bd.named
  have hnm := (name_of_methodNamed Bd.named Bd.method).1
  have X0 : Stand p l e ({ frames := 0, cells := 0, slots := 0, locals := 0 } : Room) s m #[(.int x)] below meth c s₁ [] 0 0 := Stand.of_body Bd
  have e0 : s₁.heap = h0 := by rw [← hh, Bd.state]; rfl
  have N0 := Fr.nil n0
  refine own_Goes.of ?_
  refine own_Goes.nm (fun P hPP => ?_)
  refine own_Goes.st ?_ (fun _ k => castTop (own_ef_exp m x) k)
  show own_Goes p.tables e below P (s₁.setTop (mkF m 0 #[.val (.int x), .unset] []))
  refine own_Goes.st ?_ (fun _ k => XS.iloadN X0.here hx rfl (hb hby own_d_method_2_0) rfl k)
  show own_Goes p.tables e below P (s₁.setTop (mkF m 1 #[.val (.int x), .unset] [(.int x)]))
  refine own_Goes.st ?_ (fun _ k => XS.iconst X0.here hx rfl (hb hby own_d_method_2_1) k)
  show own_Goes p.tables e below P (s₁.setTop (mkF m 2 #[.val (.int x), .unset] [(.int (4 : Int32)), (.int x)]))
  refine own_Goes.st ?_ (fun _ k => XS.ishr X0.here hx rfl (hb hby own_d_method_2_2) rfl k)
  show own_Goes p.tables e below P (s₁.setTop (mkF m 3 #[.val (.int x), .unset] [(.int (x >>> ((4 : Int32) &&& 31)))]))
  refine own_Goes.st ?_ (fun _ k => XS.istoreN X0.here hx rfl (hb hby own_d_method_2_3) rfl (l' := #[.val (.int x), .val (.int (x >>> ((4 : Int32) &&& 31)))]) rfl k)
  show own_Goes p.tables e below P (s₁.setTop (mkF m 4 #[.val (.int x), .val (.int (x >>> ((4 : Int32) &&& 31)))] []))
  have J44 : ∀ (_ : own_exp x = own_exq x), own_Goes p.tables e below P (s₁.setTop (mkF m 44 #[.val (.int x), .val (.int (x >>> ((4 : Int32) &&& 31)))] [])) := by
    intro hj
    refine own_Goes.st ?_ (fun _ k => XS.iloadN X0.here hx rfl (hb hby own_d_method_2_44) rfl k)
    show own_Goes p.tables e below P (s₁.setTop (mkF m 45 #[.val (.int x), .val (.int (x >>> ((4 : Int32) &&& 31)))] [(.int x)]))
    refine own_Goes.st ?_ (fun _ k => XS.sipush X0.here hx rfl (hb hby own_d_method_2_45) k)
    show own_Goes p.tables e below P (s₁.setTop (mkF m 48 #[.val (.int x), .val (.int (x >>> ((4 : Int32) &&& 31)))] [(.int (254 : Int32)), (.int x)]))
    refine own_Goes.st ?_ (fun _ k => XS.iand X0.here hx rfl (hb hby own_d_method_2_48) rfl k)
    show own_Goes p.tables e below P (s₁.setTop (mkF m 49 #[.val (.int x), .val (.int (x >>> ((4 : Int32) &&& 31)))] [(.int (x &&& (254 : Int32)))]))
    refine own_Goes.st ?_ (fun _ k => XS.sipush X0.here hx rfl (hb hby own_d_method_2_49) k)
    show own_Goes p.tables e below P (s₁.setTop (mkF m 52 #[.val (.int x), .val (.int (x >>> ((4 : Int32) &&& 31)))] [(.int (192 : Int32)), (.int (x &&& (254 : Int32)))]))
    by_cases h1 : (x &&& (254 : Int32)) = (192 : Int32)
    · skip
      refine own_Goes.st ?_ (fun _ k => XS.icmpNo X0.here hx rfl (hb hby own_d_method_2_52) rfl (teq h1).2 k)
      show own_Goes p.tables e below P (s₁.setTop (mkF m 55 #[.val (.int x), .val (.int (x >>> ((4 : Int32) &&& 31)))] []))
      refine own_Goes.st ?_ (fun _ k => XS.iconst X0.here hx rfl (hb hby own_d_method_2_55) k)
      show own_Goes p.tables e below P (s₁.setTop (mkF m 56 #[.val (.int x), .val (.int (x >>> ((4 : Int32) &&& 31)))] [(.int (1 : Int32))]))
      refine own_Goes.st ?_ (fun _ k => XS.goto X0.here hx rfl (pc0 := 56) (pc' := 60) rfl (hb hby own_d_method_2_56) (by decide) (by decide) k)
      show own_Goes p.tables e below P (s₁.setTop (mkF m 60 #[.val (.int x), .val (.int (x >>> ((4 : Int32) &&& 31)))] [(.int (1 : Int32))]))
      obtain ⟨fs, hr, hrun, hended, hW, hsame⟩ := X0.leave (v := some (.int (1 : Int32))) (fun h => by rw [Bd.returns] at h; cases h)
      exact own_Goes.fin _ _ (retOut X0 hx (t := .int) Bd.returns rfl (Or.inl ⟨rfl, Or.inl rfl, _, rfl⟩) (hb hby own_d_method_2_60) hr) (hPP _ _ ⟨hrun, hended, _, _, rfl, (by show Q_exp Z x h0 n0 _ s₁.heap _; rw [e0]; exact ⟨(by rw [hj, own_exq, if_pos h1]), N0, rfl⟩), ⟨_, rfl⟩, hW, hsame.mono (by decide) (by decide)⟩)
    · skip
      refine own_Goes.st ?_ (fun _ k => XS.icmpYes X0.here hx rfl (pc0 := 52) (pc' := 59) rfl (hb hby own_d_method_2_52) rfl (feq h1).2 (by decide) (by decide) k)
      show own_Goes p.tables e below P (s₁.setTop (mkF m 59 #[.val (.int x), .val (.int (x >>> ((4 : Int32) &&& 31)))] []))
      refine own_Goes.st ?_ (fun _ k => XS.iconst X0.here hx rfl (hb hby own_d_method_2_59) k)
      show own_Goes p.tables e below P (s₁.setTop (mkF m 60 #[.val (.int x), .val (.int (x >>> ((4 : Int32) &&& 31)))] [(.int (2 : Int32))]))
      obtain ⟨fs, hr, hrun, hended, hW, hsame⟩ := X0.leave (v := some (.int (2 : Int32))) (fun h => by rw [Bd.returns] at h; cases h)
      exact own_Goes.fin _ _ (retOut X0 hx (t := .int) Bd.returns rfl (Or.inl ⟨rfl, Or.inl rfl, _, rfl⟩) (hb hby own_d_method_2_60) hr) (hPP _ _ ⟨hrun, hended, _, _, rfl, (by show Q_exp Z x h0 n0 _ s₁.heap _; rw [e0]; exact ⟨(by rw [hj, own_exq, if_neg h1]), N0, rfl⟩), ⟨_, rfl⟩, hW, hsame.mono (by decide) (by decide)⟩)
  refine own_Goes.st ?_ (fun _ k => XS.iloadN X0.here hx rfl (hb hby own_d_method_2_4) rfl k)
  show own_Goes p.tables e below P (s₁.setTop (mkF m 5 #[.val (.int x), .val (.int (x >>> ((4 : Int32) &&& 31)))] [(.int (x >>> ((4 : Int32) &&& 31)))]))
  refine own_Goes.st ?_ (fun _ k => XS.bipush X0.here hx rfl (hb hby own_d_method_2_5) k)
  show own_Goes p.tables e below P (s₁.setTop (mkF m 7 #[.val (.int x), .val (.int (x >>> ((4 : Int32) &&& 31)))] [(.int (15 : Int32)), (.int (x >>> ((4 : Int32) &&& 31)))]))
  by_cases h1 : (x >>> ((4 : Int32) &&& 31)) = (15 : Int32)
  · skip
    refine own_Goes.st ?_ (fun _ k => XS.icmpNo X0.here hx rfl (hb hby own_d_method_2_7) rfl (teq h1).2 k)
    show own_Goes p.tables e below P (s₁.setTop (mkF m 10 #[.val (.int x), .val (.int (x >>> ((4 : Int32) &&& 31)))] []))
    refine own_Goes.st ?_ (fun _ k => XS.iloadN X0.here hx rfl (hb hby own_d_method_2_10) rfl k)
    show own_Goes p.tables e below P (s₁.setTop (mkF m 11 #[.val (.int x), .val (.int (x >>> ((4 : Int32) &&& 31)))] [(.int x)]))
    refine own_Goes.st ?_ (fun _ k => XS.bipush X0.here hx rfl (hb hby own_d_method_2_11) k)
    show own_Goes p.tables e below P (s₁.setTop (mkF m 13 #[.val (.int x), .val (.int (x >>> ((4 : Int32) &&& 31)))] [(.int (15 : Int32)), (.int x)]))
    refine own_Goes.st ?_ (fun _ k => XS.iand X0.here hx rfl (hb hby own_d_method_2_13) rfl k)
    show own_Goes p.tables e below P (s₁.setTop (mkF m 14 #[.val (.int x), .val (.int (x >>> ((4 : Int32) &&& 31)))] [(.int (x &&& (15 : Int32)))]))
    refine own_Goes.st ?_ (fun _ k => XS.iconst X0.here hx rfl (hb hby own_d_method_2_14) k)
    show own_Goes p.tables e below P (s₁.setTop (mkF m 15 #[.val (.int x), .val (.int (x >>> ((4 : Int32) &&& 31)))] [(.int (4 : Int32)), (.int (x &&& (15 : Int32)))]))
    by_cases h2 : (4 : Int32) < (x &&& (15 : Int32))
    · skip
      refine own_Goes.st ?_ (fun _ k => XS.icmpYes X0.here hx rfl (pc0 := 15) (pc' := 22) rfl (hb hby own_d_method_2_15) rfl (tlt h2).2.2.1 (by decide) (by decide) k)
      show own_Goes p.tables e below P (s₁.setTop (mkF m 22 #[.val (.int x), .val (.int (x >>> ((4 : Int32) &&& 31)))] []))
      refine own_Goes.st ?_ (fun _ k => XS.iconst X0.here hx rfl (hb hby own_d_method_2_22) k)
      show own_Goes p.tables e below P (s₁.setTop (mkF m 23 #[.val (.int x), .val (.int (x >>> ((4 : Int32) &&& 31)))] [(.int (1 : Int32))]))
      obtain ⟨fs, hr, hrun, hended, hW, hsame⟩ := X0.leave (v := some (.int (1 : Int32))) (fun h => by rw [Bd.returns] at h; cases h)
      exact own_Goes.fin _ _ (retOut X0 hx (t := .int) Bd.returns rfl (Or.inl ⟨rfl, Or.inl rfl, _, rfl⟩) (hb hby own_d_method_2_23) hr) (hPP _ _ ⟨hrun, hended, _, _, rfl, (by show Q_exp Z x h0 n0 _ s₁.heap _; rw [e0]; exact ⟨(by rw [own_exp, if_pos h1, if_pos h2]), N0, rfl⟩), ⟨_, rfl⟩, hW, hsame.mono (by decide) (by decide)⟩)
    · skip
      refine own_Goes.st ?_ (fun _ k => XS.icmpNo X0.here hx rfl (hb hby own_d_method_2_15) rfl (flt h2).2.2.1 k)
      show own_Goes p.tables e below P (s₁.setTop (mkF m 18 #[.val (.int x), .val (.int (x >>> ((4 : Int32) &&& 31)))] []))
      refine own_Goes.st ?_ (fun _ k => XS.iconst X0.here hx rfl (hb hby own_d_method_2_18) k)
      show own_Goes p.tables e below P (s₁.setTop (mkF m 19 #[.val (.int x), .val (.int (x >>> ((4 : Int32) &&& 31)))] [(.int (4 : Int32))]))
      refine own_Goes.st ?_ (fun _ k => XS.goto X0.here hx rfl (pc0 := 19) (pc' := 23) rfl (hb hby own_d_method_2_19) (by decide) (by decide) k)
      show own_Goes p.tables e below P (s₁.setTop (mkF m 23 #[.val (.int x), .val (.int (x >>> ((4 : Int32) &&& 31)))] [(.int (4 : Int32))]))
      obtain ⟨fs, hr, hrun, hended, hW, hsame⟩ := X0.leave (v := some (.int (4 : Int32))) (fun h => by rw [Bd.returns] at h; cases h)
      exact own_Goes.fin _ _ (retOut X0 hx (t := .int) Bd.returns rfl (Or.inl ⟨rfl, Or.inl rfl, _, rfl⟩) (hb hby own_d_method_2_23) hr) (hPP _ _ ⟨hrun, hended, _, _, rfl, (by show Q_exp Z x h0 n0 _ s₁.heap _; rw [e0]; exact ⟨(by rw [own_exp, if_pos h1, if_neg h2]), N0, rfl⟩), ⟨_, rfl⟩, hW, hsame.mono (by decide) (by decide)⟩)
  · skip
    refine own_Goes.st ?_ (fun _ k => XS.icmpYes X0.here hx rfl (pc0 := 7) (pc' := 24) rfl (hb hby own_d_method_2_7) rfl (feq h1).2 (by decide) (by decide) k)
    show own_Goes p.tables e below P (s₁.setTop (mkF m 24 #[.val (.int x), .val (.int (x >>> ((4 : Int32) &&& 31)))] []))
    refine own_Goes.st ?_ (fun _ k => XS.iloadN X0.here hx rfl (hb hby own_d_method_2_24) rfl k)
    show own_Goes p.tables e below P (s₁.setTop (mkF m 25 #[.val (.int x), .val (.int (x >>> ((4 : Int32) &&& 31)))] [(.int (x >>> ((4 : Int32) &&& 31)))]))
    refine own_Goes.st ?_ (fun _ k => XS.bipush X0.here hx rfl (hb hby own_d_method_2_25) k)
    show own_Goes p.tables e below P (s₁.setTop (mkF m 27 #[.val (.int x), .val (.int (x >>> ((4 : Int32) &&& 31)))] [(.int (14 : Int32)), (.int (x >>> ((4 : Int32) &&& 31)))]))
    by_cases h2 : (x >>> ((4 : Int32) &&& 31)) = (14 : Int32)
    · skip
      refine own_Goes.st ?_ (fun _ k => XS.icmpNo X0.here hx rfl (hb hby own_d_method_2_27) rfl (teq h2).2 k)
      show own_Goes p.tables e below P (s₁.setTop (mkF m 30 #[.val (.int x), .val (.int (x >>> ((4 : Int32) &&& 31)))] []))
      refine own_Goes.st ?_ (fun _ k => XS.iconst X0.here hx rfl (hb hby own_d_method_2_30) k)
      show own_Goes p.tables e below P (s₁.setTop (mkF m 31 #[.val (.int x), .val (.int (x >>> ((4 : Int32) &&& 31)))] [(.int (3 : Int32))]))
      obtain ⟨fs, hr, hrun, hended, hW, hsame⟩ := X0.leave (v := some (.int (3 : Int32))) (fun h => by rw [Bd.returns] at h; cases h)
      exact own_Goes.fin _ _ (retOut X0 hx (t := .int) Bd.returns rfl (Or.inl ⟨rfl, Or.inl rfl, _, rfl⟩) (hb hby own_d_method_2_31) hr) (hPP _ _ ⟨hrun, hended, _, _, rfl, (by show Q_exp Z x h0 n0 _ s₁.heap _; rw [e0]; exact ⟨(by rw [own_exp, if_neg h1, if_pos h2]), N0, rfl⟩), ⟨_, rfl⟩, hW, hsame.mono (by decide) (by decide)⟩)
    · skip
      refine own_Goes.st ?_ (fun _ k => XS.icmpYes X0.here hx rfl (pc0 := 27) (pc' := 32) rfl (hb hby own_d_method_2_27) rfl (feq h2).2 (by decide) (by decide) k)
      show own_Goes p.tables e below P (s₁.setTop (mkF m 32 #[.val (.int x), .val (.int (x >>> ((4 : Int32) &&& 31)))] []))
      refine own_Goes.st ?_ (fun _ k => XS.iloadN X0.here hx rfl (hb hby own_d_method_2_32) rfl k)
      show own_Goes p.tables e below P (s₁.setTop (mkF m 33 #[.val (.int x), .val (.int (x >>> ((4 : Int32) &&& 31)))] [(.int (x >>> ((4 : Int32) &&& 31)))]))
      refine own_Goes.st ?_ (fun _ k => XS.bipush X0.here hx rfl (hb hby own_d_method_2_33) k)
      show own_Goes p.tables e below P (s₁.setTop (mkF m 35 #[.val (.int x), .val (.int (x >>> ((4 : Int32) &&& 31)))] [(.int (12 : Int32)), (.int (x >>> ((4 : Int32) &&& 31)))]))
      by_cases h3 : (x >>> ((4 : Int32) &&& 31)) = (12 : Int32)
      · skip
        refine own_Goes.st ?_ (fun _ k => XS.icmpYes X0.here hx rfl (pc0 := 35) (pc' := 44) rfl (hb hby own_d_method_2_35) rfl (teq h3).1 (by decide) (by decide) k)
        show own_Goes p.tables e below P (s₁.setTop (mkF m 44 #[.val (.int x), .val (.int (x >>> ((4 : Int32) &&& 31)))] []))
        exact (J44 (by rw [own_exp, if_neg h1, if_neg h2, if_pos h3]))
      · skip
        refine own_Goes.st ?_ (fun _ k => XS.icmpNo X0.here hx rfl (hb hby own_d_method_2_35) rfl (feq h3).1 k)
        show own_Goes p.tables e below P (s₁.setTop (mkF m 38 #[.val (.int x), .val (.int (x >>> ((4 : Int32) &&& 31)))] []))
        refine own_Goes.st ?_ (fun _ k => XS.iloadN X0.here hx rfl (hb hby own_d_method_2_38) rfl k)
        show own_Goes p.tables e below P (s₁.setTop (mkF m 39 #[.val (.int x), .val (.int (x >>> ((4 : Int32) &&& 31)))] [(.int (x >>> ((4 : Int32) &&& 31)))]))
        refine own_Goes.st ?_ (fun _ k => XS.bipush X0.here hx rfl (hb hby own_d_method_2_39) k)
        show own_Goes p.tables e below P (s₁.setTop (mkF m 41 #[.val (.int x), .val (.int (x >>> ((4 : Int32) &&& 31)))] [(.int (13 : Int32)), (.int (x >>> ((4 : Int32) &&& 31)))]))
        by_cases h4 : (x >>> ((4 : Int32) &&& 31)) = (13 : Int32)
        · skip
          refine own_Goes.st ?_ (fun _ k => XS.icmpNo X0.here hx rfl (hb hby own_d_method_2_41) rfl (teq h4).2 k)
          show own_Goes p.tables e below P (s₁.setTop (mkF m 44 #[.val (.int x), .val (.int (x >>> ((4 : Int32) &&& 31)))] []))
          exact (J44 (by rw [own_exp, if_neg h1, if_neg h2, if_neg h3, if_pos h4]))
        · skip
          refine own_Goes.st ?_ (fun _ k => XS.icmpYes X0.here hx rfl (pc0 := 41) (pc' := 61) rfl (hb hby own_d_method_2_41) rfl (feq h4).2 (by decide) (by decide) k)
          show own_Goes p.tables e below P (s₁.setTop (mkF m 61 #[.val (.int x), .val (.int (x >>> ((4 : Int32) &&& 31)))] []))
          refine own_Goes.st ?_ (fun _ k => XS.iconst X0.here hx rfl (hb hby own_d_method_2_61) k)
          show own_Goes p.tables e below P (s₁.setTop (mkF m 62 #[.val (.int x), .val (.int (x >>> ((4 : Int32) &&& 31)))] [(.int (1 : Int32))]))
          obtain ⟨fs, hr, hrun, hended, hW, hsame⟩ := X0.leave (v := some (.int (1 : Int32))) (fun h => by rw [Bd.returns] at h; cases h)
          exact own_Goes.fin _ _ (retOut X0 hx (t := .int) Bd.returns rfl (Or.inl ⟨rfl, Or.inl rfl, _, rfl⟩) (hb hby own_d_method_2_62) hr) (hPP _ _ ⟨hrun, hended, _, _, rfl, (by show Q_exp Z x h0 n0 _ s₁.heap _; rw [e0]; exact ⟨(by rw [own_exp, if_neg h1, if_neg h2, if_neg h3, if_neg h4]), N0, rfl⟩), ⟨_, rfl⟩, hW, hsame.mono (by decide) (by decide)⟩)
theorem own_ef_law (m : MethodId) (x0 : Int32) : entryFrame m #[(.int x0)] maxLocals = mkF m 0 #[.val (.int x0), .unset] [] := by first | (simp [entryFrame, mkF, argsToLocals, Value.category, maxLocals]; done) | rfl
theorem own_pd__28_I_29_I : parseMethodDescriptor "(I)I" = some ⟨[.int], some .int⟩ := by decide +kernel
def Q_law (n0 : Nat) (v : Option Value) (L : List Loc) : Prop := v = some (.int 1) ∧ Fr n0 L
set_option maxRecDepth 65536 in
set_option maxHeartbeats 40000000 in
theorem rm_law (l : Launch) (Z : State) (a0 : Array Value) (hw : ∀ d ∈ tables_1, d.before a0 Z = true) (ws : List Jvm.Cond) (p0 : Int32) (h0 : Heap) (n0 : Nat) (Z0 : n0 ≤ h0.size) :
    MetFree l x (head1 (Jvm.Cond.code x code maxLocals ret :: ws) room_1) (fun a U => a = #[(.int p0)] ∧ Z.Warmed39 U.vm ∧ U.heap = h0) (fun _ _ _ _ _ => True) (fun _ U o U' => ∃ v L, o = .returned v ∧ Q_law n0 v L ∧ FrameEnd U o U' L 0 0) := by
  refine MetFree.of_bodySF (plainFor_of_name own_pn_com_example_larder_larder_Utf8SequenceLengthPinLaw) hisR ?_
  intro p e s m args below meth c s₁ Bd hml0 hP hK
  obtain ⟨rfl, hZ, hh⟩ := hP
  have hx := Bd.exec
  have hby := Bd.bytes
  have hml : c.maxLocals = 2 := hml0
  have hown : s.vm.findClass "com/example/larder/larder/Utf8SequenceLengthPinLaw" = some m.cls := findClass_of_methodNamed Bd.named
  have hnm := (name_of_methodNamed Bd.named Bd.method).1
  have X0 : Stand p l e room_1 s m #[(.int p0)] below meth c s₁ [] 0 0 := Stand.of_body Bd
  have e0 : s₁.heap = h0 := by rw [← hh, Bd.state]; rfl
  have N0 := Fr.nil n0
  refine own_Goes.of ?_
  refine own_Goes.nm (fun P hPP => ?_)
  refine own_Goes.st ?_ (fun _ k => castTop (own_ef_law m p0) k)
  show own_Goes p.tables e below P (s₁.setTop (mkF m 0 #[.val (.int p0), .unset] []))
  refine own_Goes.st ?_ (fun _ k => XS.iloadN X0.here hx rfl (hb hby at_0) rfl k)
  show own_Goes p.tables e below P (s₁.setTop (mkF m 1 #[.val (.int p0), .unset] [(.int p0)]))
  refine own_Goes.st ?_ (fun _ k => XS.sipush X0.here hx rfl (hb hby at_1) k)
  show own_Goes p.tables e below P (s₁.setTop (mkF m 4 #[.val (.int p0), .unset] [(.int (255 : Int32)), (.int p0)]))
  refine own_Goes.st ?_ (fun _ k => XS.iand X0.here hx rfl (hb hby at_4) rfl k)
  show own_Goes p.tables e below P (s₁.setTop (mkF m 5 #[.val (.int p0), .unset] [(.int (p0 &&& (255 : Int32)))]))
  refine own_Goes.st ?_ (fun _ k => XS.istoreN X0.here hx rfl (hb hby at_5) rfl (l' := #[.val (.int p0), .val (.int (p0 &&& (255 : Int32)))]) rfl k)
  show own_Goes p.tables e below P (s₁.setTop (mkF m 6 #[.val (.int p0), .val (.int (p0 &&& (255 : Int32)))] []))
  refine own_Goes.st ?_ (fun _ k => XS.iloadN X0.here hx rfl (hb hby at_6) rfl k)
  show own_Goes p.tables e below P (s₁.setTop (mkF m 7 #[.val (.int p0), .val (.int (p0 &&& (255 : Int32)))] [(.int (p0 &&& (255 : Int32)))]))
  obtain ⟨_, _, ⟨T1, L1, k1, n1⟩, -, X1, ⟨Lc1, hQ1, l1, y1, z1⟩, st1⟩ := Jvm.LawKit.callS X0 hx (y := (⟨"com/example/larder/larder/Utf8", "sequenceLength", "(I)I"⟩ : MethodName)) hown (mvT hZ (hw _ (List.mem_of_getElem? (i := 0) rfl))) (mvT hZ (hw _ (List.mem_of_getElem? (i := 1) rfl))) (mvT hZ (hw _ (List.mem_of_getElem? (i := 2) rfl))) (mvT hZ (hw _ (List.mem_of_getElem? (i := 3) rfl))) (by decide) (backOf (W := 0) (rm_seq l Z a0 hw [] (p0 &&& (255 : Int32)) h0 n0 Z0) hZ (hw _ (List.mem_of_getElem? (i := 3) rfl)) (hw _ (List.mem_of_getElem? (i := 2) rfl)) (by decide) (by decide)) (g := (mkF m 7 #[.val (.int p0), .val (.int (p0 &&& (255 : Int32)))] [(.int (p0 &&& (255 : Int32)))])) rfl (by rw [hml]; rfl) (argsL := [(.int (p0 &&& (255 : Int32)))]) (rest := []) (lenOf own_pd__28_I_29_I rfl) rfl (by show 2 * 0 + _ ≤ _; exact Nat.le_of_eq rfl) (hb hby at_7) (fun _ _ => ⟨rfl, e0, (by decide : 0 + 0 ≤ _), (by decide : 0 + 0 ≤ _)⟩)
  dsimp only [Pt.U, Pt.locs, Pt.cells, Pt.slots] at X1 l1 y1 z1 st1 hQ1
  subst l1 y1 z1
  obtain ⟨rfl, Nq1, e1⟩ := hQ1
  have N1 := Fr.app N0 Nq1
  refine own_Goes.st ?_ st1
  show own_Goes p.tables e below P (T1.setTop (mkF m 10 #[.val (.int p0), .val (.int (p0 &&& (255 : Int32)))] [(.int (own_seq (p0 &&& (255 : Int32))))]))
  refine own_Goes.st ?_ (fun _ k => XS.iloadN X1.here hx rfl (hb hby at_10) rfl k)
  show own_Goes p.tables e below P (T1.setTop (mkF m 11 #[.val (.int p0), .val (.int (p0 &&& (255 : Int32)))] [(.int (p0 &&& (255 : Int32))), (.int (own_seq (p0 &&& (255 : Int32))))]))
  obtain ⟨_, _, ⟨T2, L2, k2, n2⟩, -, X2, ⟨Lc2, hQ2, l2, y2, z2⟩, st2⟩ := Jvm.LawKit.callS X1 hx (y := (⟨"com/example/larder/larder/Utf8SequenceLengthPinLaw", "expected", "(I)I"⟩ : MethodName)) hown (mvT hZ (hw _ (List.mem_of_getElem? (i := 4) rfl))) (mvT hZ (hw _ (List.mem_of_getElem? (i := 5) rfl))) (mvT hZ (hw _ (List.mem_of_getElem? (i := 6) rfl))) (mvT hZ (hw _ (List.mem_of_getElem? (i := 7) rfl))) (by decide) (backOf (W := 1) (rm_exp l Z a0 hw [] (p0 &&& (255 : Int32)) h0 n0 Z0) hZ (hw _ (List.mem_of_getElem? (i := 7) rfl)) (hw _ (List.mem_of_getElem? (i := 6) rfl)) (by decide) (by decide)) (g := (mkF m 11 #[.val (.int p0), .val (.int (p0 &&& (255 : Int32)))] [(.int (p0 &&& (255 : Int32))), (.int (own_seq (p0 &&& (255 : Int32))))])) rfl (by rw [hml]; rfl) (argsL := [(.int (p0 &&& (255 : Int32)))]) (rest := [(.int (own_seq (p0 &&& (255 : Int32))))]) (lenOf own_pd__28_I_29_I rfl) rfl (by show 2 * 0 + _ ≤ _; exact Nat.le_of_eq rfl) (hb hby at_11) (fun _ _ => ⟨rfl, e1, (by decide : 0 + 0 ≤ _), (by decide : 0 + 0 ≤ _)⟩)
  dsimp only [Pt.U, Pt.locs, Pt.cells, Pt.slots] at X2 l2 y2 z2 st2 hQ2
  subst l2 y2 z2
  obtain ⟨rfl, Nq2, e2⟩ := hQ2
  have N2 := Fr.app N1 Nq2
  refine own_Goes.st ?_ st2
  show own_Goes p.tables e below P (T2.setTop (mkF m 14 #[.val (.int p0), .val (.int (p0 &&& (255 : Int32)))] [(.int (own_exp (p0 &&& (255 : Int32)))), (.int (own_seq (p0 &&& (255 : Int32))))]))
  refine own_Goes.st ?_ (fun _ k => XS.icmpNo X2.here hx rfl (hb hby at_14) rfl (teq (own_law p0)).2 k)
  show own_Goes p.tables e below P (T2.setTop (mkF m 17 #[.val (.int p0), .val (.int (p0 &&& (255 : Int32)))] []))
  refine own_Goes.st ?_ (fun _ k => XS.iconst X2.here hx rfl (hb hby at_17) k)
  show own_Goes p.tables e below P (T2.setTop (mkF m 18 #[.val (.int p0), .val (.int (p0 &&& (255 : Int32)))] [(.int (1 : Int32))]))
  refine own_Goes.st ?_ (fun _ k => XS.goto X2.here hx rfl (pc0 := 18) (pc' := 22) rfl (hb hby at_18) (by decide) (by decide) k)
  show own_Goes p.tables e below P (T2.setTop (mkF m 22 #[.val (.int p0), .val (.int (p0 &&& (255 : Int32)))] [(.int (1 : Int32))]))
  obtain ⟨fs, hr, hrun, hended, hW, hsame⟩ := X2.leave (v := some (.int (1 : Int32))) (fun h => by rw [Bd.returns] at h; cases h)
  exact own_Goes.fin _ _ (retOut X2 hx (t := .boolean) Bd.returns rfl (Or.inl ⟨rfl, Or.inr (Or.inl rfl), _, rfl⟩) (hb hby at_22) hr) (hPP _ _ ⟨hrun, hended, _, _, rfl, (by show Q_law n0 _ _; exact ⟨rfl, N2⟩), ⟨_, rfl⟩, hW, hsame.mono (by decide) (by decide)⟩)
set_option maxRecDepth 65536 in
set_option maxHeartbeats 40000000 in
theorem comes_1 {Post : Tables → Env → Array Value → State → Outcome → State → Prop} (hpost : ∀ tb e args s v u, (limb_1_1.after args s (.returned v) u = true ∧ limb_1_2.after args s (.returned v) u = true ∧ True) → FrameEnd s (.returned v) u (Jvm.fieldLocs frame_1_writes args s ++ Jvm.arrayLocs frame_1_arrays args s ++ Jvm.staticLocs frame_1_statics s) 0 0 → Post tb e args s (.returned v) u) :
    ArmFor flags0 classFile x code maxLocals ret World_1 tables_1 room_1 Calls_1 rest_1 Pre_1 Post := by
  intro l hfl _ _ p e ha hc hk s m args below hf hA hF happ hP
  obtain ⟨hcalls, hrest, hpre⟩ := hP
  obtain ⟨-, -, -, hnamed, -, -, -, hat⟩ := (Spec.applies_iff hf).mp happ
  obtain ⟨hg, hn⟩ := and_e (Cond.before_iff.mp (show (Jvm.Cond.and given_1 narrow_1).before args s = true from hpre))
  obtain ⟨hg0, hg1⟩ := and_e hg
  obtain ⟨w0, rfl⟩ : ∃ w0 : Value, args = #[w0] := by
    have hs : args.size = 1 := by simpa [Cond.value, given_1] using hg0
    obtain ⟨L⟩ := args
    match L, hs with
    | [w0], _ => exact ⟨w0, rfl⟩
  have hw := fun d (hd : d ∈ tables_1) => atoms_spec (ws := Jvm.Cond.code x code maxLocals ret :: tables_1) hat d (List.mem_cons_of_mem _ hd)
  have hfit : Fit s := fun {y c} hc i hi => by
    obtain ⟨ha, rfl⟩ := Array.getElem?_eq_some_iff.mp hc
    have q := List.all_eq_true.mp ((Array.all_eq_true_iff_forall_mem.mp hF) _ (Array.getElem_mem ha)) i (List.mem_range.mpr hi)
    simpa [Array.getElem?_eq_getElem hi] using q
  obtain ⟨i0, ei0⟩ := is_v hg1
  obtain rfl : w0 = (.int i0) := Option.some.inj ei0
  obtain ⟨n, o, h1, h2, h3, _, L, rfl, ⟨rfl, N⟩, hq⟩ := rm_law l s _ hw tables_1 i0  s.heap s.heap.size (Nat.le_refl _)  p e ha hc hk s m _ below hf ((Spec.applies_iff_loose hf).mp happ).1 ⟨rfl, State.Warmed39.refl s, rfl⟩ trivial
  refine ⟨n, _, h1, h2, h3, hpost _ _ _ _ _ _ ⟨Cond.after_iff.mpr rfl, Cond.after_iff.mpr (eq_i res_at (Term.int_eval (1)) rfl), trivial⟩ ⟨hq.1, hq.2.1, (hq.2.2.sift fun y hy => Or.inr (N y hy)).mono (by decide) (by decide)⟩⟩
theorem main_1_1 : Claimed_1_1 := comes_1 fun _ _ _ _ _ _ h hF => ⟨h.1, hF⟩
theorem main_1_2 : Claimed_1_2 := comes_1 fun _ _ _ _ _ _ h hF => ⟨h.2.1, hF⟩
end Jvm.Pilot.@@N@@
namespace Jvm.Pilot.@@N@@
open Jvm Jvm.ClassFile Sem Op Lib Jvm.Free Jvm.Stand Jvm.Pilot.@@N@@.Jvm.D
/-! MADE BY PROGRAM (witnessworld.py) out of the Statement's table words and the real class files: 9 classes; the members and pool entries that the words name. The judged class is class 1, her method 2. -/
namespace start1
open Jvm.ClassFile
def u (s : String) : CpInfo := .utf8 (stringToUtf16 s)
/-- a pool by its gaps: so many unusable entries, then the entry; so many at the end -/
def gap : Nat → List CpInfo → List CpInfo
  | 0, r => r
  | n + 1, r => .unusable :: gap n r
def poolList (es : List (Nat × CpInfo)) (last : Nat) : List CpInfo := es.foldr (fun e r => gap e.1 (e.2 :: r)) (gap last [])
def pool (es : List (Nat × CpInfo)) (last : Nat) : Array CpInfo := ⟨poolList es last⟩
def fileOf (pool : Array CpInfo) (this : Nat) (attrs : Array Attribute := #[]) (ms : Array MethodInfo := #[]) (fl : Nat := 33) (sup : Nat := 0) (ifs : Array Nat := #[]) (fds : Array FieldInfo := #[]) : ClassFile where
  minorVersion := 0
  majorVersion := 65
  constantPool := pool
  accessFlags := fl
  thisClass := this
  superClass := sup
  interfaces := ifs
  fields := fds
  methods := ms
  attributes := attrs
def plain (name : String) (sup : Option ClassId) : Class where
  name := name
  kind := .ordinary
  loader := none
  accessFlags := 33
  super := sup
  interfaces := #[]
  cf := none
  fields := #[]
  methods := #[]
  instanceTypes := #[]
  staticTypes := #[]
  resolved := #[]
  callSites := []
  init := .initialized
  statics := none
  mirror := none

def pool0 : Array CpInfo := pool [(5, u "<init>"), (0, u "()V"), (1, .class_ 10), (1, u "java/lang/Object")] 113

def k0m0 : Method := { name := "<init>", desc := "()V", sig := { parameters := [], returnType := none }, accessFlags := 1, code := none }
/-- java/lang/Object -/
def k0 : Class := { plain "java/lang/Object" none with
  accessFlags := 33
  interfaces := #[]
  cf := some (fileOf pool0 8 #[] #[{ accessFlags := 1, nameIndex := 5, descriptorIndex := 6, attributes := #[] }] 33 0 #[] #[])
  fields := #[]
  methods := #[k0m0]
  instanceTypes := #[]
  staticTypes := #[]
  resolved := Array.replicate 124 none
  statics := none }

def pool1 : Array CpInfo := pool [(2, .class_ 4), (1, u "java/lang/Object"), (0, u "<init>"), (0, u "()V"), (0, .methodref 8 9), (0, .class_ 10), (0, .nameAndType 11 12), (0, u "com/example/larder/larder/Utf8"), (0, u "sequenceLength"), (0, u "(I)I"), (0, .methodref 14 15), (0, .class_ 16), (0, .nameAndType 17 12), (0, u "com/example/larder/larder/Utf8SequenceLengthPinLaw"), (0, u "expected"), (3, u "law"), (0, u "(I)Z")] 2

def k1m0 : Method := { name := "<init>", desc := "()V", sig := { parameters := [], returnType := none }, accessFlags := 2, code := none }
def k1c1 : Code := { maxStack := 2, maxLocals := 2, code := method_2_code, exceptionTable := #[], attributes := #[] }
def k1m1 : Method := { name := "expected", desc := "(I)I", sig := { parameters := [.int], returnType := some .int }, accessFlags := 10, code := some k1c1 }
def k1c2 : Code := { maxStack := 2, maxLocals := 2, code := code, exceptionTable := #[], attributes := #[] }
def k1m2 : Method := { name := "law", desc := "(I)Z", sig := { parameters := [.int], returnType := some .boolean }, accessFlags := 9, code := some k1c2 }
/-- com/example/larder/larder/Utf8SequenceLengthPinLaw -/
def k1 : Class := { plain "com/example/larder/larder/Utf8SequenceLengthPinLaw" (some 0) with
  accessFlags := 49
  interfaces := #[]
  cf := some (fileOf pool1 14 #[] #[{ accessFlags := 2, nameIndex := 5, descriptorIndex := 6, attributes := #[] }, { accessFlags := 10, nameIndex := 17, descriptorIndex := 12, attributes := #[] }, { accessFlags := 9, nameIndex := 21, descriptorIndex := 22, attributes := #[] }] 49 2 #[] #[])
  fields := #[]
  methods := #[k1m0, k1m1, k1m2]
  instanceTypes := #[]
  staticTypes := #[]
  resolved := Array.replicate 25 none
  statics := none }

def pool2 : Array CpInfo := pool [(2, .class_ 4), (1, u "java/lang/Object"), (0, u "<init>"), (0, u "()V"), (11, .class_ 19), (0, u "com/example/larder/larder/Utf8"), (4, u "(I)I"), (38, .class_ 64), (0, u "com/example/larder/larder/Utf8$MalformedException"), (15, u "REPLACEMENT"), (0, u "C"), (3, u "sequenceLength")] 9

def k2m0 : Method := { name := "<init>", desc := "()V", sig := { parameters := [], returnType := none }, accessFlags := 2, code := none }
def k2c1 : Code := { maxStack := 2, maxLocals := 1, code := prog_40_method_2_code, exceptionTable := #[], attributes := #[] }
def k2m1 : Method := { name := "sequenceLength", desc := "(I)I", sig := { parameters := [.int], returnType := some .int }, accessFlags := 8, code := some k2c1 }
/-- com/example/larder/larder/Utf8 -/
def k2 : Class := { plain "com/example/larder/larder/Utf8" (some 0) with
  accessFlags := 48
  interfaces := #[]
  cf := some (fileOf pool2 18 #[.nestMembers #[63]] #[{ accessFlags := 2, nameIndex := 5, descriptorIndex := 6, attributes := #[] }, { accessFlags := 8, nameIndex := 85, descriptorIndex := 24, attributes := #[] }] 48 2 #[] #[{ accessFlags := 26, nameIndex := 80, descriptorIndex := 81, attributes := #[] }])
  fields := #[{ name := "REPLACEMENT", type := .char, accessFlags := 26, slot := 0, constantValue := 0 }]
  methods := #[k2m0, k2m1]
  instanceTypes := #[]
  staticTypes := #[.char]
  resolved := Array.replicate 95 none
  statics := none }

def pool3 : Array CpInfo := pool [(1, u "java/lang/Cloneable"), (0, .class_ 1), (0, u "java/lang/Object"), (0, .class_ 3)] 3

/-- java/lang/Cloneable -/
def k3 : Class := { plain "java/lang/Cloneable" (some 0) with
  accessFlags := 1537
  interfaces := #[]
  cf := some (fileOf pool3 2 #[] #[] 1537 4 #[] #[])
  fields := #[]
  methods := #[]
  instanceTypes := #[]
  staticTypes := #[]
  resolved := Array.replicate 8 none
  statics := none }

def pool4 : Array CpInfo := pool [(1, u "java/io/Serializable"), (0, .class_ 1), (0, u "java/lang/Object"), (0, .class_ 3)] 3

/-- java/io/Serializable -/
def k4 : Class := { plain "java/io/Serializable" (some 0) with
  accessFlags := 1537
  interfaces := #[]
  cf := some (fileOf pool4 2 #[] #[] 1537 4 #[] #[])
  fields := #[]
  methods := #[]
  instanceTypes := #[]
  staticTypes := #[]
  resolved := Array.replicate 8 none
  statics := none }

/-- the primitive byte -/
def k5 : Class := { plain "byte" none with kind := .primitive 'B', accessFlags := 0x411 }
/-- [B -/
def k6 : Class := { plain "[B" (some 0) with kind := .array 5 .byte, interfaces := #[3, 4], accessFlags := 1041 }

/-- the primitive int -/
def k7 : Class := { plain "int" none with kind := .primitive 'I', accessFlags := 0x411 }
/-- [I -/
def k8 : Class := { plain "[I" (some 0) with kind := .array 7 .int, interfaces := #[3, 4], accessFlags := 1041 }

def heap : Heap := #[]
def classes : Array Class := #[k0, k1, k2, k3, k4, k5, k6, k7, k8]
def interned : List (Array UInt16 × Addr) := []
def slotsUsed : Nat := 0
def theMethod : MethodId := ⟨1, 2⟩
def args0 : Array Value := #[.int 5]
def aboutOver (below : List Frame) : State where
  vm := { classes := classes, interned := interned.toArray }
  heap := heap
  slotsUsed := slotsUsed
  threads := #[{ frames := .invoking theMethod args0 :: below }]
def below0 : List Frame := [.native { method := ⟨0, 0⟩, args := #[] }]
def about1 : State := aboutOver below0
def p0 : Program := .bare "" "" ""
def e0 : Env := launch0.env 0 0 0
theorem w_frames : about1.frames = Frame.invoking theMethod args0 :: below0 := rfl
set_option maxRecDepth 65536 in
theorem w_args : argsFit about1.vm theMethod args0 = true := by decide +kernel
set_option maxRecDepth 65536 in
theorem w_heap : heapFits about1 = true := by decide +kernel
set_option maxRecDepth 65536 in
theorem w_runnable : about1.curStatus? = some .runnable := by decide +kernel
set_option maxRecDepth 65536 in
theorem w_alone : about1.alone = true := by decide +kernel
set_option maxRecDepth 65536 in
theorem w_named : about1.methodNamed? x = some theMethod := by decide +kernel
set_option maxRecDepth 65536 in
theorem w_hears : about1.hears theMethod below0 = true := by decide +kernel
set_option maxRecDepth 65536 in
theorem w_ripe : about1.ripe theMethod args0 below0 = true := by decide +kernel
theorem w_running : about1.status = .running := rfl
set_option maxRecDepth 65536 in
theorem w_room : about1.hasRoom e0.platform room_1 = true :=
  launch0.hasRoom_least _ room_1 (by decide +kernel) (by decide +kernel) (by decide +kernel) (by decide +kernel) (by decide +kernel) (by decide +kernel)
theorem allAtoms_all (ts : List Jvm.Cond) (a : Array Jvm.Value) (st : Jvm.State) : (allAtoms ts).before a st = ts.all (fun c => c.before a st) := by
  induction ts with
  | nil => rfl
  | cons c t ih =>
    show (Jvm.Cond.and c (allAtoms t)).before a st = _
    rw [Jvm.Cond.before_and, ih, List.all_cons]
def words1 : List Jvm.Cond := Jvm.Cond.code x code maxLocals ret :: tables_1
/-- a 'code' word, met by the world's own term for the bytes: nothing is compared byte by byte -/
theorem code_word {y : MethodName} {bytes : ByteArray} {mx : Nat} {rt : Option FieldType} {a : Array Value} {s : State} {m : MethodId} {meth : Method} {c : Code} (h1 : s.methodNamed? y = some m) (h2 : s.vm.method? m = some meth) (h3 : meth.code = some c) (h4 : c.code = bytes)
    (h5 : (c.maxLocals == mx && c.exceptionTable.isEmpty && decide (c.maxStack ≤ mostOperands) && decide (meth.sig.returnType = rt) && !meth.locks && decide (parseMethodDescriptor y.desc = some meth.sig)) = true) : (Jvm.Cond.code y bytes mx rt).before a s = true := by
  simp only [Bool.and_eq_true, beq_iff_eq, Bool.not_eq_true', decide_eq_true_eq] at h5
  obtain ⟨⟨⟨⟨⟨g1, g2⟩, g3⟩, g4⟩, g5⟩, g6⟩ := h5
  simp [Cond.before, Cond.holds, Cond.value, h1, h2, h3, h4, g1, g2, g3, g4, g5, g6]
def isCode : Jvm.Cond → Bool
  | .code _ _ _ _ => true
  | _ => false
theorem all_split {L : List Jvm.Cond} {P : Jvm.Cond → Bool} (h1 : L.all (fun c => isCode c || P c) = true) (h2 : ∀ c ∈ L.filter isCode, P c = true) : L.all P = true := by
  refine List.all_eq_true.mpr fun c hc => ?_
  have h := List.all_eq_true.mp h1 c hc
  rcases Bool.eq_false_or_eq_true (isCode c) with hi | hi
  · exact h2 c (List.mem_filter.mpr ⟨hc, hi⟩)
  · simpa [hi] using h
set_option maxRecDepth 65536 in
theorem w_c0 : (Jvm.Cond.code x code maxLocals ret).before args0 about1 = true := code_word (m := ⟨1, 2⟩) (meth := k1m2) (c := k1c2) (by decide +kernel) rfl rfl rfl (by decide +kernel)
set_option maxRecDepth 65536 in
theorem w_c1 : (Jvm.Cond.code ({ cls := "com/example/larder/larder/Utf8", name := "sequenceLength", desc := "(I)I" } : Jvm.MethodName) prog_40_method_2_code (1 : Nat) (Option.some Jvm.ClassFile.FieldType.int)).before args0 about1 = true := code_word (m := ⟨2, 1⟩) (meth := k2m1) (c := k2c1) (by decide +kernel) rfl rfl rfl (by decide +kernel)
set_option maxRecDepth 65536 in
theorem w_c2 : (Jvm.Cond.code ({ cls := "com/example/larder/larder/Utf8SequenceLengthPinLaw", name := "expected", desc := "(I)I" } : Jvm.MethodName) method_2_code (2 : Nat) (Option.some Jvm.ClassFile.FieldType.int)).before args0 about1 = true := code_word (m := ⟨1, 1⟩) (meth := k1m1) (c := k1c1) (by decide +kernel) rfl rfl rfl (by decide +kernel)
def codes1 : List Jvm.Cond := [Jvm.Cond.code x code maxLocals ret, Jvm.Cond.code ({ cls := "com/example/larder/larder/Utf8", name := "sequenceLength", desc := "(I)I" } : Jvm.MethodName) prog_40_method_2_code (1 : Nat) (Option.some Jvm.ClassFile.FieldType.int), Jvm.Cond.code ({ cls := "com/example/larder/larder/Utf8SequenceLengthPinLaw", name := "expected", desc := "(I)I" } : Jvm.MethodName) method_2_code (2 : Nat) (Option.some Jvm.ClassFile.FieldType.int)]
set_option maxRecDepth 65536 in
theorem codes_eq : words1.filter isCode = codes1 := rfl
theorem w_codes : ∀ c ∈ words1.filter isCode, c.before args0 about1 = true := by
  rw [codes_eq]
  intro c hc
  simp only [codes1, List.mem_cons, List.not_mem_nil, or_false] at hc
  rcases hc with rfl | rfl | rfl
  · exact w_c0
  · exact w_c1
  · exact w_c2
set_option maxRecDepth 65536 in
theorem w_t1 : words1.all (fun c => isCode c || c.before args0 about1) = true := by decide +kernel
theorem w_tables : (allAtoms (Jvm.Cond.code x code maxLocals ret :: tables_1)).before args0 about1 = true := by
  rw [allAtoms_all]
  show words1.all (fun c => c.before args0 about1) = true
  refine all_split ?_ w_codes
  rw [w_t1]
set_option maxRecDepth 65536 in
theorem w_case : (Jvm.Cond.and given_1 narrow_1).before args0 about1 = true := by decide +kernel
theorem w_applies : (headSpec (Jvm.Cond.code x code maxLocals ret :: tables_1) room_1).applies x e0.platform about1 = true :=
  (Spec.applies_iff w_frames).mpr ⟨w_running, w_runnable, w_alone, w_named, w_hears, w_ripe, w_room, w_tables⟩
theorem atStart : AtStart classFile x code maxLocals ret World_1 tables_1 room_1 Calls_1 rest_1 Pre_1 launch0 p0 e0 about1 theMethod args0 below0 :=
  ⟨lists_1, trivial, launch0.admits_env _ _ _, launch0.least_env, fairChoices_fair.cas, fairChoices_fair.clock, w_frames, w_args, w_heap, w_applies, trivial, trivial, w_case⟩
end start1
theorem witness_1 : WitnessClaimed_1 := ⟨start1.p0, start1.e0, start1.about1, start1.theMethod, start1.args0, start1.below0, start1.atStart⟩
end Jvm.Pilot.@@N@@
