import JvmDerived
import JvmDerived.Pilot.@@N@@Statement
import JvmDerived.Pilot.@@N@@Code
set_option linter.unusedVariables false
set_option linter.unusedSimpArgs false
namespace Jvm.RoadKit
open Sem ClassFile Op Lib Jvm.Stand Jvm.Free Jvm.LawKit
/-- the walk that stands at S comes to an end of which P holds -/
def own_Goes (tb : Tables) (e : Env) (below : List Frame) (P : State → Outcome → Prop) (S : State) : Prop := ∃ t o, Steps tb e below S t ∧ P t o
theorem own_Goes.of {tb : Tables} {e : Env} {below : List Frame} {P : State → Outcome → Prop} {S : State} (k : own_Goes tb e below P S) : ∃ t o, Steps tb e below S t ∧ P t o := k
theorem own_Goes.nm {tb : Tables} {e : Env} {below : List Frame} {P : State → Outcome → Prop} {S : State} (k : ∀ P' : State → Outcome → Prop, (∀ t o, P t o → P' t o) → own_Goes tb e below P' S) : own_Goes tb e below P S := k P fun _ _ q => q
theorem own_Goes.st {tb : Tables} {e : Env} {below : List Frame} {P : State → Outcome → Prop} {S S' : State} (k : own_Goes tb e below P S') (h : ∀ t, Steps tb e below S' t → Steps tb e below S t) : own_Goes tb e below P S := by
  obtain ⟨t, o, h1, h2⟩ := k; exact ⟨t, o, h t h1, h2⟩
theorem own_Goes.tr {tb : Tables} {e : Env} {below : List Frame} {P : State → Outcome → Prop} {S S' : State} (h : Steps tb e below S S') (k : own_Goes tb e below P S') : own_Goes tb e below P S := by
  obtain ⟨t, o, h1, h2⟩ := k; exact ⟨t, o, h.trans h1, h2⟩
theorem own_Goes.fin {tb : Tables} {e : Env} {below : List Frame} {P : State → Outcome → Prop} {S : State} (t : State) (o : Outcome) (h : Steps tb e below S t) (k : P t o) : own_Goes tb e below P S := ⟨t, o, h, k⟩
end Jvm.RoadKit
namespace Jvm.Pilot.@@N@@
open Jvm Jvm.ClassFile Sem Op Lib Jvm.Free Jvm.Stand Jvm.LawKit Jvm.RoadKit Bundle Jvm.Pilot.@@N@@.Jvm.D
theorem own_satoms (a0 : Array Value) (Z : State) (hw : ∀ d ∈ tables_1, d.before a0 Z = true) : ∀ d ∈ Bundle.stringAtoms, d.before a0 Z = true := fun d hd => by
  simp only [Bundle.stringAtoms, List.mem_cons, List.not_mem_nil, or_false] at hd
  rcases hd with rfl | rfl | rfl | rfl | rfl | rfl | rfl
  · exact (hw _ (List.mem_of_getElem? (i := 5) rfl))
  · exact (hw _ (List.mem_of_getElem? (i := 13) rfl))
  · exact (hw _ (List.mem_of_getElem? (i := 17) rfl))
  · exact (hw _ (List.mem_of_getElem? (i := 26) rfl))
  · exact (hw _ (List.mem_of_getElem? (i := 28) rfl))
  · exact (hw _ (List.mem_of_getElem? (i := 35) rfl))
  · exact (hw _ (List.mem_of_getElem? (i := 36) rfl))
theorem own_nn31 (y : Int32) : ¬ (y &&& (2147483647 : Int32)) < 0 := by
  have m := c_mask y 2147483647 31 (by decide) (by decide)
  have c0 : (0 : Int32).toInt = 0 := by decide
  rw [Int32.lt_iff_toInt_lt, m, c0]; omega
def own_ce (z : Int32) : Int32 := if 255 < z then 0 else 1
theorem own_chr (y : Int32) : ¬ (255 : Int32) < ((y &&& (255 : Int32)).toUInt32.toUInt16.toUInt32.toInt32) := by
  rw [i2c_mask]
  have m := c_mask y 255 8 (by decide) (by decide)
  have c1 : (255 : Int32).toInt = 255 := by decide
  rw [Int32.lt_iff_toInt_lt, m, c1]; omega
theorem own_ef_ce (m : MethodId) (x0 : Int32) : entryFrame m #[(.int x0)] 1 = mkF m 0 #[.val (.int x0)] [] := by first | (simp [entryFrame, mkF, argsToLocals, Value.category]; done) | rfl
theorem own_pn_java_lang_StringLatin1 : plainName "java/lang/StringLatin1" = true := by first | (simp [plainName, overriddenIn]; done) | decide +kernel
theorem own_d_jdk_43_method_3_0 : decode jdk_43_method_3_code 0 = .ok (.iload_n 0, 1) := by decide +kernel
theorem own_d_jdk_43_method_3_1 : decode jdk_43_method_3_code 1 = .ok (.sipush 255, 3) := by decide +kernel
theorem own_d_jdk_43_method_3_4 : decode jdk_43_method_3_code 4 = .ok (.if_icmp .gt 7, 3) := by decide +kernel
theorem own_d_jdk_43_method_3_11 : decode jdk_43_method_3_code 11 = .ok (.iconst 0, 1) := by decide +kernel
theorem own_d_jdk_43_method_3_12 : decode jdk_43_method_3_code 12 = .ok (.ireturn, 1) := by decide +kernel
theorem own_d_jdk_43_method_3_7 : decode jdk_43_method_3_code 7 = .ok (.iconst 1, 1) := by decide +kernel
theorem own_d_jdk_43_method_3_8 : decode jdk_43_method_3_code 8 = .ok (.goto 4, 3) := by decide +kernel
def Q_ce (Z : State) (z : Int32) (h0 : Heap) (n0 : Nat) (rv_ : Option Value) (h_ : Heap) (L_ : List Loc) : Prop := rv_ = some (.int (own_ce z)) ∧ Fr n0 L_ ∧ h_ = h0
set_option maxRecDepth 65536 in
set_option maxHeartbeats 40000000 in
theorem rm_ce (l : Launch) (Z : State) (a0 : Array Value) (hw : ∀ d ∈ tables_1, d.before a0 Z = true) (ws : List Jvm.Cond) (z : Int32) (h0 : Heap) (n0 : Nat) (Z0 : n0 ≤ h0.size) :
    MetFree l (⟨"java/lang/StringLatin1", "canEncode", "(C)Z"⟩ : MethodName) (head1 (Jvm.Cond.code (⟨"java/lang/StringLatin1", "canEncode", "(C)Z"⟩ : MethodName) jdk_43_method_3_code 1 (some .boolean) :: ws) ({ frames := 0, cells := 0, slots := 0, locals := 0 } : Room)) (fun as_ U => as_ = #[(.int z)] ∧ Z.Warmed39 U.vm ∧ U.heap = h0) (fun _ _ _ _ _ => True) (fun _ U o U' => ∃ rv_ L_, o = .returned rv_ ∧ Q_ce Z z h0 n0 rv_ U'.heap L_ ∧ FrameEnd U o U' L_ ({ frames := 0, cells := 0, slots := 0, locals := 0 } : Room).cells ({ frames := 0, cells := 0, slots := 0, locals := 0 } : Room).slots) := by
  refine MetFree.of_bodySF (plainFor_of_name own_pn_java_lang_StringLatin1) hisR ?_
  intro p e s m args below meth c s₁ Bd hml0 hP hK
  obtain ⟨rfl, hZ, hh⟩ := hP
  have hx := Bd.exec
  have hby := Bd.bytes
  have hml : c.maxLocals = 1 := hml0
  have hown : s.vm.findClass "java/lang/StringLatin1" = some m.cls := findClass_of_methodNamed Bd.named
  have hnm := (name_of_methodNamed Bd.named Bd.method).1
  have X0 : Stand p l e ({ frames := 0, cells := 0, slots := 0, locals := 0 } : Room) s m #[(.int z)] below meth c s₁ [] 0 0 := Stand.of_body Bd
  have e0 : s₁.heap = h0 := by rw [← hh, Bd.state]; rfl
  have N0 := Fr.nil n0
  refine own_Goes.of ?_
  refine own_Goes.nm (fun P hPP => ?_)
  refine own_Goes.st ?_ (fun _ k => castTop (own_ef_ce m z) k)
  show own_Goes p.tables e below P (s₁.setTop (mkF m 0 #[.val (.int z)] []))
  refine own_Goes.st ?_ (fun _ k => XS.iloadN X0.here hx rfl (hb hby own_d_jdk_43_method_3_0) rfl k)
  show own_Goes p.tables e below P (s₁.setTop (mkF m 1 #[.val (.int z)] [(.int z)]))
  refine own_Goes.st ?_ (fun _ k => XS.sipush X0.here hx rfl (hb hby own_d_jdk_43_method_3_1) k)
  show own_Goes p.tables e below P (s₁.setTop (mkF m 4 #[.val (.int z)] [(.int (255 : Int32)), (.int z)]))
  by_cases h1 : (255 : Int32) < z
  · skip
    refine own_Goes.st ?_ (fun _ k => XS.icmpYes X0.here hx rfl (pc0 := 4) (pc' := 11) rfl (hb hby own_d_jdk_43_method_3_4) rfl (tlt h1).2.2.1 (by decide) (by decide) k)
    show own_Goes p.tables e below P (s₁.setTop (mkF m 11 #[.val (.int z)] []))
    refine own_Goes.st ?_ (fun _ k => XS.iconst X0.here hx rfl (hb hby own_d_jdk_43_method_3_11) k)
    show own_Goes p.tables e below P (s₁.setTop (mkF m 12 #[.val (.int z)] [(.int (0 : Int32))]))
    obtain ⟨fs, hr, hrun, hended, hW, hsame⟩ := X0.leave (v := some (.int (0 : Int32))) (fun h => by rw [Bd.returns] at h; cases h)
    exact own_Goes.fin _ _ (retOut X0 hx (t := .boolean) Bd.returns rfl (Or.inl ⟨rfl, Or.inr (Or.inl rfl), _, rfl⟩) (hb hby own_d_jdk_43_method_3_12) hr) (hPP _ _ ⟨hrun, hended, _, _, rfl, (by show Q_ce Z z h0 n0 _ s₁.heap _; rw [e0]; exact ⟨(by rw [own_ce, if_pos h1]), N0, rfl⟩), ⟨_, rfl⟩, hW, hsame.mono (by decide) (by decide)⟩)
  · skip
    refine own_Goes.st ?_ (fun _ k => XS.icmpNo X0.here hx rfl (hb hby own_d_jdk_43_method_3_4) rfl (flt h1).2.2.1 k)
    show own_Goes p.tables e below P (s₁.setTop (mkF m 7 #[.val (.int z)] []))
    refine own_Goes.st ?_ (fun _ k => XS.iconst X0.here hx rfl (hb hby own_d_jdk_43_method_3_7) k)
    show own_Goes p.tables e below P (s₁.setTop (mkF m 8 #[.val (.int z)] [(.int (1 : Int32))]))
    refine own_Goes.st ?_ (fun _ k => XS.goto X0.here hx rfl (pc0 := 8) (pc' := 12) rfl (hb hby own_d_jdk_43_method_3_8) (by decide) (by decide) k)
    show own_Goes p.tables e below P (s₁.setTop (mkF m 12 #[.val (.int z)] [(.int (1 : Int32))]))
    obtain ⟨fs, hr, hrun, hended, hW, hsame⟩ := X0.leave (v := some (.int (1 : Int32))) (fun h => by rw [Bd.returns] at h; cases h)
    exact own_Goes.fin _ _ (retOut X0 hx (t := .boolean) Bd.returns rfl (Or.inl ⟨rfl, Or.inr (Or.inl rfl), _, rfl⟩) (hb hby own_d_jdk_43_method_3_12) hr) (hPP _ _ ⟨hrun, hended, _, _, rfl, (by show Q_ce Z z h0 n0 _ s₁.heap _; rw [e0]; exact ⟨(by rw [own_ce, if_neg h1]), N0, rfl⟩), ⟨_, rfl⟩, hW, hsame.mono (by decide) (by decide)⟩)
theorem own_ef_tob (m : MethodId) (x0 : Int32) : entryFrame m #[(.int x0)] 1 = mkF m 0 #[.val (.int x0)] [] := by first | (simp [entryFrame, mkF, argsToLocals, Value.category]; done) | rfl
theorem own_d_jdk_43_method_46_0 : decode jdk_43_method_46_code 0 = .ok (.iconst 1, 1) := by decide +kernel
theorem own_d_jdk_43_method_46_1 : decode jdk_43_method_46_code 1 = .ok (.newarray .byte, 2) := by decide +kernel
theorem own_d_jdk_43_method_46_3 : decode jdk_43_method_46_code 3 = .ok (.dup, 1) := by decide +kernel
theorem own_d_jdk_43_method_46_4 : decode jdk_43_method_46_code 4 = .ok (.iconst 0, 1) := by decide +kernel
theorem own_d_jdk_43_method_46_5 : decode jdk_43_method_46_code 5 = .ok (.iload_n 0, 1) := by decide +kernel
theorem own_d_jdk_43_method_46_6 : decode jdk_43_method_46_code 6 = .ok (.i2b, 1) := by decide +kernel
theorem own_d_jdk_43_method_46_7 : decode jdk_43_method_46_code 7 = .ok (.bastore, 1) := by decide +kernel
theorem own_d_jdk_43_method_46_8 : decode jdk_43_method_46_code 8 = .ok (.areturn, 1) := by decide +kernel
def Q_tob (Z : State) (z : Int32) (h0 : Heap) (n0 : Nat) (rv_ : Option Value) (h_ : Heap) (L_ : List Loc) : Prop := ∃ (r : Addr), rv_ = some (.ref r) ∧ Fr n0 L_ ∧ Keep h0 h_ [] ∧ (h0.size ≤ r) ∧ (Exa Z h_ r "[B")
set_option maxRecDepth 65536 in
set_option maxHeartbeats 40000000 in
theorem rm_tob (l : Launch) (Z : State) (a0 : Array Value) (hw : ∀ d ∈ tables_1, d.before a0 Z = true) (ws : List Jvm.Cond) (z : Int32) (h0 : Heap) (n0 : Nat) (Z0 : n0 ≤ h0.size) :
    MetFree l (⟨"java/lang/StringLatin1", "toBytes", "(C)[B"⟩ : MethodName) (head1 (Jvm.Cond.code (⟨"java/lang/StringLatin1", "toBytes", "(C)[B"⟩ : MethodName) jdk_43_method_46_code 1 (some (.array .byte)) :: ws) ({ frames := 0, cells := 1, slots := 1, locals := 0 } : Room)) (fun as_ U => as_ = #[(.int z)] ∧ Z.Warmed39 U.vm ∧ U.heap = h0) (fun _ _ _ _ _ => True) (fun _ U o U' => ∃ rv_ L_, o = .returned rv_ ∧ Q_tob Z z h0 n0 rv_ U'.heap L_ ∧ FrameEnd U o U' L_ ({ frames := 0, cells := 1, slots := 1, locals := 0 } : Room).cells ({ frames := 0, cells := 1, slots := 1, locals := 0 } : Room).slots) := by
  refine MetFree.of_bodySF (plainFor_of_name own_pn_java_lang_StringLatin1) hisR ?_
  intro p e s m args below meth c s₁ Bd hml0 hP hK
  obtain ⟨rfl, hZ, hh⟩ := hP
  have hx := Bd.exec
  have hby := Bd.bytes
  have hml : c.maxLocals = 1 := hml0
  have hown : s.vm.findClass "java/lang/StringLatin1" = some m.cls := findClass_of_methodNamed Bd.named
  have hnm := (name_of_methodNamed Bd.named Bd.method).1
  have X0 : Stand p l e ({ frames := 0, cells := 1, slots := 1, locals := 0 } : Room) s m #[(.int z)] below meth c s₁ [] 0 0 := Stand.of_body Bd
  have e0 : s₁.heap = h0 := by rw [← hh, Bd.state]; rfl
  have N0 := Fr.nil n0
  refine own_Goes.of ?_
  refine own_Goes.nm (fun P hPP => ?_)
  refine own_Goes.st ?_ (fun _ k => castTop (own_ef_tob m z) k)
  have K0 : Keep h0 h0 [] := Keep.refl _ _
  show own_Goes p.tables e below P (s₁.setTop (mkF m 0 #[.val (.int z)] []))
  refine own_Goes.st ?_ (fun _ k => XS.iconst X0.here hx rfl (hb hby own_d_jdk_43_method_46_0) k)
  show own_Goes p.tables e below P (s₁.setTop (mkF m 1 #[.val (.int z)] [(.int (1 : Int32))]))
  obtain ⟨T1, h1, k1, X1, e1, E1, A1, J1, st1⟩ := newPE X0 hx hZ (hw _ (List.mem_of_getElem? (i := 17) rfl)) e0 (g := (mkF m 1 #[.val (.int z)] [(.int (1 : Int32))])) rfl (hb hby own_d_jdk_43_method_46_1) rfl (by decide) (cap := 1) (by decide) (by decide) (by decide) (by decide) (ad := "[B") rfl
  obtain ⟨b1, g1⟩ : ∃ z, z = h0.size := ⟨_, rfl⟩
  rw [← g1] at A1 J1 st1
  have ge_b1 : n0 ≤ b1 := Nat.le_trans Z0 (Nat.le_of_eq g1.symm)
  have sz_b1 : h0.size ≤ b1 := Nat.le_trans K0.1 (Nat.le_of_eq g1.symm)
  refine own_Goes.st ?_ st1
  have Z2 : n0 ≤ h1.size := Nat.le_trans Z0 E1.1
  have K3 := K0.ext E1
  have V4 : Arv Z h1 b1 k1 .byte (1 : Int32) [(.int (0 : Int32))] (.int 0) := (Arv.new A1 (by decide)).pad (pad_rep [] _ 1)
  show own_Goes p.tables e below P (T1.setTop (mkF m 3 #[.val (.int z)] [(.ref b1)]))
  refine own_Goes.st ?_ (fun _ k => XS.dup X1.here hx rfl (hb hby own_d_jdk_43_method_46_3) rfl rfl k)
  show own_Goes p.tables e below P (T1.setTop (mkF m 4 #[.val (.int z)] [(.ref b1), (.ref b1)]))
  refine own_Goes.st ?_ (fun _ k => XS.iconst X1.here hx rfl (hb hby own_d_jdk_43_method_46_4) k)
  show own_Goes p.tables e below P (T1.setTop (mkF m 5 #[.val (.int z)] [(.int (0 : Int32)), (.ref b1), (.ref b1)]))
  refine own_Goes.st ?_ (fun _ k => XS.iloadN X1.here hx rfl (hb hby own_d_jdk_43_method_46_5) rfl k)
  show own_Goes p.tables e below P (T1.setTop (mkF m 6 #[.val (.int z)] [(.int z), (.int (0 : Int32)), (.ref b1), (.ref b1)]))
  refine own_Goes.st ?_ (fun _ k => XS.i2b X1.here hx rfl (hb hby own_d_jdk_43_method_46_6) rfl k)
  show own_Goes p.tables e below P (T1.setTop (mkF m 7 #[.val (.int z)] [(.int ((z).toInt8.toInt32)), (.int (0 : Int32)), (.ref b1), (.ref b1)]))
  have Vc5 := V4
  obtain ⟨cl5, Ar5, q5, S5, Nn5, Hs5, Gs5⟩ := Vc5
  have hin6 : ¬ ((0 : Int32) < 0 ∨ cl5.slots.size ≤ ((0 : Int32)).toNatClampNeg) := inb_of S5 ⟨by decide, by decide⟩
  obtain ⟨T6, h6, X6, e6, W6, st6⟩ := stB X1 hx hZ e1 Ar5 (j := (0 : Int32)) hin6 (g := (mkF m 7 #[.val (.int z)] [(.int ((z).toInt8.toInt32)), (.int (0 : Int32)), (.ref b1), (.ref b1)])) rfl rfl (hb hby own_d_jdk_43_method_46_7)
  refine own_Goes.st ?_ st6
  have V7 : Arv Z h6 b1 k1 .byte (1 : Int32) [(.int (nar .byte ((z).toInt8.toInt32)))] (.int 0) := Arv.set Ar5 q5 S5 Nn5 Hs5 Gs5 (fits_nar_byte _) W6 0 rfl (Nat.le_of_ble_eq_true rfl)
  have Z8 : n0 ≤ h6.size := by rw [W6.size]; exact Z2
  have K9 := K3.wr W6 (Or.inr sz_b1)
  have N10 := Fr.snoc X6 N0 ge_b1
  show own_Goes p.tables e below P (T6.setTop (mkF m 8 #[.val (.int z)] [(.ref b1)]))
  obtain ⟨fs, hr, hrun, hended, hW, hsame⟩ := X6.leave (v := some (.ref b1)) (fun h => by rw [Bd.returns] at h; cases h)
  have F11 : Exa Z h6 b1 "[B" := (J1.wr W6)
  exact own_Goes.fin _ _ (retOut X6 hx (t := (.array .byte)) Bd.returns rfl (Or.inr (Or.inr (Or.inr (Or.inr ⟨rfl, rfl, rfl⟩)))) (hb hby own_d_jdk_43_method_46_8) hr) (hPP _ _ ⟨hrun, hended, _, _, rfl, (by show Q_tob Z z h0 n0 _ T6.heap _; rw [e6]; exact ⟨b1, rfl, N10, K9, sz_b1, F11⟩), ⟨_, rfl⟩, hW, hsame.mono (by decide) (by decide)⟩)
theorem own_ef_snew (m : MethodId) (x0 : Addr) (x1 : Addr) : entryFrame m #[(.ref x0), (.ref x1), (.int (0 : Int32))] 3 = mkF m 0 #[.val (.ref x0), .val (.ref x1), .val (.int (0 : Int32))] [] := by first | (simp [entryFrame, mkF, argsToLocals, Value.category]; done) | rfl
theorem own_pn_java_lang_String : plainName "java/lang/String" = true := by first | (simp [plainName, overriddenIn]; done) | decide +kernel
theorem own_d_jdk_42_method_151_0 : decode jdk_42_method_151_code 0 = .ok (.aload_n 0, 1) := by decide +kernel
theorem own_d_jdk_42_method_151_1 : decode jdk_42_method_151_code 1 = .ok (.invokespecial 1, 3) := by decide +kernel
theorem own_d_jdk_42_method_151_4 : decode jdk_42_method_151_code 4 = .ok (.aload_n 0, 1) := by decide +kernel
theorem own_d_jdk_42_method_151_5 : decode jdk_42_method_151_code 5 = .ok (.aload_n 1, 1) := by decide +kernel
theorem own_d_jdk_42_method_151_6 : decode jdk_42_method_151_code 6 = .ok (.putfield 9, 3) := by decide +kernel
theorem own_d_jdk_42_method_151_9 : decode jdk_42_method_151_code 9 = .ok (.aload_n 0, 1) := by decide +kernel
theorem own_d_jdk_42_method_151_10 : decode jdk_42_method_151_code 10 = .ok (.iload_n 2, 1) := by decide +kernel
theorem own_d_jdk_42_method_151_11 : decode jdk_42_method_151_code 11 = .ok (.putfield 15, 3) := by decide +kernel
theorem own_d_jdk_42_method_151_14 : decode jdk_42_method_151_code 14 = .ok (.return_, 1) := by decide +kernel
def Q_snew (Z : State) (a : Addr) (b : Addr) (u1 : Value) (u2 : Value) (h0 : Heap) (n0 : Nat) (rv_ : Option Value) (h_ : Heap) (L_ : List Loc) : Prop := rv_ = none ∧ Fr n0 L_ ∧ Keep h0 h_ [a] ∧ (Exa Z h_ a "java/lang/String")
set_option maxRecDepth 65536 in
set_option maxHeartbeats 40000000 in
theorem rm_snew (l : Launch) (Z : State) (a0 : Array Value) (hw : ∀ d ∈ tables_1, d.before a0 Z = true) (ws : List Jvm.Cond) (a : Addr) (b : Addr) (u1 : Value) (u2 : Value) (h0 : Heap) (n0 : Nat) (Z0 : n0 ≤ h0.size) (pr0 : Exa Z h0 a "java/lang/String") (pr1 : Fld Z h0 a "java/lang/String" "value" "[B" u1) (pr2 : Fld Z h0 a "java/lang/String" "coder" "B" u2) (pr3 : n0 ≤ a) :
    MetFree l (⟨"java/lang/String", "<init>", "([BB)V"⟩ : MethodName) (head1 (Jvm.Cond.code (⟨"java/lang/String", "<init>", "([BB)V"⟩ : MethodName) jdk_42_method_151_code 3 none :: ws) ({ frames := 1, cells := 0, slots := 0, locals := 12 } : Room)) (fun as_ U => as_ = #[(.ref a), (.ref b), (.int (0 : Int32))] ∧ Z.Warmed39 U.vm ∧ U.heap = h0) (fun _ _ _ _ _ => True) (fun _ U o U' => ∃ rv_ L_, o = .returned rv_ ∧ Q_snew Z a b u1 u2 h0 n0 rv_ U'.heap L_ ∧ FrameEnd U o U' L_ ({ frames := 1, cells := 0, slots := 0, locals := 12 } : Room).cells ({ frames := 1, cells := 0, slots := 0, locals := 12 } : Room).slots) := by
  refine MetFree.of_bodySF (plainFor_of_name own_pn_java_lang_String) hisR ?_
  intro p e s m args below meth c s₁ Bd hml0 hP hK
  obtain ⟨rfl, hZ, hh⟩ := hP
  have hx := Bd.exec
  have hby := Bd.bytes
  have hml : c.maxLocals = 3 := hml0
  have hown : s.vm.findClass "java/lang/String" = some m.cls := findClass_of_methodNamed Bd.named
  have hnm := (name_of_methodNamed Bd.named Bd.method).1
  have X0 : Stand p l e ({ frames := 1, cells := 0, slots := 0, locals := 12 } : Room) s m #[(.ref a), (.ref b), (.int (0 : Int32))] below meth c s₁ [] 0 0 := Stand.of_body Bd
  have e0 : s₁.heap = h0 := by rw [← hh, Bd.state]; rfl
  have N0 := Fr.nil n0
  refine own_Goes.of ?_
  refine own_Goes.nm (fun P hPP => ?_)
  refine own_Goes.st ?_ (fun _ k => castTop (own_ef_snew m a b) k)
  have K0 : Keep h0 h0 [a] := Keep.refl _ _
  show own_Goes p.tables e below P (s₁.setTop (mkF m 0 #[.val (.ref a), .val (.ref b), .val (.int (0 : Int32))] []))
  refine own_Goes.st ?_ (fun _ k => XS.aloadN X0.here hx rfl (hb hby own_d_jdk_42_method_151_0) rfl rfl k)
  show own_Goes p.tables e below P (s₁.setTop (mkF m 1 #[.val (.ref a), .val (.ref b), .val (.int (0 : Int32))] [(.ref a)]))
  obtain ⟨T1, X1, e1, st1⟩ := initO X0 hx hZ hown (hw _ (List.mem_of_getElem? (i := 22) rfl)) (hw _ (List.mem_of_getElem? (i := 23) rfl)) (hw _ (List.mem_of_getElem? (i := 24) rfl)) e0 (g := (mkF m 1 #[.val (.ref a), .val (.ref b), .val (.int (0 : Int32))] [(.ref a)])) rfl (by rw [hml]; rfl) rfl (hb hby own_d_jdk_42_method_151_1) (by decide) (W := 0) (by show 2 * 0 + _ ≤ _; exact Nat.le_of_eq rfl) (by decide)
  refine own_Goes.st ?_ st1
  show own_Goes p.tables e below P (T1.setTop (mkF m 4 #[.val (.ref a), .val (.ref b), .val (.int (0 : Int32))] []))
  refine own_Goes.st ?_ (fun _ k => XS.aloadN X1.here hx rfl (hb hby own_d_jdk_42_method_151_4) rfl rfl k)
  show own_Goes p.tables e below P (T1.setTop (mkF m 5 #[.val (.ref a), .val (.ref b), .val (.int (0 : Int32))] [(.ref a)]))
  refine own_Goes.st ?_ (fun _ k => XS.aloadN X1.here hx rfl (hb hby own_d_jdk_42_method_151_5) rfl rfl k)
  show own_Goes p.tables e below P (T1.setTop (mkF m 6 #[.val (.ref a), .val (.ref b), .val (.int (0 : Int32))] [(.ref b), (.ref a)]))
  obtain ⟨T2, h2, X2, e2, W2, st2⟩ := putF X1 hx hZ hown (host := "") (Or.inl (hw _ (List.mem_of_getElem? (i := 25) rfl))) Via.refl e1 pr1 pr0 (Or.inr ⟨(hw _ (List.mem_of_getElem? (i := 26) rfl)), rfl, hnm⟩) (hw _ (List.mem_of_getElem? (i := 13) rfl)) (ty := (.array .byte)) (by decide) rfl rfl (g := (mkF m 6 #[.val (.ref a), .val (.ref b), .val (.int (0 : Int32))] [(.ref b), (.ref a)])) rfl rfl (hb hby own_d_jdk_42_method_151_6)
  refine own_Goes.st ?_ st2
  have F3 : Fld Z h2 a "java/lang/String" "value" "[B" (.ref b) := pr1.same W2
  have Z4 : n0 ≤ h2.size := by rw [W2.size]; exact Z0
  have K5 := K0.wr W2 (Or.inl (List.mem_of_getElem? (i := 0) rfl))
  have N6 := Fr.snoc X2 N0 pr3
  show own_Goes p.tables e below P (T2.setTop (mkF m 9 #[.val (.ref a), .val (.ref b), .val (.int (0 : Int32))] []))
  refine own_Goes.st ?_ (fun _ k => XS.aloadN X2.here hx rfl (hb hby own_d_jdk_42_method_151_9) rfl rfl k)
  show own_Goes p.tables e below P (T2.setTop (mkF m 10 #[.val (.ref a), .val (.ref b), .val (.int (0 : Int32))] [(.ref a)]))
  refine own_Goes.st ?_ (fun _ k => XS.iloadN X2.here hx rfl (hb hby own_d_jdk_42_method_151_10) rfl k)
  show own_Goes p.tables e below P (T2.setTop (mkF m 11 #[.val (.ref a), .val (.ref b), .val (.int (0 : Int32))] [(.int (0 : Int32)), (.ref a)]))
  have F7 : Fld Z h2 a "java/lang/String" "coder" "B" u2 := (pr2.other W2 (Or.inr (slot_ne (Or.inr (hw _ (List.mem_of_getElem? (i := 28) rfl))) (Or.inr (hw _ (List.mem_of_getElem? (i := 26) rfl))) (by decide) (t := .byte) (t' := (.array .byte)) (by decide) (by decide))))
  have F8 : Exa Z h2 a "java/lang/String" := (pr0.wr W2)
  obtain ⟨T9, h9, X9, e9, W9, st9⟩ := putF X2 hx hZ hown (host := "") (Or.inl (hw _ (List.mem_of_getElem? (i := 27) rfl))) Via.refl e2 F7 F8 (Or.inr ⟨(hw _ (List.mem_of_getElem? (i := 28) rfl)), rfl, hnm⟩) (hw _ (List.mem_of_getElem? (i := 13) rfl)) (ty := .byte) (by decide) rfl rfl (g := (mkF m 11 #[.val (.ref a), .val (.ref b), .val (.int (0 : Int32))] [(.int (0 : Int32)), (.ref a)])) rfl rfl (hb hby own_d_jdk_42_method_151_11)
  refine own_Goes.st ?_ st9
  have F10 : Fld Z h9 a "java/lang/String" "coder" "B" (.int (0 : Int32)) := F7.same W9
  have Z11 : n0 ≤ h9.size := by rw [W9.size]; exact Z4
  have K12 := K5.wr W9 (Or.inl (List.mem_of_getElem? (i := 0) rfl))
  have N13 := Fr.snoc X9 N6 pr3
  show own_Goes p.tables e below P (T9.setTop (mkF m 14 #[.val (.ref a), .val (.ref b), .val (.int (0 : Int32))] []))
  obtain ⟨fs, hr, hrun, hended, hW, hsame⟩ := X9.leave (v := none) (fun _ => rfl)
  have F14 : Exa Z h9 a "java/lang/String" := (F8.wr W9)
  exact own_Goes.fin _ _ (X9.returnOut hx Bd.returns (hb hby own_d_jdk_42_method_151_14) hr) (hPP _ _ ⟨hrun, hended, _, _, rfl, (by show Q_snew Z a b u1 u2 h0 n0 _ T9.heap _; rw [e9]; exact ⟨rfl, N13, K12, F14⟩), ⟨_, rfl⟩, hW, hsame.mono (by decide) (by decide)⟩)
theorem own_ef_vof (m : MethodId) (x0 : Int32) : entryFrame m #[(.int x0)] 1 = mkF m 0 #[.val (.int x0)] [] := by first | (simp [entryFrame, mkF, argsToLocals, Value.category]; done) | rfl
theorem own_d_jdk_42_method_139_0 : decode jdk_42_method_139_code 0 = .ok (.getstatic 38, 3) := by decide +kernel
theorem own_d_jdk_42_method_139_3 : decode jdk_42_method_139_code 3 = .ok (.ifCond .eq 23, 3) := by decide +kernel
theorem own_d_jdk_42_method_139_6 : decode jdk_42_method_139_code 6 = .ok (.iload_n 0, 1) := by decide +kernel
theorem own_pd__28_C_29_Z : parseMethodDescriptor "(C)Z" = some ⟨[.char], some .boolean⟩ := by decide +kernel
theorem own_d_jdk_42_method_139_7 : decode jdk_42_method_139_code 7 = .ok (.invokestatic 1015, 3) := by decide +kernel
theorem own_d_jdk_42_method_139_10 : decode jdk_42_method_139_code 10 = .ok (.ifCond .eq 16, 3) := by decide +kernel
theorem own_d_jdk_42_method_139_13 : decode jdk_42_method_139_code 13 = .ok (.new 10, 3) := by decide +kernel
theorem own_d_jdk_42_method_139_16 : decode jdk_42_method_139_code 16 = .ok (.dup, 1) := by decide +kernel
theorem own_d_jdk_42_method_139_17 : decode jdk_42_method_139_code 17 = .ok (.iload_n 0, 1) := by decide +kernel
theorem own_pd__28_C_29__5b_B : parseMethodDescriptor "(C)[B" = some ⟨[.char], some (.array .byte)⟩ := by decide +kernel
theorem own_d_jdk_42_method_139_18 : decode jdk_42_method_139_code 18 = .ok (.invokestatic 1018, 3) := by decide +kernel
theorem own_d_jdk_42_method_139_21 : decode jdk_42_method_139_code 21 = .ok (.iconst 0, 1) := by decide +kernel
theorem own_pd__28__5b_BB_29_V : parseMethodDescriptor "([BB)V" = some ⟨[(.array .byte), .byte], none⟩ := by decide +kernel
theorem own_d_jdk_42_method_139_22 : decode jdk_42_method_139_code 22 = .ok (.invokespecial 209, 3) := by decide +kernel
theorem own_d_jdk_42_method_139_25 : decode jdk_42_method_139_code 25 = .ok (.areturn, 1) := by decide +kernel
def Q_vof (Z : State) (z : Int32) (cs : Int32) (h0 : Heap) (n0 : Nat) (rv_ : Option Value) (h_ : Heap) (L_ : List Loc) : Prop := ∃ (r : Addr), rv_ = some (.ref r) ∧ Fr n0 L_ ∧ Keep h0 h_ [] ∧ (h0.size ≤ r) ∧ (Exa Z h_ r "java/lang/String")
set_option maxRecDepth 65536 in
set_option maxHeartbeats 40000000 in
theorem rm_vof (l : Launch) (Z : State) (a0 : Array Value) (hw : ∀ d ∈ tables_1, d.before a0 Z = true) (ws : List Jvm.Cond) (z : Int32) (cs : Int32) (h0 : Heap) (n0 : Nat) (Z0 : n0 ≤ h0.size) (pr0 : Sta Z Z.heap "java/lang/String" "COMPACT_STRINGS" "Z" (.int cs)) (pr1 : Old Z n0 h0) (hcs : ¬ (cs = (0 : Int32))) (hz : ¬ (255 : Int32) < z) :
    MetFree l (⟨"java/lang/String", "valueOf", "(C)Ljava/lang/String;"⟩ : MethodName) (head1 (Jvm.Cond.code (⟨"java/lang/String", "valueOf", "(C)Ljava/lang/String;"⟩ : MethodName) jdk_42_method_139_code 1 (some (.object "java/lang/String")) :: ws) ({ frames := 2, cells := 2, slots := 5, locals := 27 } : Room)) (fun as_ U => as_ = #[(.int z)] ∧ Z.Warmed39 U.vm ∧ U.heap = h0) (fun _ _ _ _ _ => True) (fun _ U o U' => ∃ rv_ L_, o = .returned rv_ ∧ Q_vof Z z cs h0 n0 rv_ U'.heap L_ ∧ FrameEnd U o U' L_ ({ frames := 2, cells := 2, slots := 5, locals := 27 } : Room).cells ({ frames := 2, cells := 2, slots := 5, locals := 27 } : Room).slots) := by
  refine MetFree.of_bodySF (plainFor_of_name own_pn_java_lang_String) hisR ?_
  intro p e s m args below meth c s₁ Bd hml0 hP hK
  obtain ⟨rfl, hZ, hh⟩ := hP
  have hx := Bd.exec
  have hby := Bd.bytes
  have hml : c.maxLocals = 1 := hml0
  have hown : s.vm.findClass "java/lang/String" = some m.cls := findClass_of_methodNamed Bd.named
  have hnm := (name_of_methodNamed Bd.named Bd.method).1
  have X0 : Stand p l e ({ frames := 2, cells := 2, slots := 5, locals := 27 } : Room) s m #[(.int z)] below meth c s₁ [] 0 0 := Stand.of_body Bd
  have e0 : s₁.heap = h0 := by rw [← hh, Bd.state]; rfl
  have N0 := Fr.nil n0
  refine own_Goes.of ?_
  refine own_Goes.nm (fun P hPP => ?_)
  refine own_Goes.st ?_ (fun _ k => castTop (own_ef_vof m z) k)
  have K0 : Keep h0 h0 [] := Keep.refl _ _
  show own_Goes p.tables e below P (s₁.setTop (mkF m 0 #[.val (.int z)] []))
  obtain ⟨T1, X1, e1, st1⟩ := getS2 X0 hx hZ hown (host := "") (Or.inl (hw _ (List.mem_of_getElem? (i := 7) rfl))) Via.refl e0 (pr0.ext pr1.2) (g := (mkF m 0 #[.val (.int z)] [])) rfl (hb hby own_d_jdk_42_method_139_0)
  refine own_Goes.st ?_ st1
  show own_Goes p.tables e below P (T1.setTop (mkF m 3 #[.val (.int z)] [(.int cs)]))
  refine own_Goes.st ?_ (fun _ k => XS.ifNo X1.here hx rfl (hb hby own_d_jdk_42_method_139_3) rfl ((if0 _ _).trans (feq hcs).1) k)
  show own_Goes p.tables e below P (T1.setTop (mkF m 6 #[.val (.int z)] []))
  refine own_Goes.st ?_ (fun _ k => XS.iloadN X1.here hx rfl (hb hby own_d_jdk_42_method_139_6) rfl k)
  show own_Goes p.tables e below P (T1.setTop (mkF m 7 #[.val (.int z)] [(.int z)]))
  obtain ⟨_, _, ⟨T2, L2, k2, n2⟩, -, X2, ⟨Lc2, hQ2, l2, y2, z2⟩, st2⟩ := Jvm.LawKit.callS X1 hx (y := (⟨"java/lang/StringLatin1", "canEncode", "(C)Z"⟩ : MethodName)) hown (mvT hZ (hw _ (List.mem_of_getElem? (i := 8) rfl))) (mvT hZ (hw _ (List.mem_of_getElem? (i := 9) rfl))) (mvT hZ (hw _ (List.mem_of_getElem? (i := 10) rfl))) (mvT hZ (hw _ (List.mem_of_getElem? (i := 11) rfl))) (by decide) (backOf (W := 0) (rm_ce l Z a0 hw [] z h0 n0 Z0) hZ (hw _ (List.mem_of_getElem? (i := 11) rfl)) (hw _ (List.mem_of_getElem? (i := 10) rfl)) (by decide) (by decide)) (g := (mkF m 7 #[.val (.int z)] [(.int z)])) rfl (by rw [hml]; rfl) (argsL := [(.int z)]) (rest := []) (lenOf own_pd__28_C_29_Z rfl) rfl (by show 2 * 0 + _ ≤ _; exact Nat.le_of_eq rfl) (hb hby own_d_jdk_42_method_139_7) (fun _ _ => ⟨rfl, e1, (by decide : 0 + 0 ≤ _), (by decide : 0 + 0 ≤ _)⟩)
  dsimp only [Pt.U, Pt.locs, Pt.cells, Pt.slots] at X2 l2 y2 z2 st2 hQ2
  subst l2 y2 z2
  obtain ⟨rfl, Nq2, e2⟩ := hQ2
  have N2 := Fr.app N0 Nq2
  refine own_Goes.st ?_ st2
  show own_Goes p.tables e below P (T2.setTop (mkF m 10 #[.val (.int z)] [(.int (own_ce z))]))
  rw [(show own_ce z = 1 by rw [own_ce, if_neg hz])]
  show own_Goes p.tables e below P (T2.setTop (mkF m 10 #[.val (.int z)] [(.int (1 : Int32))]))
  refine own_Goes.st ?_ (fun _ k => XS.ifNo X2.here hx rfl (hb hby own_d_jdk_42_method_139_10) rfl ((if0 _ _).trans (feq (by decide : ¬ ((1 : Int32) = (0 : Int32)))).1) k)
  show own_Goes p.tables e below P (T2.setTop (mkF m 13 #[.val (.int z)] []))
  obtain ⟨T3, h3, X3, e3, E3, A3, D3, -, st3⟩ := newO X2 hx hZ hown (hw _ (List.mem_of_getElem? (i := 12) rfl)) (hw _ (List.mem_of_getElem? (i := 13) rfl)) (hw _ (List.mem_of_getElem? (i := 5) rfl)) e2 (g := (mkF m 13 #[.val (.int z)] [])) rfl (hb hby own_d_jdk_42_method_139_13) (by decide) (by decide)
  obtain ⟨a3, g3⟩ : ∃ z, z = h0.size := ⟨_, rfl⟩
  rw [← g3] at A3 D3 st3
  have ge_a3 : n0 ≤ a3 := Nat.le_trans Z0 (Nat.le_of_eq g3.symm)
  have sz_a3 : h0.size ≤ a3 := Nat.le_trans K0.1 (Nat.le_of_eq g3.symm)
  refine own_Goes.st ?_ st3
  have Z4 : n0 ≤ h3.size := Nat.le_trans Z0 E3.1
  have K5 := K0.ext E3
  have O6 := pr1.ext E3
  have F7 : Fld Z h3 a3 "java/lang/String" "value" "[B" .null := D3 (Or.inr (hw _ (List.mem_of_getElem? (i := 26) rfl))) (ty := (.array .byte)) (by decide)
  have F8 : Fld Z h3 a3 "java/lang/String" "coder" "B" (.int (0 : Int32)) := D3 (Or.inr (hw _ (List.mem_of_getElem? (i := 28) rfl))) (ty := .byte) (by decide)
  show own_Goes p.tables e below P (T3.setTop (mkF m 16 #[.val (.int z)] [(.ref a3)]))
  refine own_Goes.st ?_ (fun _ k => XS.dup X3.here hx rfl (hb hby own_d_jdk_42_method_139_16) rfl rfl k)
  show own_Goes p.tables e below P (T3.setTop (mkF m 17 #[.val (.int z)] [(.ref a3), (.ref a3)]))
  refine own_Goes.st ?_ (fun _ k => XS.iloadN X3.here hx rfl (hb hby own_d_jdk_42_method_139_17) rfl k)
  show own_Goes p.tables e below P (T3.setTop (mkF m 18 #[.val (.int z)] [(.int z), (.ref a3), (.ref a3)]))
  obtain ⟨_, _, ⟨T9, L9, k9, n9⟩, -, X9, ⟨Lc9, hQ9, l9, y9, z9⟩, st9⟩ := Jvm.LawKit.callS X3 hx (y := (⟨"java/lang/StringLatin1", "toBytes", "(C)[B"⟩ : MethodName)) hown (mvT hZ (hw _ (List.mem_of_getElem? (i := 14) rfl))) (mvT hZ (hw _ (List.mem_of_getElem? (i := 15) rfl))) (mvT hZ (hw _ (List.mem_of_getElem? (i := 10) rfl))) (mvT hZ (hw _ (List.mem_of_getElem? (i := 16) rfl))) (by decide) (backOf (W := 2) (rm_tob l Z a0 hw [] z h3 n0 Z4) hZ (hw _ (List.mem_of_getElem? (i := 16) rfl)) (hw _ (List.mem_of_getElem? (i := 10) rfl)) (by decide) (by decide)) (g := (mkF m 18 #[.val (.int z)] [(.int z), (.ref a3), (.ref a3)])) rfl (by rw [hml]; rfl) (argsL := [(.int z)]) (rest := [(.ref a3), (.ref a3)]) (lenOf own_pd__28_C_29__5b_B rfl) rfl (by show 2 * 0 + _ ≤ _; exact Nat.le_of_eq rfl) (hb hby own_d_jdk_42_method_139_18) (fun _ _ => ⟨rfl, e3, (by decide : 1 + 1 ≤ _), (by decide : 4 + 1 ≤ _)⟩)
  dsimp only [Pt.U, Pt.locs, Pt.cells, Pt.slots] at X9 l9 y9 z9 st9 hQ9
  subst l9 y9 z9
  obtain ⟨r9, rfl, Nq9, K9, f10, f11⟩ := hQ9
  have N9 := Fr.app N2 Nq9
  refine own_Goes.st ?_ st9
  have ne12 : a3 ≠ r9 := Nat.ne_of_lt (Nat.lt_of_lt_of_le A3.lt f10)
  have ge_r9 : n0 ≤ r9 := Nat.le_trans Z4 f10
  have sz_r9 : h0.size ≤ r9 := Nat.le_trans K5.1 f10
  have Z13 : n0 ≤ T9.heap.size := Nat.le_trans Z4 K9.1
  have K14 := K5.trans K9 all0
  have O15 := O6.keep K9 all0
  show own_Goes p.tables e below P (T9.setTop (mkF m 21 #[.val (.int z)] [(.ref r9), (.ref a3), (.ref a3)]))
  refine own_Goes.st ?_ (fun _ k => XS.iconst X9.here hx rfl (hb hby own_d_jdk_42_method_139_21) k)
  show own_Goes p.tables e below P (T9.setTop (mkF m 22 #[.val (.int z)] [(.int (0 : Int32)), (.ref r9), (.ref a3), (.ref a3)]))
  have F16 : Exa Z T9.heap a3 "java/lang/String" := (A3.keep K9)
  have F17 : Fld Z T9.heap a3 "java/lang/String" "value" "[B" .null := (F7.keep K9 nin0)
  have F18 : Fld Z T9.heap a3 "java/lang/String" "coder" "B" (.int (0 : Int32)) := (F8.keep K9 nin0)
  obtain ⟨_, _, ⟨T19, L19, k19, n19⟩, -, X19, ⟨Lc19, hQ19, l19, y19, z19⟩, st19⟩ := X9.specialBack hx (y := (⟨"java/lang/String", "<init>", "([BB)V"⟩ : MethodName)) rfl hown (mvT hZ (hw _ (List.mem_of_getElem? (i := 18) rfl))) (mvT hZ (hw _ (List.mem_of_getElem? (i := 19) rfl))) (mvT hZ (hw _ (List.mem_of_getElem? (i := 21) rfl))) (by decide) (backOf (W := 1) (rm_snew l Z a0 hw [] a3 r9 .null (.int (0 : Int32)) T9.heap n0 Z13 F16 F17 F18 ge_a3) hZ (hw _ (List.mem_of_getElem? (i := 21) rfl)) (hw _ (List.mem_of_getElem? (i := 5) rfl)) (by decide) (by decide)) (g := (mkF m 22 #[.val (.int z)] [(.int (0 : Int32)), (.ref r9), (.ref a3), (.ref a3)])) rfl (by rw [hml]; rfl) (Steps.refl _) (a := a3) (argsL := [(.ref r9), (.int (0 : Int32))]) (rest := [(.ref a3)]) (lenOf own_pd__28__5b_BB_29_V rfl) rfl (by show 2 * 0 + _ ≤ _; exact Nat.le_of_eq rfl) (hb hby own_d_jdk_42_method_139_22) (fun _ _ => ⟨rfl, rfl, (by decide : 2 + 0 ≤ _), (by decide : 5 + 0 ≤ _)⟩)
  dsimp only [Pt.U, Pt.locs, Pt.cells, Pt.slots] at X19 l19 y19 z19 st19 hQ19
  subst l19 y19 z19
  obtain ⟨rfl, Nq19, K19, f20⟩ := hQ19
  have N19 := Fr.app N9 Nq19
  refine own_Goes.tr st19 ?_
  have Z21 : n0 ≤ T19.heap.size := Nat.le_trans Z13 K19.1
  have K22 := K14.trans K19 (allS (Or.inr sz_a3) all0)
  have O23 := O15.keep K19 (allS ge_a3 all0)
  show own_Goes p.tables e below P (T19.setTop (mkF m 25 #[.val (.int z)] [(.ref a3)]))
  obtain ⟨fs, hr, hrun, hended, hW, hsame⟩ := X19.leave (v := some (.ref a3)) (fun h => by rw [Bd.returns] at h; cases h)
  exact own_Goes.fin _ _ (retOut X19 hx (t := (.object "java/lang/String")) Bd.returns rfl (Or.inr (Or.inr (Or.inr (Or.inr ⟨rfl, rfl, rfl⟩)))) (hb hby own_d_jdk_42_method_139_25) hr) (hPP _ _ ⟨hrun, hended, _, _, rfl, (by show Q_vof Z z cs h0 n0 _ T19.heap _; exact ⟨a3, rfl, N19, K22, sz_a3, f20⟩), ⟨_, rfl⟩, hW, hsame.mono (by decide) (by decide)⟩)
theorem own_ef_rnn (m : MethodId) (x0 : Addr) (x1 : Addr) : entryFrame m #[(.ref x0), (.ref x1)] 2 = mkF m 0 #[.val (.ref x0), .val (.ref x1)] [] := by first | (simp [entryFrame, mkF, argsToLocals, Value.category]; done) | rfl
theorem own_pn_java_util_Objects : plainName "java/util/Objects" = true := by first | (simp [plainName, overriddenIn]; done) | decide +kernel
theorem own_d_jdk_31_method_11_0 : decode jdk_31_method_11_code 0 = .ok (.aload_n 0, 1) := by decide +kernel
theorem own_d_jdk_31_method_11_1 : decode jdk_31_method_11_code 1 = .ok (.ifnonnull 12, 3) := by decide +kernel
theorem own_d_jdk_31_method_11_13 : decode jdk_31_method_11_code 13 = .ok (.aload_n 0, 1) := by decide +kernel
theorem own_d_jdk_31_method_11_14 : decode jdk_31_method_11_code 14 = .ok (.areturn, 1) := by decide +kernel
def Q_rnn (Z : State) (a : Addr) (b : Addr) (h0 : Heap) (n0 : Nat) (rv_ : Option Value) (h_ : Heap) (L_ : List Loc) : Prop := rv_ = some (.ref a) ∧ Fr n0 L_ ∧ h_ = h0
set_option maxRecDepth 65536 in
set_option maxHeartbeats 40000000 in
theorem rm_rnn (l : Launch) (Z : State) (a0 : Array Value) (hw : ∀ d ∈ tables_1, d.before a0 Z = true) (ws : List Jvm.Cond) (a : Addr) (b : Addr) (h0 : Heap) (n0 : Nat) (Z0 : n0 ≤ h0.size) :
    MetFree l (⟨"java/util/Objects", "requireNonNull", "(Ljava/lang/Object;Ljava/lang/String;)Ljava/lang/Object;"⟩ : MethodName) (head1 (Jvm.Cond.code (⟨"java/util/Objects", "requireNonNull", "(Ljava/lang/Object;Ljava/lang/String;)Ljava/lang/Object;"⟩ : MethodName) jdk_31_method_11_code 2 (some (.object "java/lang/Object")) :: ws) ({ frames := 0, cells := 0, slots := 0, locals := 0 } : Room)) (fun as_ U => as_ = #[(.ref a), (.ref b)] ∧ Z.Warmed39 U.vm ∧ U.heap = h0) (fun _ _ _ _ _ => True) (fun _ U o U' => ∃ rv_ L_, o = .returned rv_ ∧ Q_rnn Z a b h0 n0 rv_ U'.heap L_ ∧ FrameEnd U o U' L_ ({ frames := 0, cells := 0, slots := 0, locals := 0 } : Room).cells ({ frames := 0, cells := 0, slots := 0, locals := 0 } : Room).slots) := by
  refine MetFree.of_bodySF (plainFor_of_name own_pn_java_util_Objects) hisR ?_
  intro p e s m args below meth c s₁ Bd hml0 hP hK
  obtain ⟨rfl, hZ, hh⟩ := hP
  have hx := Bd.exec
  have hby := Bd.bytes
  have hml : c.maxLocals = 2 := hml0
  have hown : s.vm.findClass "java/util/Objects" = some m.cls := findClass_of_methodNamed Bd.named
  have hnm := (name_of_methodNamed Bd.named Bd.method).1
  have X0 : Stand p l e ({ frames := 0, cells := 0, slots := 0, locals := 0 } : Room) s m #[(.ref a), (.ref b)] below meth c s₁ [] 0 0 := Stand.of_body Bd
  have e0 : s₁.heap = h0 := by rw [← hh, Bd.state]; rfl
  have N0 := Fr.nil n0
  refine own_Goes.of ?_
  refine own_Goes.nm (fun P hPP => ?_)
  refine own_Goes.st ?_ (fun _ k => castTop (own_ef_rnn m a b) k)
  show own_Goes p.tables e below P (s₁.setTop (mkF m 0 #[.val (.ref a), .val (.ref b)] []))
  refine own_Goes.st ?_ (fun _ k => XS.aloadN X0.here hx rfl (hb hby own_d_jdk_31_method_11_0) rfl rfl k)
  show own_Goes p.tables e below P (s₁.setTop (mkF m 1 #[.val (.ref a), .val (.ref b)] [(.ref a)]))
  refine own_Goes.st ?_ (fun _ k => XS.ifnonnullYes X0.here hx rfl (pc0 := 1) (pc' := 13) rfl (hb hby own_d_jdk_31_method_11_1) rfl (by decide) (by decide) k)
  show own_Goes p.tables e below P (s₁.setTop (mkF m 13 #[.val (.ref a), .val (.ref b)] []))
  refine own_Goes.st ?_ (fun _ k => XS.aloadN X0.here hx rfl (hb hby own_d_jdk_31_method_11_13) rfl rfl k)
  show own_Goes p.tables e below P (s₁.setTop (mkF m 14 #[.val (.ref a), .val (.ref b)] [(.ref a)]))
  obtain ⟨fs, hr, hrun, hended, hW, hsame⟩ := X0.leave (v := some (.ref a)) (fun h => by rw [Bd.returns] at h; cases h)
  exact own_Goes.fin _ _ (retOut X0 hx (t := (.object "java/lang/Object")) Bd.returns rfl (Or.inr (Or.inr (Or.inr (Or.inr ⟨rfl, rfl, rfl⟩)))) (hb hby own_d_jdk_31_method_11_14) hr) (hPP _ _ ⟨hrun, hended, _, _, rfl, (by show Q_rnn Z a b h0 n0 _ s₁.heap _; rw [e0]; exact ⟨rfl, N0, rfl⟩), ⟨_, rfl⟩, hW, hsame.mono (by decide) (by decide)⟩)
theorem own_ef_pnew (m : MethodId) (x0 : Addr) (x1 : Addr) (x2 : Int32) : entryFrame m #[(.ref x0), (.ref x1), (.int x2)] 3 = mkF m 0 #[.val (.ref x0), .val (.ref x1), .val (.int x2)] [] := by first | (simp [entryFrame, mkF, argsToLocals, Value.category]; done) | rfl
theorem own_pn_com_example_usnea_usnea_datalog_Predicate : plainName "com/example/usnea/usnea/datalog/Predicate" = true := by first | (simp [plainName, overriddenIn]; done) | decide +kernel
theorem own_d_prog_13_method_1_0 : decode prog_13_method_1_code 0 = .ok (.aload_n 0, 1) := by decide +kernel
theorem own_d_prog_13_method_1_1 : decode prog_13_method_1_code 1 = .ok (.invokespecial 1, 3) := by decide +kernel
theorem own_d_prog_13_method_1_4 : decode prog_13_method_1_code 4 = .ok (.iload_n 2, 1) := by decide +kernel
theorem own_d_prog_13_method_1_5 : decode prog_13_method_1_code 5 = .ok (.ifCond .ge 17, 3) := by decide +kernel
theorem own_d_prog_13_method_1_22 : decode prog_13_method_1_code 22 = .ok (.aload_n 0, 1) := by decide +kernel
theorem own_d_prog_13_method_1_23 : decode prog_13_method_1_code 23 = .ok (.aload_n 1, 1) := by decide +kernel
theorem own_d_prog_13_method_1_24 : decode prog_13_method_1_code 24 = .ok (.ldc 16, 2) := by decide +kernel
theorem own_pd__28_Ljava_2f_lang_2f_Object_3b_Ljava_2f_lang_2f_String_3b__29_Ljava_2f_lang_2f_Object_3b_ : parseMethodDescriptor "(Ljava/lang/Object;Ljava/lang/String;)Ljava/lang/Object;" = some ⟨[(.object "java/lang/Object"), (.object "java/lang/String")], some (.object "java/lang/Object")⟩ := by decide +kernel
theorem own_d_prog_13_method_1_26 : decode prog_13_method_1_code 26 = .ok (.invokestatic 18, 3) := by decide +kernel
theorem own_d_prog_13_method_1_29 : decode prog_13_method_1_code 29 = .ok (.checkcast 24, 3) := by decide +kernel
theorem own_d_prog_13_method_1_32 : decode prog_13_method_1_code 32 = .ok (.putfield 26, 3) := by decide +kernel
theorem own_d_prog_13_method_1_35 : decode prog_13_method_1_code 35 = .ok (.aload_n 0, 1) := by decide +kernel
theorem own_d_prog_13_method_1_36 : decode prog_13_method_1_code 36 = .ok (.iload_n 2, 1) := by decide +kernel
theorem own_d_prog_13_method_1_37 : decode prog_13_method_1_code 37 = .ok (.putfield 31, 3) := by decide +kernel
theorem own_d_prog_13_method_1_40 : decode prog_13_method_1_code 40 = .ok (.return_, 1) := by decide +kernel
def Q_pnew (Z : State) (a : Addr) (t : Addr) (r : Int32) (u1 : Value) (u2 : Value) (h0 : Heap) (n0 : Nat) (rv_ : Option Value) (h_ : Heap) (L_ : List Loc) : Prop := rv_ = none ∧ Fr n0 L_ ∧ Keep h0 h_ [a] ∧ (Exa Z h_ a "com/example/usnea/usnea/datalog/Predicate")
set_option maxRecDepth 65536 in
set_option maxHeartbeats 40000000 in
theorem rm_pnew (l : Launch) (Z : State) (a0 : Array Value) (hw : ∀ d ∈ tables_1, d.before a0 Z = true) (ws : List Jvm.Cond) (a : Addr) (t : Addr) (r : Int32) (u1 : Value) (u2 : Value) (h0 : Heap) (n0 : Nat) (Z0 : n0 ≤ h0.size) (hr0 : ¬ r < 0) (pr1 : Exa Z h0 a "com/example/usnea/usnea/datalog/Predicate") (pr2 : Exa Z h0 t "java/lang/String") (pr3 : Fld Z h0 a "com/example/usnea/usnea/datalog/Predicate" "name" "Ljava/lang/String;" u1) (pr4 : Fld Z h0 a "com/example/usnea/usnea/datalog/Predicate" "arity" "I" u2) (pr5 : n0 ≤ a) :
    MetFree l (⟨"com/example/usnea/usnea/datalog/Predicate", "<init>", "(Ljava/lang/String;I)V"⟩ : MethodName) (head1 (Jvm.Cond.code (⟨"com/example/usnea/usnea/datalog/Predicate", "<init>", "(Ljava/lang/String;I)V"⟩ : MethodName) prog_13_method_1_code 3 none :: ws) ({ frames := 1, cells := 2, slots := 20, locals := 14 } : Room)) (fun as_ U => as_ = #[(.ref a), (.ref t), (.int r)] ∧ Z.Warmed39 U.vm ∧ U.heap = h0) (fun _ _ _ _ _ => True) (fun _ U o U' => ∃ rv_ L_, o = .returned rv_ ∧ Q_pnew Z a t r u1 u2 h0 n0 rv_ U'.heap L_ ∧ ReturnedEndW U o U' L_ ({ frames := 1, cells := 2, slots := 20, locals := 14 } : Room).cells ({ frames := 1, cells := 2, slots := 20, locals := 14 } : Room).slots) := by
  refine MetFree.of_bodySF (plainFor_of_name own_pn_com_example_usnea_usnea_datalog_Predicate) hisR ?_
  intro p e s m args below meth c s₁ Bd hml0 hP hK
  obtain ⟨rfl, hZ, hh⟩ := hP
  have hx := Bd.exec
  have hby := Bd.bytes
  have hml : c.maxLocals = 3 := hml0
  have hown : s.vm.findClass "com/example/usnea/usnea/datalog/Predicate" = some m.cls := findClass_of_methodNamed Bd.named
  have hnm := (name_of_methodNamed Bd.named Bd.method).1
  have X0 : Stand p l e ({ frames := 1, cells := 2, slots := 20, locals := 14 } : Room) (s.setVm s.vm) m #[(.ref a), (.ref t), (.int r)] below meth c s₁ [] 0 0 := Stand.of_body Bd
  have e0 : s₁.heap = h0 := by rw [← hh, Bd.state]; rfl
  have hS0 : s.Since s.vm 0 := (State.WarmedH.refl s).since 0
  have hk0 : 0 ≤ h0.size := Nat.zero_le _
  have N0 := Fr.nil n0
  refine own_Goes.of ?_
  refine own_Goes.nm (fun P hPP => ?_)
  refine own_Goes.st ?_ (fun _ k => castTop (own_ef_pnew m a t r) k)
  have K0 : Keep h0 h0 [a] := Keep.refl _ _
  show own_Goes p.tables e below P (s₁.setTop (mkF m 0 #[.val (.ref a), .val (.ref t), .val (.int r)] []))
  refine own_Goes.st ?_ (fun _ k => XS.aloadN X0.here hx rfl (hb hby own_d_prog_13_method_1_0) rfl rfl k)
  show own_Goes p.tables e below P (s₁.setTop (mkF m 1 #[.val (.ref a), .val (.ref t), .val (.int r)] [(.ref a)]))
  obtain ⟨T1, X1, e1, st1⟩ := initO X0 hx hZ hown (hw _ (List.mem_of_getElem? (i := 33) rfl)) (hw _ (List.mem_of_getElem? (i := 23) rfl)) (hw _ (List.mem_of_getElem? (i := 24) rfl)) e0 (g := (mkF m 1 #[.val (.ref a), .val (.ref t), .val (.int r)] [(.ref a)])) rfl (by rw [hml]; rfl) rfl (hb hby own_d_prog_13_method_1_1) (by decide) (W := 0) (by show 2 * 0 + _ ≤ _; exact Nat.le_of_eq rfl) (by decide)
  refine own_Goes.st ?_ st1
  show own_Goes p.tables e below P (T1.setTop (mkF m 4 #[.val (.ref a), .val (.ref t), .val (.int r)] []))
  refine own_Goes.st ?_ (fun _ k => XS.iloadN X1.here hx rfl (hb hby own_d_prog_13_method_1_4) rfl k)
  show own_Goes p.tables e below P (T1.setTop (mkF m 5 #[.val (.ref a), .val (.ref t), .val (.int r)] [(.int r)]))
  refine own_Goes.st ?_ (fun _ k => XS.ifYes X1.here hx rfl (pc0 := 5) (pc' := 22) rfl (hb hby own_d_prog_13_method_1_5) rfl ((if0 _ _).trans (flt hr0).2.1) (by decide) (by decide) k)
  show own_Goes p.tables e below P (T1.setTop (mkF m 22 #[.val (.ref a), .val (.ref t), .val (.int r)] []))
  refine own_Goes.st ?_ (fun _ k => XS.aloadN X1.here hx rfl (hb hby own_d_prog_13_method_1_22) rfl rfl k)
  show own_Goes p.tables e below P (T1.setTop (mkF m 23 #[.val (.ref a), .val (.ref t), .val (.int r)] [(.ref a)]))
  refine own_Goes.st ?_ (fun _ k => XS.aloadN X1.here hx rfl (hb hby own_d_prog_13_method_1_23) rfl rfl k)
  show own_Goes p.tables e below P (T1.setTop (mkF m 24 #[.val (.ref a), .val (.ref t), .val (.int r)] [(.ref t), (.ref a)]))
  obtain ⟨c2, T2, h2, kk2, X2, e2, E2, hS2, hk2, hZ2, hown2, st2⟩ := ldcS X1 hx hZ hown (hw _ (List.mem_of_getElem? (i := 34) rfl)) (own_satoms a0 Z hw) e1 hS0 hk0 (g := (mkF m 24 #[.val (.ref a), .val (.ref t), .val (.int r)] [(.ref t), (.ref a)])) rfl (hb hby own_d_prog_13_method_1_24) (n := 16) (by decide) (by decide) (by decide) (by decide)
  refine own_Goes.st ?_ st2
  have Z3 : n0 ≤ h2.size := Nat.le_trans Z0 E2.1
  have K4 := K0.ext E2
  have hk5 := Nat.le_trans hk0 E2.1
  show own_Goes p.tables e below P (T2.setTop (mkF m 26 #[.val (.ref a), .val (.ref t), .val (.int r)] [(.ref c2), (.ref t), (.ref a)]))
  obtain ⟨_, _, ⟨T6, L6, k6, n6⟩, -, X6, ⟨Lc6, hQ6, l6, y6, z6⟩, st6⟩ := Jvm.LawKit.callS X2 hx (y := (⟨"java/util/Objects", "requireNonNull", "(Ljava/lang/Object;Ljava/lang/String;)Ljava/lang/Object;"⟩ : MethodName)) hown2 (mvT hZ2 (hw _ (List.mem_of_getElem? (i := 37) rfl))) (mvT hZ2 (hw _ (List.mem_of_getElem? (i := 38) rfl))) (mvT hZ2 (hw _ (List.mem_of_getElem? (i := 39) rfl))) (mvT hZ2 (hw _ (List.mem_of_getElem? (i := 40) rfl))) (by decide) (backOf (W := 1) (rm_rnn l Z a0 hw [] t c2 h2 n0 Z3) hZ2 (hw _ (List.mem_of_getElem? (i := 40) rfl)) (hw _ (List.mem_of_getElem? (i := 39) rfl)) (by decide) (by decide)) (g := (mkF m 26 #[.val (.ref a), .val (.ref t), .val (.int r)] [(.ref c2), (.ref t), (.ref a)])) rfl (by rw [hml]; rfl) (argsL := [(.ref t), (.ref c2)]) (rest := [(.ref a)]) (lenOf own_pd__28_Ljava_2f_lang_2f_Object_3b_Ljava_2f_lang_2f_String_3b__29_Ljava_2f_lang_2f_Object_3b_ rfl) rfl (by show 2 * 0 + _ ≤ _; exact Nat.le_of_eq rfl) (hb hby own_d_prog_13_method_1_26) (fun _ _ => ⟨rfl, e2, (by decide : 2 + 0 ≤ _), (by decide : 20 + 0 ≤ _)⟩)
  dsimp only [Pt.U, Pt.locs, Pt.cells, Pt.slots] at X6 l6 y6 z6 st6 hQ6
  subst l6 y6 z6
  obtain ⟨rfl, Nq6, e6⟩ := hQ6
  have N6 := Fr.app N0 Nq6
  refine own_Goes.st ?_ st6
  show own_Goes p.tables e below P (T6.setTop (mkF m 29 #[.val (.ref a), .val (.ref t), .val (.int r)] [(.ref t), (.ref a)]))
  have F8 : Exa Z h2 t "java/lang/String" := (pr2.ext E2)
  obtain ⟨T7, X7, e7, st7⟩ := castY X6 hx hZ2 hown2 (hw _ (List.mem_of_getElem? (i := 41) rfl)) e6 (Ins.self F8) (g := (mkF m 29 #[.val (.ref a), .val (.ref t), .val (.int r)] [(.ref t), (.ref a)])) rfl rfl (hb hby own_d_prog_13_method_1_29)
  refine own_Goes.st ?_ st7
  show own_Goes p.tables e below P (T7.setTop (mkF m 32 #[.val (.ref a), .val (.ref t), .val (.int r)] [(.ref t), (.ref a)]))
  have F9 : Fld Z h2 a "com/example/usnea/usnea/datalog/Predicate" "name" "Ljava/lang/String;" u1 := (pr3.ext E2)
  have F10 : Exa Z h2 a "com/example/usnea/usnea/datalog/Predicate" := (pr1.ext E2)
  obtain ⟨T11, h11, X11, e11, W11, st11⟩ := putF X7 hx hZ2 hown2 (host := "") (Or.inl (hw _ (List.mem_of_getElem? (i := 42) rfl))) Via.refl e7 F9 F10 (Or.inr ⟨(hw _ (List.mem_of_getElem? (i := 43) rfl)), rfl, hnm⟩) (hw _ (List.mem_of_getElem? (i := 1) rfl)) (ty := (.object "java/lang/String")) (by decide) rfl rfl (g := (mkF m 32 #[.val (.ref a), .val (.ref t), .val (.int r)] [(.ref t), (.ref a)])) rfl rfl (hb hby own_d_prog_13_method_1_32)
  refine own_Goes.st ?_ st11
  have F12 : Fld Z h11 a "com/example/usnea/usnea/datalog/Predicate" "name" "Ljava/lang/String;" (.ref t) := F9.same W11
  have Z13 : n0 ≤ h11.size := by rw [W11.size]; exact Z3
  have K14 := K4.wr W11 (Or.inl (List.mem_of_getElem? (i := 0) rfl))
  have N15 := Fr.snoc X11 N6 pr5
  have hk16 := Nat.le_trans hk2 (Nat.le_of_eq W11.size.symm)
  show own_Goes p.tables e below P (T11.setTop (mkF m 35 #[.val (.ref a), .val (.ref t), .val (.int r)] []))
  refine own_Goes.st ?_ (fun _ k => XS.aloadN X11.here hx rfl (hb hby own_d_prog_13_method_1_35) rfl rfl k)
  show own_Goes p.tables e below P (T11.setTop (mkF m 36 #[.val (.ref a), .val (.ref t), .val (.int r)] [(.ref a)]))
  refine own_Goes.st ?_ (fun _ k => XS.iloadN X11.here hx rfl (hb hby own_d_prog_13_method_1_36) rfl k)
  show own_Goes p.tables e below P (T11.setTop (mkF m 37 #[.val (.ref a), .val (.ref t), .val (.int r)] [(.int r), (.ref a)]))
  have F17 : Fld Z h11 a "com/example/usnea/usnea/datalog/Predicate" "arity" "I" u2 := ((pr4.ext E2).other W11 (Or.inr (slot_ne (Or.inr (hw _ (List.mem_of_getElem? (i := 45) rfl))) (Or.inr (hw _ (List.mem_of_getElem? (i := 43) rfl))) (by decide) (t := .int) (t' := (.object "java/lang/String")) (by decide) (by decide))))
  have F18 : Exa Z h11 a "com/example/usnea/usnea/datalog/Predicate" := (F10.wr W11)
  obtain ⟨T19, h19, X19, e19, W19, st19⟩ := putF X11 hx hZ2 hown2 (host := "") (Or.inl (hw _ (List.mem_of_getElem? (i := 44) rfl))) Via.refl e11 F17 F18 (Or.inr ⟨(hw _ (List.mem_of_getElem? (i := 45) rfl)), rfl, hnm⟩) (hw _ (List.mem_of_getElem? (i := 1) rfl)) (ty := .int) (by decide) rfl rfl (g := (mkF m 37 #[.val (.ref a), .val (.ref t), .val (.int r)] [(.int r), (.ref a)])) rfl rfl (hb hby own_d_prog_13_method_1_37)
  refine own_Goes.st ?_ st19
  have F20 : Fld Z h19 a "com/example/usnea/usnea/datalog/Predicate" "arity" "I" (.int r) := F17.same W19
  have Z21 : n0 ≤ h19.size := by rw [W19.size]; exact Z13
  have K22 := K14.wr W19 (Or.inl (List.mem_of_getElem? (i := 0) rfl))
  have N23 := Fr.snoc X19 N15 pr5
  have hk24 := Nat.le_trans hk16 (Nat.le_of_eq W19.size.symm)
  show own_Goes p.tables e below P (T19.setTop (mkF m 40 #[.val (.ref a), .val (.ref t), .val (.int r)] []))
  obtain ⟨fs, hr, hrun, hended, -, hW, hI, hsame⟩ := X19.leaveW hS2 (by rw [e19]; exact hk24) (v := none) (fun _ => rfl)
  have F25 : Exa Z h19 a "com/example/usnea/usnea/datalog/Predicate" := (F18.wr W19)
  exact own_Goes.fin _ _ (X19.returnOut hx Bd.returns (hb hby own_d_prog_13_method_1_40) hr) (hPP _ _ ⟨hrun, hended, _, _, rfl, (by show Q_pnew Z a t r u1 u2 h0 n0 _ T19.heap _; rw [e19]; exact ⟨rfl, N23, K22, F25⟩), ⟨_, rfl⟩, hW, hI, hsame.mono (by decide) (by decide)⟩)
theorem own_ef_rec (m : MethodId) (x0 : Addr) : entryFrame m #[(.ref x0)] 1 = mkF m 0 #[.val (.ref x0)] [] := by first | (simp [entryFrame, mkF, argsToLocals, Value.category]; done) | rfl
theorem own_pn_java_lang_Record : plainName "java/lang/Record" = true := by first | (simp [plainName, overriddenIn]; done) | decide +kernel
theorem own_d_jdk_30_method_1_0 : decode jdk_30_method_1_code 0 = .ok (.aload_n 0, 1) := by decide +kernel
theorem own_d_jdk_30_method_1_1 : decode jdk_30_method_1_code 1 = .ok (.invokespecial 1, 3) := by decide +kernel
theorem own_d_jdk_30_method_1_4 : decode jdk_30_method_1_code 4 = .ok (.return_, 1) := by decide +kernel
def Q_rec (Z : State) (a : Addr) (h0 : Heap) (n0 : Nat) (rv_ : Option Value) (h_ : Heap) (L_ : List Loc) : Prop := rv_ = none ∧ Fr n0 L_ ∧ h_ = h0
set_option maxRecDepth 65536 in
set_option maxHeartbeats 40000000 in
theorem rm_rec (l : Launch) (Z : State) (a0 : Array Value) (hw : ∀ d ∈ tables_1, d.before a0 Z = true) (ws : List Jvm.Cond) (a : Addr) (h0 : Heap) (n0 : Nat) (Z0 : n0 ≤ h0.size) :
    MetFree l (⟨"java/lang/Record", "<init>", "()V"⟩ : MethodName) (head1 (Jvm.Cond.code (⟨"java/lang/Record", "<init>", "()V"⟩ : MethodName) jdk_30_method_1_code 1 none :: ws) ({ frames := 1, cells := 0, slots := 0, locals := 12 } : Room)) (fun as_ U => as_ = #[(.ref a)] ∧ Z.Warmed39 U.vm ∧ U.heap = h0) (fun _ _ _ _ _ => True) (fun _ U o U' => ∃ rv_ L_, o = .returned rv_ ∧ Q_rec Z a h0 n0 rv_ U'.heap L_ ∧ FrameEnd U o U' L_ ({ frames := 1, cells := 0, slots := 0, locals := 12 } : Room).cells ({ frames := 1, cells := 0, slots := 0, locals := 12 } : Room).slots) := by
  refine MetFree.of_bodySF (plainFor_of_name own_pn_java_lang_Record) hisR ?_
  intro p e s m args below meth c s₁ Bd hml0 hP hK
  obtain ⟨rfl, hZ, hh⟩ := hP
  have hx := Bd.exec
  have hby := Bd.bytes
  have hml : c.maxLocals = 1 := hml0
  have hown : s.vm.findClass "java/lang/Record" = some m.cls := findClass_of_methodNamed Bd.named
  have hnm := (name_of_methodNamed Bd.named Bd.method).1
  have X0 : Stand p l e ({ frames := 1, cells := 0, slots := 0, locals := 12 } : Room) s m #[(.ref a)] below meth c s₁ [] 0 0 := Stand.of_body Bd
  have e0 : s₁.heap = h0 := by rw [← hh, Bd.state]; rfl
  have N0 := Fr.nil n0
  refine own_Goes.of ?_
  refine own_Goes.nm (fun P hPP => ?_)
  refine own_Goes.st ?_ (fun _ k => castTop (own_ef_rec m a) k)
  show own_Goes p.tables e below P (s₁.setTop (mkF m 0 #[.val (.ref a)] []))
  refine own_Goes.st ?_ (fun _ k => XS.aloadN X0.here hx rfl (hb hby own_d_jdk_30_method_1_0) rfl rfl k)
  show own_Goes p.tables e below P (s₁.setTop (mkF m 1 #[.val (.ref a)] [(.ref a)]))
  obtain ⟨T1, X1, e1, st1⟩ := initO X0 hx hZ hown (hw _ (List.mem_of_getElem? (i := 57) rfl)) (hw _ (List.mem_of_getElem? (i := 23) rfl)) (hw _ (List.mem_of_getElem? (i := 24) rfl)) e0 (g := (mkF m 1 #[.val (.ref a)] [(.ref a)])) rfl (by rw [hml]; rfl) rfl (hb hby own_d_jdk_30_method_1_1) (by decide) (W := 0) (by show 2 * 0 + _ ≤ _; exact Nat.le_of_eq rfl) (by decide)
  refine own_Goes.st ?_ st1
  show own_Goes p.tables e below P (T1.setTop (mkF m 4 #[.val (.ref a)] []))
  obtain ⟨fs, hr, hrun, hended, hW, hsame⟩ := X1.leave (v := none) (fun _ => rfl)
  exact own_Goes.fin _ _ (X1.returnOut hx Bd.returns (hb hby own_d_jdk_30_method_1_4) hr) (hPP _ _ ⟨hrun, hended, _, _, rfl, (by show Q_rec Z a h0 n0 _ T1.heap _; rw [e1]; exact ⟨rfl, N0, rfl⟩), ⟨_, rfl⟩, hW, hsame.mono (by decide) (by decide)⟩)
theorem own_ef_rnew0 (m : MethodId) (x0 : Addr) (x1 : Addr) : entryFrame m #[(.ref x0), (.ref x1), (.int (0 : Int32))] 3 = mkF m 0 #[.val (.ref x0), .val (.ref x1), .val (.int (0 : Int32))] [] := by first | (simp [entryFrame, mkF, argsToLocals, Value.category]; done) | rfl
theorem own_pn_com_example_usnea_usnea_reduction_Role : plainName "com/example/usnea/usnea/reduction/Role" = true := by first | (simp [plainName, overriddenIn]; done) | decide +kernel
theorem own_d_prog_29_method_1_0 : decode prog_29_method_1_code 0 = .ok (.aload_n 0, 1) := by decide +kernel
theorem own_pd__28__29_V : parseMethodDescriptor "()V" = some ⟨[], none⟩ := by decide +kernel
theorem own_d_prog_29_method_1_1 : decode prog_29_method_1_code 1 = .ok (.invokespecial 1, 3) := by decide +kernel
theorem own_d_prog_29_method_1_4 : decode prog_29_method_1_code 4 = .ok (.aload_n 0, 1) := by decide +kernel
theorem own_d_prog_29_method_1_5 : decode prog_29_method_1_code 5 = .ok (.aload_n 1, 1) := by decide +kernel
theorem own_d_prog_29_method_1_6 : decode prog_29_method_1_code 6 = .ok (.putfield 7, 3) := by decide +kernel
theorem own_d_prog_29_method_1_9 : decode prog_29_method_1_code 9 = .ok (.aload_n 0, 1) := by decide +kernel
theorem own_d_prog_29_method_1_10 : decode prog_29_method_1_code 10 = .ok (.iload_n 2, 1) := by decide +kernel
theorem own_d_prog_29_method_1_11 : decode prog_29_method_1_code 11 = .ok (.putfield 13, 3) := by decide +kernel
theorem own_d_prog_29_method_1_14 : decode prog_29_method_1_code 14 = .ok (.return_, 1) := by decide +kernel
def Q_rnew0 (Z : State) (a : Addr) (q : Addr) (u1 : Value) (u2 : Value) (h0 : Heap) (n0 : Nat) (rv_ : Option Value) (h_ : Heap) (L_ : List Loc) : Prop := rv_ = none ∧ Fr n0 L_ ∧ Keep h0 h_ [a] ∧ (Exa Z h_ a "com/example/usnea/usnea/reduction/Role") ∧ (Fld Z h_ a "com/example/usnea/usnea/reduction/Role" "predicate" "Lcom/example/usnea/usnea/datalog/Predicate;" (.ref q)) ∧ (Fld Z h_ a "com/example/usnea/usnea/reduction/Role" "inverse" "Z" (.int (0 : Int32)))
set_option maxRecDepth 65536 in
set_option maxHeartbeats 40000000 in
theorem rm_rnew0 (l : Launch) (Z : State) (a0 : Array Value) (hw : ∀ d ∈ tables_1, d.before a0 Z = true) (ws : List Jvm.Cond) (a : Addr) (q : Addr) (u1 : Value) (u2 : Value) (h0 : Heap) (n0 : Nat) (Z0 : n0 ≤ h0.size) (pr0 : Exa Z h0 a "com/example/usnea/usnea/reduction/Role") (pr1 : Fld Z h0 a "com/example/usnea/usnea/reduction/Role" "predicate" "Lcom/example/usnea/usnea/datalog/Predicate;" u1) (pr2 : Fld Z h0 a "com/example/usnea/usnea/reduction/Role" "inverse" "Z" u2) (pr3 : n0 ≤ a) :
    MetFree l (⟨"com/example/usnea/usnea/reduction/Role", "<init>", "(Lcom/example/usnea/usnea/datalog/Predicate;Z)V"⟩ : MethodName) (head1 (Jvm.Cond.code (⟨"com/example/usnea/usnea/reduction/Role", "<init>", "(Lcom/example/usnea/usnea/datalog/Predicate;Z)V"⟩ : MethodName) prog_29_method_1_code 3 none :: ws) ({ frames := 2, cells := 0, slots := 0, locals := 24 } : Room)) (fun as_ U => as_ = #[(.ref a), (.ref q), (.int (0 : Int32))] ∧ Z.Warmed39 U.vm ∧ U.heap = h0) (fun _ _ _ _ _ => True) (fun _ U o U' => ∃ rv_ L_, o = .returned rv_ ∧ Q_rnew0 Z a q u1 u2 h0 n0 rv_ U'.heap L_ ∧ FrameEnd U o U' L_ ({ frames := 2, cells := 0, slots := 0, locals := 24 } : Room).cells ({ frames := 2, cells := 0, slots := 0, locals := 24 } : Room).slots) := by
  refine MetFree.of_bodySF (plainFor_of_name own_pn_com_example_usnea_usnea_reduction_Role) hisR ?_
  intro p e s m args below meth c s₁ Bd hml0 hP hK
  obtain ⟨rfl, hZ, hh⟩ := hP
  have hx := Bd.exec
  have hby := Bd.bytes
  have hml : c.maxLocals = 3 := hml0
  have hown : s.vm.findClass "com/example/usnea/usnea/reduction/Role" = some m.cls := findClass_of_methodNamed Bd.named
  have hnm := (name_of_methodNamed Bd.named Bd.method).1
  have X0 : Stand p l e ({ frames := 2, cells := 0, slots := 0, locals := 24 } : Room) s m #[(.ref a), (.ref q), (.int (0 : Int32))] below meth c s₁ [] 0 0 := Stand.of_body Bd
  have e0 : s₁.heap = h0 := by rw [← hh, Bd.state]; rfl
  have N0 := Fr.nil n0
  refine own_Goes.of ?_
  refine own_Goes.nm (fun P hPP => ?_)
  refine own_Goes.st ?_ (fun _ k => castTop (own_ef_rnew0 m a q) k)
  have K0 : Keep h0 h0 [a] := Keep.refl _ _
  show own_Goes p.tables e below P (s₁.setTop (mkF m 0 #[.val (.ref a), .val (.ref q), .val (.int (0 : Int32))] []))
  refine own_Goes.st ?_ (fun _ k => XS.aloadN X0.here hx rfl (hb hby own_d_prog_29_method_1_0) rfl rfl k)
  show own_Goes p.tables e below P (s₁.setTop (mkF m 1 #[.val (.ref a), .val (.ref q), .val (.int (0 : Int32))] [(.ref a)]))
  obtain ⟨_, _, ⟨T1, L1, k1, n1⟩, -, X1, ⟨Lc1, hQ1, l1, y1, z1⟩, st1⟩ := X0.specialBack hx (y := (⟨"java/lang/Record", "<init>", "()V"⟩ : MethodName)) rfl hown (mvT hZ (hw _ (List.mem_of_getElem? (i := 52) rfl))) (mvT hZ (hw _ (List.mem_of_getElem? (i := 53) rfl))) (mvT hZ (hw _ (List.mem_of_getElem? (i := 56) rfl))) (by decide) (backOf (W := 0) (rm_rec l Z a0 hw [] a h0 n0 Z0) hZ (hw _ (List.mem_of_getElem? (i := 56) rfl)) (hw _ (List.mem_of_getElem? (i := 55) rfl)) (by decide) (by decide)) (g := (mkF m 1 #[.val (.ref a), .val (.ref q), .val (.int (0 : Int32))] [(.ref a)])) rfl (by rw [hml]; rfl) (Steps.refl _) (a := a) (argsL := []) (rest := []) (lenOf own_pd__28__29_V rfl) rfl (by show 2 * 0 + _ ≤ _; exact Nat.le_of_eq rfl) (hb hby own_d_prog_29_method_1_1) (fun _ _ => ⟨rfl, e0, (by decide : 0 + 0 ≤ _), (by decide : 0 + 0 ≤ _)⟩)
  dsimp only [Pt.U, Pt.locs, Pt.cells, Pt.slots] at X1 l1 y1 z1 st1 hQ1
  subst l1 y1 z1
  obtain ⟨rfl, Nq1, e1⟩ := hQ1
  have N1 := Fr.app N0 Nq1
  refine own_Goes.tr st1 ?_
  show own_Goes p.tables e below P (T1.setTop (mkF m 4 #[.val (.ref a), .val (.ref q), .val (.int (0 : Int32))] []))
  refine own_Goes.st ?_ (fun _ k => XS.aloadN X1.here hx rfl (hb hby own_d_prog_29_method_1_4) rfl rfl k)
  show own_Goes p.tables e below P (T1.setTop (mkF m 5 #[.val (.ref a), .val (.ref q), .val (.int (0 : Int32))] [(.ref a)]))
  refine own_Goes.st ?_ (fun _ k => XS.aloadN X1.here hx rfl (hb hby own_d_prog_29_method_1_5) rfl rfl k)
  show own_Goes p.tables e below P (T1.setTop (mkF m 6 #[.val (.ref a), .val (.ref q), .val (.int (0 : Int32))] [(.ref q), (.ref a)]))
  obtain ⟨T2, h2, X2, e2, W2, st2⟩ := putF X1 hx hZ hown (host := "") (Or.inl (hw _ (List.mem_of_getElem? (i := 58) rfl))) Via.refl e1 pr1 pr0 (Or.inr ⟨(hw _ (List.mem_of_getElem? (i := 59) rfl)), rfl, hnm⟩) (hw _ (List.mem_of_getElem? (i := 47) rfl)) (ty := (.object "com/example/usnea/usnea/datalog/Predicate")) (by decide) rfl rfl (g := (mkF m 6 #[.val (.ref a), .val (.ref q), .val (.int (0 : Int32))] [(.ref q), (.ref a)])) rfl rfl (hb hby own_d_prog_29_method_1_6)
  refine own_Goes.st ?_ st2
  have F3 : Fld Z h2 a "com/example/usnea/usnea/reduction/Role" "predicate" "Lcom/example/usnea/usnea/datalog/Predicate;" (.ref q) := pr1.same W2
  have Z4 : n0 ≤ h2.size := by rw [W2.size]; exact Z0
  have K5 := K0.wr W2 (Or.inl (List.mem_of_getElem? (i := 0) rfl))
  have N6 := Fr.snoc X2 N1 pr3
  show own_Goes p.tables e below P (T2.setTop (mkF m 9 #[.val (.ref a), .val (.ref q), .val (.int (0 : Int32))] []))
  refine own_Goes.st ?_ (fun _ k => XS.aloadN X2.here hx rfl (hb hby own_d_prog_29_method_1_9) rfl rfl k)
  show own_Goes p.tables e below P (T2.setTop (mkF m 10 #[.val (.ref a), .val (.ref q), .val (.int (0 : Int32))] [(.ref a)]))
  refine own_Goes.st ?_ (fun _ k => XS.iloadN X2.here hx rfl (hb hby own_d_prog_29_method_1_10) rfl k)
  show own_Goes p.tables e below P (T2.setTop (mkF m 11 #[.val (.ref a), .val (.ref q), .val (.int (0 : Int32))] [(.int (0 : Int32)), (.ref a)]))
  have F7 : Fld Z h2 a "com/example/usnea/usnea/reduction/Role" "inverse" "Z" u2 := (pr2.other W2 (Or.inr (slot_ne (Or.inr (hw _ (List.mem_of_getElem? (i := 61) rfl))) (Or.inr (hw _ (List.mem_of_getElem? (i := 59) rfl))) (by decide) (t := .boolean) (t' := (.object "com/example/usnea/usnea/datalog/Predicate")) (by decide) (by decide))))
  have F8 : Exa Z h2 a "com/example/usnea/usnea/reduction/Role" := (pr0.wr W2)
  obtain ⟨T9, h9, X9, e9, W9, st9⟩ := putF X2 hx hZ hown (host := "") (Or.inl (hw _ (List.mem_of_getElem? (i := 60) rfl))) Via.refl e2 F7 F8 (Or.inr ⟨(hw _ (List.mem_of_getElem? (i := 61) rfl)), rfl, hnm⟩) (hw _ (List.mem_of_getElem? (i := 47) rfl)) (ty := .boolean) (by decide) rfl rfl (g := (mkF m 11 #[.val (.ref a), .val (.ref q), .val (.int (0 : Int32))] [(.int (0 : Int32)), (.ref a)])) rfl rfl (hb hby own_d_prog_29_method_1_11)
  refine own_Goes.st ?_ st9
  have F10 : Fld Z h9 a "com/example/usnea/usnea/reduction/Role" "inverse" "Z" (.int (0 : Int32)) := F7.same W9
  have Z11 : n0 ≤ h9.size := by rw [W9.size]; exact Z4
  have K12 := K5.wr W9 (Or.inl (List.mem_of_getElem? (i := 0) rfl))
  have N13 := Fr.snoc X9 N6 pr3
  show own_Goes p.tables e below P (T9.setTop (mkF m 14 #[.val (.ref a), .val (.ref q), .val (.int (0 : Int32))] []))
  obtain ⟨fs, hr, hrun, hended, hW, hsame⟩ := X9.leave (v := none) (fun _ => rfl)
  have F14 : Exa Z h9 a "com/example/usnea/usnea/reduction/Role" := (F8.wr W9)
  have F15 : Fld Z h9 a "com/example/usnea/usnea/reduction/Role" "predicate" "Lcom/example/usnea/usnea/datalog/Predicate;" (.ref q) := (F3.other W9 (Or.inr (slot_ne (Or.inr (hw _ (List.mem_of_getElem? (i := 59) rfl))) (Or.inr (hw _ (List.mem_of_getElem? (i := 61) rfl))) (by decide) (t := (.object "com/example/usnea/usnea/datalog/Predicate")) (t' := .boolean) (by decide) (by decide))))
  exact own_Goes.fin _ _ (X9.returnOut hx Bd.returns (hb hby own_d_prog_29_method_1_14) hr) (hPP _ _ ⟨hrun, hended, _, _, rfl, (by show Q_rnew0 Z a q u1 u2 h0 n0 _ T9.heap _; rw [e9]; exact ⟨rfl, N13, K12, F14, F15, F10⟩), ⟨_, rfl⟩, hW, hsame.mono (by decide) (by decide)⟩)
theorem own_ef_rnew1 (m : MethodId) (x0 : Addr) (x1 : Addr) : entryFrame m #[(.ref x0), (.ref x1), (.int (1 : Int32))] 3 = mkF m 0 #[.val (.ref x0), .val (.ref x1), .val (.int (1 : Int32))] [] := by first | (simp [entryFrame, mkF, argsToLocals, Value.category]; done) | rfl
def Q_rnew1 (Z : State) (a : Addr) (q : Addr) (u1 : Value) (u2 : Value) (h0 : Heap) (n0 : Nat) (rv_ : Option Value) (h_ : Heap) (L_ : List Loc) : Prop := rv_ = none ∧ Fr n0 L_ ∧ Keep h0 h_ [a] ∧ (Exa Z h_ a "com/example/usnea/usnea/reduction/Role") ∧ (Fld Z h_ a "com/example/usnea/usnea/reduction/Role" "predicate" "Lcom/example/usnea/usnea/datalog/Predicate;" (.ref q)) ∧ (Fld Z h_ a "com/example/usnea/usnea/reduction/Role" "inverse" "Z" (.int (1 : Int32)))
set_option maxRecDepth 65536 in
set_option maxHeartbeats 40000000 in
theorem rm_rnew1 (l : Launch) (Z : State) (a0 : Array Value) (hw : ∀ d ∈ tables_1, d.before a0 Z = true) (ws : List Jvm.Cond) (a : Addr) (q : Addr) (u1 : Value) (u2 : Value) (h0 : Heap) (n0 : Nat) (Z0 : n0 ≤ h0.size) (pr0 : Exa Z h0 a "com/example/usnea/usnea/reduction/Role") (pr1 : Fld Z h0 a "com/example/usnea/usnea/reduction/Role" "predicate" "Lcom/example/usnea/usnea/datalog/Predicate;" u1) (pr2 : Fld Z h0 a "com/example/usnea/usnea/reduction/Role" "inverse" "Z" u2) (pr3 : n0 ≤ a) :
    MetFree l (⟨"com/example/usnea/usnea/reduction/Role", "<init>", "(Lcom/example/usnea/usnea/datalog/Predicate;Z)V"⟩ : MethodName) (head1 (Jvm.Cond.code (⟨"com/example/usnea/usnea/reduction/Role", "<init>", "(Lcom/example/usnea/usnea/datalog/Predicate;Z)V"⟩ : MethodName) prog_29_method_1_code 3 none :: ws) ({ frames := 2, cells := 0, slots := 0, locals := 24 } : Room)) (fun as_ U => as_ = #[(.ref a), (.ref q), (.int (1 : Int32))] ∧ Z.Warmed39 U.vm ∧ U.heap = h0) (fun _ _ _ _ _ => True) (fun _ U o U' => ∃ rv_ L_, o = .returned rv_ ∧ Q_rnew1 Z a q u1 u2 h0 n0 rv_ U'.heap L_ ∧ FrameEnd U o U' L_ ({ frames := 2, cells := 0, slots := 0, locals := 24 } : Room).cells ({ frames := 2, cells := 0, slots := 0, locals := 24 } : Room).slots) := by
  refine MetFree.of_bodySF (plainFor_of_name own_pn_com_example_usnea_usnea_reduction_Role) hisR ?_
  intro p e s m args below meth c s₁ Bd hml0 hP hK
  obtain ⟨rfl, hZ, hh⟩ := hP
  have hx := Bd.exec
  have hby := Bd.bytes
  have hml : c.maxLocals = 3 := hml0
  have hown : s.vm.findClass "com/example/usnea/usnea/reduction/Role" = some m.cls := findClass_of_methodNamed Bd.named
  have hnm := (name_of_methodNamed Bd.named Bd.method).1
  have X0 : Stand p l e ({ frames := 2, cells := 0, slots := 0, locals := 24 } : Room) s m #[(.ref a), (.ref q), (.int (1 : Int32))] below meth c s₁ [] 0 0 := Stand.of_body Bd
  have e0 : s₁.heap = h0 := by rw [← hh, Bd.state]; rfl
  have N0 := Fr.nil n0
  refine own_Goes.of ?_
  refine own_Goes.nm (fun P hPP => ?_)
  refine own_Goes.st ?_ (fun _ k => castTop (own_ef_rnew1 m a q) k)
  have K0 : Keep h0 h0 [a] := Keep.refl _ _
  show own_Goes p.tables e below P (s₁.setTop (mkF m 0 #[.val (.ref a), .val (.ref q), .val (.int (1 : Int32))] []))
  refine own_Goes.st ?_ (fun _ k => XS.aloadN X0.here hx rfl (hb hby own_d_prog_29_method_1_0) rfl rfl k)
  show own_Goes p.tables e below P (s₁.setTop (mkF m 1 #[.val (.ref a), .val (.ref q), .val (.int (1 : Int32))] [(.ref a)]))
  obtain ⟨_, _, ⟨T1, L1, k1, n1⟩, -, X1, ⟨Lc1, hQ1, l1, y1, z1⟩, st1⟩ := X0.specialBack hx (y := (⟨"java/lang/Record", "<init>", "()V"⟩ : MethodName)) rfl hown (mvT hZ (hw _ (List.mem_of_getElem? (i := 52) rfl))) (mvT hZ (hw _ (List.mem_of_getElem? (i := 53) rfl))) (mvT hZ (hw _ (List.mem_of_getElem? (i := 56) rfl))) (by decide) (backOf (W := 0) (rm_rec l Z a0 hw [] a h0 n0 Z0) hZ (hw _ (List.mem_of_getElem? (i := 56) rfl)) (hw _ (List.mem_of_getElem? (i := 55) rfl)) (by decide) (by decide)) (g := (mkF m 1 #[.val (.ref a), .val (.ref q), .val (.int (1 : Int32))] [(.ref a)])) rfl (by rw [hml]; rfl) (Steps.refl _) (a := a) (argsL := []) (rest := []) (lenOf own_pd__28__29_V rfl) rfl (by show 2 * 0 + _ ≤ _; exact Nat.le_of_eq rfl) (hb hby own_d_prog_29_method_1_1) (fun _ _ => ⟨rfl, e0, (by decide : 0 + 0 ≤ _), (by decide : 0 + 0 ≤ _)⟩)
  dsimp only [Pt.U, Pt.locs, Pt.cells, Pt.slots] at X1 l1 y1 z1 st1 hQ1
  subst l1 y1 z1
  obtain ⟨rfl, Nq1, e1⟩ := hQ1
  have N1 := Fr.app N0 Nq1
  refine own_Goes.tr st1 ?_
  show own_Goes p.tables e below P (T1.setTop (mkF m 4 #[.val (.ref a), .val (.ref q), .val (.int (1 : Int32))] []))
  refine own_Goes.st ?_ (fun _ k => XS.aloadN X1.here hx rfl (hb hby own_d_prog_29_method_1_4) rfl rfl k)
  show own_Goes p.tables e below P (T1.setTop (mkF m 5 #[.val (.ref a), .val (.ref q), .val (.int (1 : Int32))] [(.ref a)]))
  refine own_Goes.st ?_ (fun _ k => XS.aloadN X1.here hx rfl (hb hby own_d_prog_29_method_1_5) rfl rfl k)
  show own_Goes p.tables e below P (T1.setTop (mkF m 6 #[.val (.ref a), .val (.ref q), .val (.int (1 : Int32))] [(.ref q), (.ref a)]))
  obtain ⟨T2, h2, X2, e2, W2, st2⟩ := putF X1 hx hZ hown (host := "") (Or.inl (hw _ (List.mem_of_getElem? (i := 58) rfl))) Via.refl e1 pr1 pr0 (Or.inr ⟨(hw _ (List.mem_of_getElem? (i := 59) rfl)), rfl, hnm⟩) (hw _ (List.mem_of_getElem? (i := 47) rfl)) (ty := (.object "com/example/usnea/usnea/datalog/Predicate")) (by decide) rfl rfl (g := (mkF m 6 #[.val (.ref a), .val (.ref q), .val (.int (1 : Int32))] [(.ref q), (.ref a)])) rfl rfl (hb hby own_d_prog_29_method_1_6)
  refine own_Goes.st ?_ st2
  have F3 : Fld Z h2 a "com/example/usnea/usnea/reduction/Role" "predicate" "Lcom/example/usnea/usnea/datalog/Predicate;" (.ref q) := pr1.same W2
  have Z4 : n0 ≤ h2.size := by rw [W2.size]; exact Z0
  have K5 := K0.wr W2 (Or.inl (List.mem_of_getElem? (i := 0) rfl))
  have N6 := Fr.snoc X2 N1 pr3
  show own_Goes p.tables e below P (T2.setTop (mkF m 9 #[.val (.ref a), .val (.ref q), .val (.int (1 : Int32))] []))
  refine own_Goes.st ?_ (fun _ k => XS.aloadN X2.here hx rfl (hb hby own_d_prog_29_method_1_9) rfl rfl k)
  show own_Goes p.tables e below P (T2.setTop (mkF m 10 #[.val (.ref a), .val (.ref q), .val (.int (1 : Int32))] [(.ref a)]))
  refine own_Goes.st ?_ (fun _ k => XS.iloadN X2.here hx rfl (hb hby own_d_prog_29_method_1_10) rfl k)
  show own_Goes p.tables e below P (T2.setTop (mkF m 11 #[.val (.ref a), .val (.ref q), .val (.int (1 : Int32))] [(.int (1 : Int32)), (.ref a)]))
  have F7 : Fld Z h2 a "com/example/usnea/usnea/reduction/Role" "inverse" "Z" u2 := (pr2.other W2 (Or.inr (slot_ne (Or.inr (hw _ (List.mem_of_getElem? (i := 61) rfl))) (Or.inr (hw _ (List.mem_of_getElem? (i := 59) rfl))) (by decide) (t := .boolean) (t' := (.object "com/example/usnea/usnea/datalog/Predicate")) (by decide) (by decide))))
  have F8 : Exa Z h2 a "com/example/usnea/usnea/reduction/Role" := (pr0.wr W2)
  obtain ⟨T9, h9, X9, e9, W9, st9⟩ := putF X2 hx hZ hown (host := "") (Or.inl (hw _ (List.mem_of_getElem? (i := 60) rfl))) Via.refl e2 F7 F8 (Or.inr ⟨(hw _ (List.mem_of_getElem? (i := 61) rfl)), rfl, hnm⟩) (hw _ (List.mem_of_getElem? (i := 47) rfl)) (ty := .boolean) (by decide) rfl rfl (g := (mkF m 11 #[.val (.ref a), .val (.ref q), .val (.int (1 : Int32))] [(.int (1 : Int32)), (.ref a)])) rfl rfl (hb hby own_d_prog_29_method_1_11)
  refine own_Goes.st ?_ st9
  have F10 : Fld Z h9 a "com/example/usnea/usnea/reduction/Role" "inverse" "Z" (.int (1 : Int32)) := F7.same W9
  have Z11 : n0 ≤ h9.size := by rw [W9.size]; exact Z4
  have K12 := K5.wr W9 (Or.inl (List.mem_of_getElem? (i := 0) rfl))
  have N13 := Fr.snoc X9 N6 pr3
  show own_Goes p.tables e below P (T9.setTop (mkF m 14 #[.val (.ref a), .val (.ref q), .val (.int (1 : Int32))] []))
  obtain ⟨fs, hr, hrun, hended, hW, hsame⟩ := X9.leave (v := none) (fun _ => rfl)
  have F14 : Exa Z h9 a "com/example/usnea/usnea/reduction/Role" := (F8.wr W9)
  have F15 : Fld Z h9 a "com/example/usnea/usnea/reduction/Role" "predicate" "Lcom/example/usnea/usnea/datalog/Predicate;" (.ref q) := (F3.other W9 (Or.inr (slot_ne (Or.inr (hw _ (List.mem_of_getElem? (i := 59) rfl))) (Or.inr (hw _ (List.mem_of_getElem? (i := 61) rfl))) (by decide) (t := (.object "com/example/usnea/usnea/datalog/Predicate")) (t' := .boolean) (by decide) (by decide))))
  exact own_Goes.fin _ _ (X9.returnOut hx Bd.returns (hb hby own_d_prog_29_method_1_14) hr) (hPP _ _ ⟨hrun, hended, _, _, rfl, (by show Q_rnew1 Z a q u1 u2 h0 n0 _ T9.heap _; rw [e9]; exact ⟨rfl, N13, K12, F14, F15, F10⟩), ⟨_, rfl⟩, hW, hsame.mono (by decide) (by decide)⟩)
theorem own_ef_inv0 (m : MethodId) (x0 : Addr) : entryFrame m #[(.ref x0)] 1 = mkF m 0 #[.val (.ref x0)] [] := by first | (simp [entryFrame, mkF, argsToLocals, Value.category]; done) | rfl
theorem own_d_prog_29_method_2_0 : decode prog_29_method_2_code 0 = .ok (.new 8, 3) := by decide +kernel
theorem own_d_prog_29_method_2_3 : decode prog_29_method_2_code 3 = .ok (.dup, 1) := by decide +kernel
theorem own_d_prog_29_method_2_4 : decode prog_29_method_2_code 4 = .ok (.aload_n 0, 1) := by decide +kernel
theorem own_d_prog_29_method_2_5 : decode prog_29_method_2_code 5 = .ok (.getfield 7, 3) := by decide +kernel
theorem own_d_prog_29_method_2_8 : decode prog_29_method_2_code 8 = .ok (.aload_n 0, 1) := by decide +kernel
theorem own_d_prog_29_method_2_9 : decode prog_29_method_2_code 9 = .ok (.getfield 13, 3) := by decide +kernel
theorem own_d_prog_29_method_2_12 : decode prog_29_method_2_code 12 = .ok (.ifCond .ne 7, 3) := by decide +kernel
theorem own_d_prog_29_method_2_15 : decode prog_29_method_2_code 15 = .ok (.iconst 1, 1) := by decide +kernel
theorem own_d_prog_29_method_2_16 : decode prog_29_method_2_code 16 = .ok (.goto 4, 3) := by decide +kernel
theorem own_pd__28_Lcom_2f_example_2f_usnea_2f_usnea_2f_datalog_2f_Predicate_3b_Z_29_V : parseMethodDescriptor "(Lcom/example/usnea/usnea/datalog/Predicate;Z)V" = some ⟨[(.object "com/example/usnea/usnea/datalog/Predicate"), .boolean], none⟩ := by decide +kernel
theorem own_d_prog_29_method_2_20 : decode prog_29_method_2_code 20 = .ok (.invokespecial 17, 3) := by decide +kernel
theorem own_d_prog_29_method_2_23 : decode prog_29_method_2_code 23 = .ok (.areturn, 1) := by decide +kernel
def Q_inv0 (Z : State) (a : Addr) (q : Addr) (h0 : Heap) (n0 : Nat) (rv_ : Option Value) (h_ : Heap) (L_ : List Loc) : Prop := ∃ (r : Addr), rv_ = some (.ref r) ∧ Fr n0 L_ ∧ Keep h0 h_ [] ∧ (h0.size ≤ r) ∧ (Exa Z h_ r "com/example/usnea/usnea/reduction/Role") ∧ (Fld Z h_ r "com/example/usnea/usnea/reduction/Role" "predicate" "Lcom/example/usnea/usnea/datalog/Predicate;" (.ref q)) ∧ (Fld Z h_ r "com/example/usnea/usnea/reduction/Role" "inverse" "Z" (.int (1 : Int32)))
set_option maxRecDepth 65536 in
set_option maxHeartbeats 40000000 in
theorem rm_inv0 (l : Launch) (Z : State) (a0 : Array Value) (hw : ∀ d ∈ tables_1, d.before a0 Z = true) (ws : List Jvm.Cond) (a : Addr) (q : Addr) (h0 : Heap) (n0 : Nat) (Z0 : n0 ≤ h0.size) (pr0 : Fld Z h0 a "com/example/usnea/usnea/reduction/Role" "predicate" "Lcom/example/usnea/usnea/datalog/Predicate;" (.ref q)) (pr1 : Fld Z h0 a "com/example/usnea/usnea/reduction/Role" "inverse" "Z" (.int (0 : Int32))) :
    MetFree l (⟨"com/example/usnea/usnea/reduction/Role", "inverted", "()Lcom/example/usnea/usnea/reduction/Role;"⟩ : MethodName) (head1 (Jvm.Cond.code (⟨"com/example/usnea/usnea/reduction/Role", "inverted", "()Lcom/example/usnea/usnea/reduction/Role;"⟩ : MethodName) prog_29_method_2_code 1 (some (.object "com/example/usnea/usnea/reduction/Role")) :: ws) ({ frames := 3, cells := 1, slots := 2, locals := 39 } : Room)) (fun as_ U => as_ = #[(.ref a)] ∧ Z.Warmed39 U.vm ∧ U.heap = h0) (fun _ _ _ _ _ => True) (fun _ U o U' => ∃ rv_ L_, o = .returned rv_ ∧ Q_inv0 Z a q h0 n0 rv_ U'.heap L_ ∧ FrameEnd U o U' L_ ({ frames := 3, cells := 1, slots := 2, locals := 39 } : Room).cells ({ frames := 3, cells := 1, slots := 2, locals := 39 } : Room).slots) := by
  refine MetFree.of_bodySF (plainFor_of_name own_pn_com_example_usnea_usnea_reduction_Role) hisR ?_
  intro p e s m args below meth c s₁ Bd hml0 hP hK
  obtain ⟨rfl, hZ, hh⟩ := hP
  have hx := Bd.exec
  have hby := Bd.bytes
  have hml : c.maxLocals = 1 := hml0
  have hown : s.vm.findClass "com/example/usnea/usnea/reduction/Role" = some m.cls := findClass_of_methodNamed Bd.named
  have hnm := (name_of_methodNamed Bd.named Bd.method).1
  have X0 : Stand p l e ({ frames := 3, cells := 1, slots := 2, locals := 39 } : Room) s m #[(.ref a)] below meth c s₁ [] 0 0 := Stand.of_body Bd
  have e0 : s₁.heap = h0 := by rw [← hh, Bd.state]; rfl
  have N0 := Fr.nil n0
  refine own_Goes.of ?_
  refine own_Goes.nm (fun P hPP => ?_)
  refine own_Goes.st ?_ (fun _ k => castTop (own_ef_inv0 m a) k)
  have K0 : Keep h0 h0 [] := Keep.refl _ _
  show own_Goes p.tables e below P (s₁.setTop (mkF m 0 #[.val (.ref a)] []))
  obtain ⟨T1, h1, X1, e1, E1, A1, D1, -, st1⟩ := newO X0 hx hZ hown (hw _ (List.mem_of_getElem? (i := 67) rfl)) (hw _ (List.mem_of_getElem? (i := 47) rfl)) (hw _ (List.mem_of_getElem? (i := 48) rfl)) e0 (g := (mkF m 0 #[.val (.ref a)] [])) rfl (hb hby own_d_prog_29_method_2_0) (by decide) (by decide)
  obtain ⟨a1, g1⟩ : ∃ z, z = h0.size := ⟨_, rfl⟩
  rw [← g1] at A1 D1 st1
  have ne2 : a ≠ a1 := Nat.ne_of_lt (Nat.lt_of_lt_of_eq pr0.lt g1.symm)
  have ge_a1 : n0 ≤ a1 := Nat.le_trans Z0 (Nat.le_of_eq g1.symm)
  have sz_a1 : h0.size ≤ a1 := Nat.le_trans K0.1 (Nat.le_of_eq g1.symm)
  refine own_Goes.st ?_ st1
  have Z3 : n0 ≤ h1.size := Nat.le_trans Z0 E1.1
  have K4 := K0.ext E1
  have F5 : Fld Z h1 a1 "com/example/usnea/usnea/reduction/Role" "predicate" "Lcom/example/usnea/usnea/datalog/Predicate;" .null := D1 (Or.inr (hw _ (List.mem_of_getElem? (i := 59) rfl))) (ty := (.object "com/example/usnea/usnea/datalog/Predicate")) (by decide)
  have F6 : Fld Z h1 a1 "com/example/usnea/usnea/reduction/Role" "inverse" "Z" (.int (0 : Int32)) := D1 (Or.inr (hw _ (List.mem_of_getElem? (i := 61) rfl))) (ty := .boolean) (by decide)
  show own_Goes p.tables e below P (T1.setTop (mkF m 3 #[.val (.ref a)] [(.ref a1)]))
  refine own_Goes.st ?_ (fun _ k => XS.dup X1.here hx rfl (hb hby own_d_prog_29_method_2_3) rfl rfl k)
  show own_Goes p.tables e below P (T1.setTop (mkF m 4 #[.val (.ref a)] [(.ref a1), (.ref a1)]))
  refine own_Goes.st ?_ (fun _ k => XS.aloadN X1.here hx rfl (hb hby own_d_prog_29_method_2_4) rfl rfl k)
  show own_Goes p.tables e below P (T1.setTop (mkF m 5 #[.val (.ref a)] [(.ref a), (.ref a1), (.ref a1)]))
  have F7 : Fld Z h1 a "com/example/usnea/usnea/reduction/Role" "predicate" "Lcom/example/usnea/usnea/datalog/Predicate;" (.ref q) := (pr0.ext E1)
  obtain ⟨T8, X8, e8, st8⟩ := getF X1 hx hZ hown (host := "") (Or.inl (hw _ (List.mem_of_getElem? (i := 58) rfl))) Via.refl e1 F7 (g := (mkF m 5 #[.val (.ref a)] [(.ref a), (.ref a1), (.ref a1)])) rfl rfl (hb hby own_d_prog_29_method_2_5)
  refine own_Goes.st ?_ st8
  show own_Goes p.tables e below P (T8.setTop (mkF m 8 #[.val (.ref a)] [(.ref q), (.ref a1), (.ref a1)]))
  refine own_Goes.st ?_ (fun _ k => XS.aloadN X8.here hx rfl (hb hby own_d_prog_29_method_2_8) rfl rfl k)
  show own_Goes p.tables e below P (T8.setTop (mkF m 9 #[.val (.ref a)] [(.ref a), (.ref q), (.ref a1), (.ref a1)]))
  have F9 : Fld Z h1 a "com/example/usnea/usnea/reduction/Role" "inverse" "Z" (.int (0 : Int32)) := (pr1.ext E1)
  obtain ⟨T10, X10, e10, st10⟩ := getF X8 hx hZ hown (host := "") (Or.inl (hw _ (List.mem_of_getElem? (i := 60) rfl))) Via.refl e8 F9 (g := (mkF m 9 #[.val (.ref a)] [(.ref a), (.ref q), (.ref a1), (.ref a1)])) rfl rfl (hb hby own_d_prog_29_method_2_9)
  refine own_Goes.st ?_ st10
  show own_Goes p.tables e below P (T10.setTop (mkF m 12 #[.val (.ref a)] [(.int (0 : Int32)), (.ref q), (.ref a1), (.ref a1)]))
  refine own_Goes.st ?_ (fun _ k => XS.ifNo X10.here hx rfl (hb hby own_d_prog_29_method_2_12) rfl ((if0 _ _).trans (teq (by decide : (0 : Int32) = (0 : Int32))).2) k)
  show own_Goes p.tables e below P (T10.setTop (mkF m 15 #[.val (.ref a)] [(.ref q), (.ref a1), (.ref a1)]))
  refine own_Goes.st ?_ (fun _ k => XS.iconst X10.here hx rfl (hb hby own_d_prog_29_method_2_15) k)
  show own_Goes p.tables e below P (T10.setTop (mkF m 16 #[.val (.ref a)] [(.int (1 : Int32)), (.ref q), (.ref a1), (.ref a1)]))
  refine own_Goes.st ?_ (fun _ k => XS.goto X10.here hx rfl (pc0 := 16) (pc' := 20) rfl (hb hby own_d_prog_29_method_2_16) (by decide) (by decide) k)
  show own_Goes p.tables e below P (T10.setTop (mkF m 20 #[.val (.ref a)] [(.int (1 : Int32)), (.ref q), (.ref a1), (.ref a1)]))
  obtain ⟨_, _, ⟨T11, L11, k11, n11⟩, -, X11, ⟨Lc11, hQ11, l11, y11, z11⟩, st11⟩ := X10.specialBack hx (y := (⟨"com/example/usnea/usnea/reduction/Role", "<init>", "(Lcom/example/usnea/usnea/datalog/Predicate;Z)V"⟩ : MethodName)) rfl hown (mvT hZ (hw _ (List.mem_of_getElem? (i := 68) rfl))) (mvT hZ (hw _ (List.mem_of_getElem? (i := 50) rfl))) (mvT hZ (hw _ (List.mem_of_getElem? (i := 51) rfl))) (by decide) (backOf (W := 1) (rm_rnew1 l Z a0 hw [] a1 q .null (.int (0 : Int32)) h1 n0 Z3 A1 F5 F6 ge_a1) hZ (hw _ (List.mem_of_getElem? (i := 51) rfl)) (hw _ (List.mem_of_getElem? (i := 48) rfl)) (by decide) (by decide)) (g := (mkF m 20 #[.val (.ref a)] [(.int (1 : Int32)), (.ref q), (.ref a1), (.ref a1)])) rfl (by rw [hml]; rfl) (Steps.refl _) (a := a1) (argsL := [(.ref q), (.int (1 : Int32))]) (rest := [(.ref a1)]) (lenOf own_pd__28_Lcom_2f_example_2f_usnea_2f_usnea_2f_datalog_2f_Predicate_3b_Z_29_V rfl) rfl (by show 2 * 0 + _ ≤ _; exact Nat.le_of_eq rfl) (hb hby own_d_prog_29_method_2_20) (fun _ _ => ⟨rfl, e10, (by decide : 1 + 0 ≤ _), (by decide : 2 + 0 ≤ _)⟩)
  dsimp only [Pt.U, Pt.locs, Pt.cells, Pt.slots] at X11 l11 y11 z11 st11 hQ11
  subst l11 y11 z11
  obtain ⟨rfl, Nq11, K11, f12, f13, f14⟩ := hQ11
  have N11 := Fr.app N0 Nq11
  refine own_Goes.tr st11 ?_
  have Z15 : n0 ≤ T11.heap.size := Nat.le_trans Z3 K11.1
  have K16 := K4.trans K11 (allS (Or.inr sz_a1) all0)
  show own_Goes p.tables e below P (T11.setTop (mkF m 23 #[.val (.ref a)] [(.ref a1)]))
  obtain ⟨fs, hr, hrun, hended, hW, hsame⟩ := X11.leave (v := some (.ref a1)) (fun h => by rw [Bd.returns] at h; cases h)
  exact own_Goes.fin _ _ (retOut X11 hx (t := (.object "com/example/usnea/usnea/reduction/Role")) Bd.returns rfl (Or.inr (Or.inr (Or.inr (Or.inr ⟨rfl, rfl, rfl⟩)))) (hb hby own_d_prog_29_method_2_23) hr) (hPP _ _ ⟨hrun, hended, _, _, rfl, (by show Q_inv0 Z a q h0 n0 _ T11.heap _; exact ⟨a1, rfl, N11, K16, sz_a1, f12, f13, f14⟩), ⟨_, rfl⟩, hW, hsame.mono (by decide) (by decide)⟩)
theorem own_ef_isv0 (m : MethodId) (x0 : Addr) : entryFrame m #[(.ref x0)] 1 = mkF m 0 #[.val (.ref x0)] [] := by first | (simp [entryFrame, mkF, argsToLocals, Value.category]; done) | rfl
theorem own_d_prog_29_method_9_0 : decode prog_29_method_9_code 0 = .ok (.aload_n 0, 1) := by decide +kernel
theorem own_d_prog_29_method_9_1 : decode prog_29_method_9_code 1 = .ok (.getfield 13, 3) := by decide +kernel
theorem own_d_prog_29_method_9_4 : decode prog_29_method_9_code 4 = .ok (.ireturn, 1) := by decide +kernel
def Q_isv0 (Z : State) (a : Addr) (h0 : Heap) (n0 : Nat) (rv_ : Option Value) (h_ : Heap) (L_ : List Loc) : Prop := rv_ = some (.int (0 : Int32)) ∧ Fr n0 L_ ∧ h_ = h0
set_option maxRecDepth 65536 in
set_option maxHeartbeats 40000000 in
theorem rm_isv0 (l : Launch) (Z : State) (a0 : Array Value) (hw : ∀ d ∈ tables_1, d.before a0 Z = true) (ws : List Jvm.Cond) (a : Addr) (h0 : Heap) (n0 : Nat) (Z0 : n0 ≤ h0.size) (pr0 : Fld Z h0 a "com/example/usnea/usnea/reduction/Role" "inverse" "Z" (.int (0 : Int32))) :
    MetFree l (⟨"com/example/usnea/usnea/reduction/Role", "inverse", "()Z"⟩ : MethodName) (head1 (Jvm.Cond.code (⟨"com/example/usnea/usnea/reduction/Role", "inverse", "()Z"⟩ : MethodName) prog_29_method_9_code 1 (some .boolean) :: ws) ({ frames := 0, cells := 0, slots := 0, locals := 0 } : Room)) (fun as_ U => as_ = #[(.ref a)] ∧ Z.Warmed39 U.vm ∧ U.heap = h0) (fun _ _ _ _ _ => True) (fun _ U o U' => ∃ rv_ L_, o = .returned rv_ ∧ Q_isv0 Z a h0 n0 rv_ U'.heap L_ ∧ FrameEnd U o U' L_ ({ frames := 0, cells := 0, slots := 0, locals := 0 } : Room).cells ({ frames := 0, cells := 0, slots := 0, locals := 0 } : Room).slots) := by
  refine MetFree.of_bodySF (plainFor_of_name own_pn_com_example_usnea_usnea_reduction_Role) hisR ?_
  intro p e s m args below meth c s₁ Bd hml0 hP hK
  obtain ⟨rfl, hZ, hh⟩ := hP
  have hx := Bd.exec
  have hby := Bd.bytes
  have hml : c.maxLocals = 1 := hml0
  have hown : s.vm.findClass "com/example/usnea/usnea/reduction/Role" = some m.cls := findClass_of_methodNamed Bd.named
  have hnm := (name_of_methodNamed Bd.named Bd.method).1
  have X0 : Stand p l e ({ frames := 0, cells := 0, slots := 0, locals := 0 } : Room) s m #[(.ref a)] below meth c s₁ [] 0 0 := Stand.of_body Bd
  have e0 : s₁.heap = h0 := by rw [← hh, Bd.state]; rfl
  have N0 := Fr.nil n0
  refine own_Goes.of ?_
  refine own_Goes.nm (fun P hPP => ?_)
  refine own_Goes.st ?_ (fun _ k => castTop (own_ef_isv0 m a) k)
  show own_Goes p.tables e below P (s₁.setTop (mkF m 0 #[.val (.ref a)] []))
  refine own_Goes.st ?_ (fun _ k => XS.aloadN X0.here hx rfl (hb hby own_d_prog_29_method_9_0) rfl rfl k)
  show own_Goes p.tables e below P (s₁.setTop (mkF m 1 #[.val (.ref a)] [(.ref a)]))
  obtain ⟨T1, X1, e1, st1⟩ := getF X0 hx hZ hown (host := "") (Or.inl (hw _ (List.mem_of_getElem? (i := 60) rfl))) Via.refl e0 pr0 (g := (mkF m 1 #[.val (.ref a)] [(.ref a)])) rfl rfl (hb hby own_d_prog_29_method_9_1)
  refine own_Goes.st ?_ st1
  show own_Goes p.tables e below P (T1.setTop (mkF m 4 #[.val (.ref a)] [(.int (0 : Int32))]))
  obtain ⟨fs, hr, hrun, hended, hW, hsame⟩ := X1.leave (v := some (.int (0 : Int32))) (fun h => by rw [Bd.returns] at h; cases h)
  exact own_Goes.fin _ _ (retOut X1 hx (t := .boolean) Bd.returns rfl (Or.inl ⟨rfl, Or.inr (Or.inl rfl), _, rfl⟩) (hb hby own_d_prog_29_method_9_4) hr) (hPP _ _ ⟨hrun, hended, _, _, rfl, (by show Q_isv0 Z a h0 n0 _ T1.heap _; rw [e1]; exact ⟨rfl, N0, rfl⟩), ⟨_, rfl⟩, hW, hsame.mono (by decide) (by decide)⟩)
theorem own_ef_inv1 (m : MethodId) (x0 : Addr) : entryFrame m #[(.ref x0)] 1 = mkF m 0 #[.val (.ref x0)] [] := by first | (simp [entryFrame, mkF, argsToLocals, Value.category]; done) | rfl
theorem own_d_prog_29_method_2_19 : decode prog_29_method_2_code 19 = .ok (.iconst 0, 1) := by decide +kernel
def Q_inv1 (Z : State) (a : Addr) (q : Addr) (h0 : Heap) (n0 : Nat) (rv_ : Option Value) (h_ : Heap) (L_ : List Loc) : Prop := ∃ (r : Addr), rv_ = some (.ref r) ∧ Fr n0 L_ ∧ Keep h0 h_ [] ∧ (h0.size ≤ r) ∧ (Exa Z h_ r "com/example/usnea/usnea/reduction/Role") ∧ (Fld Z h_ r "com/example/usnea/usnea/reduction/Role" "predicate" "Lcom/example/usnea/usnea/datalog/Predicate;" (.ref q)) ∧ (Fld Z h_ r "com/example/usnea/usnea/reduction/Role" "inverse" "Z" (.int (0 : Int32)))
set_option maxRecDepth 65536 in
set_option maxHeartbeats 40000000 in
theorem rm_inv1 (l : Launch) (Z : State) (a0 : Array Value) (hw : ∀ d ∈ tables_1, d.before a0 Z = true) (ws : List Jvm.Cond) (a : Addr) (q : Addr) (h0 : Heap) (n0 : Nat) (Z0 : n0 ≤ h0.size) (pr0 : Fld Z h0 a "com/example/usnea/usnea/reduction/Role" "predicate" "Lcom/example/usnea/usnea/datalog/Predicate;" (.ref q)) (pr1 : Fld Z h0 a "com/example/usnea/usnea/reduction/Role" "inverse" "Z" (.int (1 : Int32))) :
    MetFree l (⟨"com/example/usnea/usnea/reduction/Role", "inverted", "()Lcom/example/usnea/usnea/reduction/Role;"⟩ : MethodName) (head1 (Jvm.Cond.code (⟨"com/example/usnea/usnea/reduction/Role", "inverted", "()Lcom/example/usnea/usnea/reduction/Role;"⟩ : MethodName) prog_29_method_2_code 1 (some (.object "com/example/usnea/usnea/reduction/Role")) :: ws) ({ frames := 3, cells := 1, slots := 2, locals := 39 } : Room)) (fun as_ U => as_ = #[(.ref a)] ∧ Z.Warmed39 U.vm ∧ U.heap = h0) (fun _ _ _ _ _ => True) (fun _ U o U' => ∃ rv_ L_, o = .returned rv_ ∧ Q_inv1 Z a q h0 n0 rv_ U'.heap L_ ∧ FrameEnd U o U' L_ ({ frames := 3, cells := 1, slots := 2, locals := 39 } : Room).cells ({ frames := 3, cells := 1, slots := 2, locals := 39 } : Room).slots) := by
  refine MetFree.of_bodySF (plainFor_of_name own_pn_com_example_usnea_usnea_reduction_Role) hisR ?_
  intro p e s m args below meth c s₁ Bd hml0 hP hK
  obtain ⟨rfl, hZ, hh⟩ := hP
  have hx := Bd.exec
  have hby := Bd.bytes
  have hml : c.maxLocals = 1 := hml0
  have hown : s.vm.findClass "com/example/usnea/usnea/reduction/Role" = some m.cls := findClass_of_methodNamed Bd.named
  have hnm := (name_of_methodNamed Bd.named Bd.method).1
  have X0 : Stand p l e ({ frames := 3, cells := 1, slots := 2, locals := 39 } : Room) s m #[(.ref a)] below meth c s₁ [] 0 0 := Stand.of_body Bd
  have e0 : s₁.heap = h0 := by rw [← hh, Bd.state]; rfl
  have N0 := Fr.nil n0
  refine own_Goes.of ?_
  refine own_Goes.nm (fun P hPP => ?_)
  refine own_Goes.st ?_ (fun _ k => castTop (own_ef_inv1 m a) k)
  have K0 : Keep h0 h0 [] := Keep.refl _ _
  show own_Goes p.tables e below P (s₁.setTop (mkF m 0 #[.val (.ref a)] []))
  obtain ⟨T1, h1, X1, e1, E1, A1, D1, -, st1⟩ := newO X0 hx hZ hown (hw _ (List.mem_of_getElem? (i := 67) rfl)) (hw _ (List.mem_of_getElem? (i := 47) rfl)) (hw _ (List.mem_of_getElem? (i := 48) rfl)) e0 (g := (mkF m 0 #[.val (.ref a)] [])) rfl (hb hby own_d_prog_29_method_2_0) (by decide) (by decide)
  obtain ⟨a1, g1⟩ : ∃ z, z = h0.size := ⟨_, rfl⟩
  rw [← g1] at A1 D1 st1
  have ne2 : a ≠ a1 := Nat.ne_of_lt (Nat.lt_of_lt_of_eq pr0.lt g1.symm)
  have ge_a1 : n0 ≤ a1 := Nat.le_trans Z0 (Nat.le_of_eq g1.symm)
  have sz_a1 : h0.size ≤ a1 := Nat.le_trans K0.1 (Nat.le_of_eq g1.symm)
  refine own_Goes.st ?_ st1
  have Z3 : n0 ≤ h1.size := Nat.le_trans Z0 E1.1
  have K4 := K0.ext E1
  have F5 : Fld Z h1 a1 "com/example/usnea/usnea/reduction/Role" "predicate" "Lcom/example/usnea/usnea/datalog/Predicate;" .null := D1 (Or.inr (hw _ (List.mem_of_getElem? (i := 59) rfl))) (ty := (.object "com/example/usnea/usnea/datalog/Predicate")) (by decide)
  have F6 : Fld Z h1 a1 "com/example/usnea/usnea/reduction/Role" "inverse" "Z" (.int (0 : Int32)) := D1 (Or.inr (hw _ (List.mem_of_getElem? (i := 61) rfl))) (ty := .boolean) (by decide)
  show own_Goes p.tables e below P (T1.setTop (mkF m 3 #[.val (.ref a)] [(.ref a1)]))
  refine own_Goes.st ?_ (fun _ k => XS.dup X1.here hx rfl (hb hby own_d_prog_29_method_2_3) rfl rfl k)
  show own_Goes p.tables e below P (T1.setTop (mkF m 4 #[.val (.ref a)] [(.ref a1), (.ref a1)]))
  refine own_Goes.st ?_ (fun _ k => XS.aloadN X1.here hx rfl (hb hby own_d_prog_29_method_2_4) rfl rfl k)
  show own_Goes p.tables e below P (T1.setTop (mkF m 5 #[.val (.ref a)] [(.ref a), (.ref a1), (.ref a1)]))
  have F7 : Fld Z h1 a "com/example/usnea/usnea/reduction/Role" "predicate" "Lcom/example/usnea/usnea/datalog/Predicate;" (.ref q) := (pr0.ext E1)
  obtain ⟨T8, X8, e8, st8⟩ := getF X1 hx hZ hown (host := "") (Or.inl (hw _ (List.mem_of_getElem? (i := 58) rfl))) Via.refl e1 F7 (g := (mkF m 5 #[.val (.ref a)] [(.ref a), (.ref a1), (.ref a1)])) rfl rfl (hb hby own_d_prog_29_method_2_5)
  refine own_Goes.st ?_ st8
  show own_Goes p.tables e below P (T8.setTop (mkF m 8 #[.val (.ref a)] [(.ref q), (.ref a1), (.ref a1)]))
  refine own_Goes.st ?_ (fun _ k => XS.aloadN X8.here hx rfl (hb hby own_d_prog_29_method_2_8) rfl rfl k)
  show own_Goes p.tables e below P (T8.setTop (mkF m 9 #[.val (.ref a)] [(.ref a), (.ref q), (.ref a1), (.ref a1)]))
  have F9 : Fld Z h1 a "com/example/usnea/usnea/reduction/Role" "inverse" "Z" (.int (1 : Int32)) := (pr1.ext E1)
  obtain ⟨T10, X10, e10, st10⟩ := getF X8 hx hZ hown (host := "") (Or.inl (hw _ (List.mem_of_getElem? (i := 60) rfl))) Via.refl e8 F9 (g := (mkF m 9 #[.val (.ref a)] [(.ref a), (.ref q), (.ref a1), (.ref a1)])) rfl rfl (hb hby own_d_prog_29_method_2_9)
  refine own_Goes.st ?_ st10
  show own_Goes p.tables e below P (T10.setTop (mkF m 12 #[.val (.ref a)] [(.int (1 : Int32)), (.ref q), (.ref a1), (.ref a1)]))
  refine own_Goes.st ?_ (fun _ k => XS.ifYes X10.here hx rfl (pc0 := 12) (pc' := 19) rfl (hb hby own_d_prog_29_method_2_12) rfl ((if0 _ _).trans (feq (by decide : ¬ ((1 : Int32) = (0 : Int32)))).2) (by decide) (by decide) k)
  show own_Goes p.tables e below P (T10.setTop (mkF m 19 #[.val (.ref a)] [(.ref q), (.ref a1), (.ref a1)]))
  refine own_Goes.st ?_ (fun _ k => XS.iconst X10.here hx rfl (hb hby own_d_prog_29_method_2_19) k)
  show own_Goes p.tables e below P (T10.setTop (mkF m 20 #[.val (.ref a)] [(.int (0 : Int32)), (.ref q), (.ref a1), (.ref a1)]))
  obtain ⟨_, _, ⟨T11, L11, k11, n11⟩, -, X11, ⟨Lc11, hQ11, l11, y11, z11⟩, st11⟩ := X10.specialBack hx (y := (⟨"com/example/usnea/usnea/reduction/Role", "<init>", "(Lcom/example/usnea/usnea/datalog/Predicate;Z)V"⟩ : MethodName)) rfl hown (mvT hZ (hw _ (List.mem_of_getElem? (i := 68) rfl))) (mvT hZ (hw _ (List.mem_of_getElem? (i := 50) rfl))) (mvT hZ (hw _ (List.mem_of_getElem? (i := 51) rfl))) (by decide) (backOf (W := 1) (rm_rnew0 l Z a0 hw [] a1 q .null (.int (0 : Int32)) h1 n0 Z3 A1 F5 F6 ge_a1) hZ (hw _ (List.mem_of_getElem? (i := 51) rfl)) (hw _ (List.mem_of_getElem? (i := 48) rfl)) (by decide) (by decide)) (g := (mkF m 20 #[.val (.ref a)] [(.int (0 : Int32)), (.ref q), (.ref a1), (.ref a1)])) rfl (by rw [hml]; rfl) (Steps.refl _) (a := a1) (argsL := [(.ref q), (.int (0 : Int32))]) (rest := [(.ref a1)]) (lenOf own_pd__28_Lcom_2f_example_2f_usnea_2f_usnea_2f_datalog_2f_Predicate_3b_Z_29_V rfl) rfl (by show 2 * 0 + _ ≤ _; exact Nat.le_of_eq rfl) (hb hby own_d_prog_29_method_2_20) (fun _ _ => ⟨rfl, e10, (by decide : 1 + 0 ≤ _), (by decide : 2 + 0 ≤ _)⟩)
  dsimp only [Pt.U, Pt.locs, Pt.cells, Pt.slots] at X11 l11 y11 z11 st11 hQ11
  subst l11 y11 z11
  obtain ⟨rfl, Nq11, K11, f12, f13, f14⟩ := hQ11
  have N11 := Fr.app N0 Nq11
  refine own_Goes.tr st11 ?_
  have Z15 : n0 ≤ T11.heap.size := Nat.le_trans Z3 K11.1
  have K16 := K4.trans K11 (allS (Or.inr sz_a1) all0)
  show own_Goes p.tables e below P (T11.setTop (mkF m 23 #[.val (.ref a)] [(.ref a1)]))
  obtain ⟨fs, hr, hrun, hended, hW, hsame⟩ := X11.leave (v := some (.ref a1)) (fun h => by rw [Bd.returns] at h; cases h)
  exact own_Goes.fin _ _ (retOut X11 hx (t := (.object "com/example/usnea/usnea/reduction/Role")) Bd.returns rfl (Or.inr (Or.inr (Or.inr (Or.inr ⟨rfl, rfl, rfl⟩)))) (hb hby own_d_prog_29_method_2_23) hr) (hPP _ _ ⟨hrun, hended, _, _, rfl, (by show Q_inv1 Z a q h0 n0 _ T11.heap _; exact ⟨a1, rfl, N11, K16, sz_a1, f12, f13, f14⟩), ⟨_, rfl⟩, hW, hsame.mono (by decide) (by decide)⟩)
theorem own_ef_isv1 (m : MethodId) (x0 : Addr) : entryFrame m #[(.ref x0)] 1 = mkF m 0 #[.val (.ref x0)] [] := by first | (simp [entryFrame, mkF, argsToLocals, Value.category]; done) | rfl
def Q_isv1 (Z : State) (a : Addr) (h0 : Heap) (n0 : Nat) (rv_ : Option Value) (h_ : Heap) (L_ : List Loc) : Prop := rv_ = some (.int (1 : Int32)) ∧ Fr n0 L_ ∧ h_ = h0
set_option maxRecDepth 65536 in
set_option maxHeartbeats 40000000 in
theorem rm_isv1 (l : Launch) (Z : State) (a0 : Array Value) (hw : ∀ d ∈ tables_1, d.before a0 Z = true) (ws : List Jvm.Cond) (a : Addr) (h0 : Heap) (n0 : Nat) (Z0 : n0 ≤ h0.size) (pr0 : Fld Z h0 a "com/example/usnea/usnea/reduction/Role" "inverse" "Z" (.int (1 : Int32))) :
    MetFree l (⟨"com/example/usnea/usnea/reduction/Role", "inverse", "()Z"⟩ : MethodName) (head1 (Jvm.Cond.code (⟨"com/example/usnea/usnea/reduction/Role", "inverse", "()Z"⟩ : MethodName) prog_29_method_9_code 1 (some .boolean) :: ws) ({ frames := 0, cells := 0, slots := 0, locals := 0 } : Room)) (fun as_ U => as_ = #[(.ref a)] ∧ Z.Warmed39 U.vm ∧ U.heap = h0) (fun _ _ _ _ _ => True) (fun _ U o U' => ∃ rv_ L_, o = .returned rv_ ∧ Q_isv1 Z a h0 n0 rv_ U'.heap L_ ∧ FrameEnd U o U' L_ ({ frames := 0, cells := 0, slots := 0, locals := 0 } : Room).cells ({ frames := 0, cells := 0, slots := 0, locals := 0 } : Room).slots) := by
  refine MetFree.of_bodySF (plainFor_of_name own_pn_com_example_usnea_usnea_reduction_Role) hisR ?_
  intro p e s m args below meth c s₁ Bd hml0 hP hK
  obtain ⟨rfl, hZ, hh⟩ := hP
  have hx := Bd.exec
  have hby := Bd.bytes
  have hml : c.maxLocals = 1 := hml0
  have hown : s.vm.findClass "com/example/usnea/usnea/reduction/Role" = some m.cls := findClass_of_methodNamed Bd.named
  have hnm := (name_of_methodNamed Bd.named Bd.method).1
  have X0 : Stand p l e ({ frames := 0, cells := 0, slots := 0, locals := 0 } : Room) s m #[(.ref a)] below meth c s₁ [] 0 0 := Stand.of_body Bd
  have e0 : s₁.heap = h0 := by rw [← hh, Bd.state]; rfl
  have N0 := Fr.nil n0
  refine own_Goes.of ?_
  refine own_Goes.nm (fun P hPP => ?_)
  refine own_Goes.st ?_ (fun _ k => castTop (own_ef_isv1 m a) k)
  show own_Goes p.tables e below P (s₁.setTop (mkF m 0 #[.val (.ref a)] []))
  refine own_Goes.st ?_ (fun _ k => XS.aloadN X0.here hx rfl (hb hby own_d_prog_29_method_9_0) rfl rfl k)
  show own_Goes p.tables e below P (s₁.setTop (mkF m 1 #[.val (.ref a)] [(.ref a)]))
  obtain ⟨T1, X1, e1, st1⟩ := getF X0 hx hZ hown (host := "") (Or.inl (hw _ (List.mem_of_getElem? (i := 60) rfl))) Via.refl e0 pr0 (g := (mkF m 1 #[.val (.ref a)] [(.ref a)])) rfl rfl (hb hby own_d_prog_29_method_9_1)
  refine own_Goes.st ?_ st1
  show own_Goes p.tables e below P (T1.setTop (mkF m 4 #[.val (.ref a)] [(.int (1 : Int32))]))
  obtain ⟨fs, hr, hrun, hended, hW, hsame⟩ := X1.leave (v := some (.int (1 : Int32))) (fun h => by rw [Bd.returns] at h; cases h)
  exact own_Goes.fin _ _ (retOut X1 hx (t := .boolean) Bd.returns rfl (Or.inl ⟨rfl, Or.inr (Or.inl rfl), _, rfl⟩) (hb hby own_d_prog_29_method_9_4) hr) (hPP _ _ ⟨hrun, hended, _, _, rfl, (by show Q_isv1 Z a h0 n0 _ T1.heap _; rw [e1]; exact ⟨rfl, N0, rfl⟩), ⟨_, rfl⟩, hW, hsame.mono (by decide) (by decide)⟩)
theorem own_ef_pred (m : MethodId) (x0 : Addr) : entryFrame m #[(.ref x0)] 1 = mkF m 0 #[.val (.ref x0)] [] := by first | (simp [entryFrame, mkF, argsToLocals, Value.category]; done) | rfl
theorem own_d_prog_29_method_8_0 : decode prog_29_method_8_code 0 = .ok (.aload_n 0, 1) := by decide +kernel
theorem own_d_prog_29_method_8_1 : decode prog_29_method_8_code 1 = .ok (.getfield 7, 3) := by decide +kernel
theorem own_d_prog_29_method_8_4 : decode prog_29_method_8_code 4 = .ok (.areturn, 1) := by decide +kernel
def Q_pred (Z : State) (a : Addr) (q : Addr) (h0 : Heap) (n0 : Nat) (rv_ : Option Value) (h_ : Heap) (L_ : List Loc) : Prop := rv_ = some (.ref q) ∧ Fr n0 L_ ∧ h_ = h0
set_option maxRecDepth 65536 in
set_option maxHeartbeats 40000000 in
theorem rm_pred (l : Launch) (Z : State) (a0 : Array Value) (hw : ∀ d ∈ tables_1, d.before a0 Z = true) (ws : List Jvm.Cond) (a : Addr) (q : Addr) (h0 : Heap) (n0 : Nat) (Z0 : n0 ≤ h0.size) (pr0 : Fld Z h0 a "com/example/usnea/usnea/reduction/Role" "predicate" "Lcom/example/usnea/usnea/datalog/Predicate;" (.ref q)) :
    MetFree l (⟨"com/example/usnea/usnea/reduction/Role", "predicate", "()Lcom/example/usnea/usnea/datalog/Predicate;"⟩ : MethodName) (head1 (Jvm.Cond.code (⟨"com/example/usnea/usnea/reduction/Role", "predicate", "()Lcom/example/usnea/usnea/datalog/Predicate;"⟩ : MethodName) prog_29_method_8_code 1 (some (.object "com/example/usnea/usnea/datalog/Predicate")) :: ws) ({ frames := 0, cells := 0, slots := 0, locals := 0 } : Room)) (fun as_ U => as_ = #[(.ref a)] ∧ Z.Warmed39 U.vm ∧ U.heap = h0) (fun _ _ _ _ _ => True) (fun _ U o U' => ∃ rv_ L_, o = .returned rv_ ∧ Q_pred Z a q h0 n0 rv_ U'.heap L_ ∧ FrameEnd U o U' L_ ({ frames := 0, cells := 0, slots := 0, locals := 0 } : Room).cells ({ frames := 0, cells := 0, slots := 0, locals := 0 } : Room).slots) := by
  refine MetFree.of_bodySF (plainFor_of_name own_pn_com_example_usnea_usnea_reduction_Role) hisR ?_
  intro p e s m args below meth c s₁ Bd hml0 hP hK
  obtain ⟨rfl, hZ, hh⟩ := hP
  have hx := Bd.exec
  have hby := Bd.bytes
  have hml : c.maxLocals = 1 := hml0
  have hown : s.vm.findClass "com/example/usnea/usnea/reduction/Role" = some m.cls := findClass_of_methodNamed Bd.named
  have hnm := (name_of_methodNamed Bd.named Bd.method).1
  have X0 : Stand p l e ({ frames := 0, cells := 0, slots := 0, locals := 0 } : Room) s m #[(.ref a)] below meth c s₁ [] 0 0 := Stand.of_body Bd
  have e0 : s₁.heap = h0 := by rw [← hh, Bd.state]; rfl
  have N0 := Fr.nil n0
  refine own_Goes.of ?_
  refine own_Goes.nm (fun P hPP => ?_)
  refine own_Goes.st ?_ (fun _ k => castTop (own_ef_pred m a) k)
  show own_Goes p.tables e below P (s₁.setTop (mkF m 0 #[.val (.ref a)] []))
  refine own_Goes.st ?_ (fun _ k => XS.aloadN X0.here hx rfl (hb hby own_d_prog_29_method_8_0) rfl rfl k)
  show own_Goes p.tables e below P (s₁.setTop (mkF m 1 #[.val (.ref a)] [(.ref a)]))
  obtain ⟨T1, X1, e1, st1⟩ := getF X0 hx hZ hown (host := "") (Or.inl (hw _ (List.mem_of_getElem? (i := 58) rfl))) Via.refl e0 pr0 (g := (mkF m 1 #[.val (.ref a)] [(.ref a)])) rfl rfl (hb hby own_d_prog_29_method_8_1)
  refine own_Goes.st ?_ st1
  show own_Goes p.tables e below P (T1.setTop (mkF m 4 #[.val (.ref a)] [(.ref q)]))
  obtain ⟨fs, hr, hrun, hended, hW, hsame⟩ := X1.leave (v := some (.ref q)) (fun h => by rw [Bd.returns] at h; cases h)
  exact own_Goes.fin _ _ (retOut X1 hx (t := (.object "com/example/usnea/usnea/datalog/Predicate")) Bd.returns rfl (Or.inr (Or.inr (Or.inr (Or.inr ⟨rfl, rfl, rfl⟩)))) (hb hby own_d_prog_29_method_8_4) hr) (hPP _ _ ⟨hrun, hended, _, _, rfl, (by show Q_pred Z a q h0 n0 _ T1.heap _; rw [e1]; exact ⟨rfl, N0, rfl⟩), ⟨_, rfl⟩, hW, hsame.mono (by decide) (by decide)⟩)
theorem own_ef_law (m : MethodId) (x0 : Int32) (x1 : Int32) (x2 : Int32) : entryFrame m #[(.int x0), (.int x1), (.int x2)] maxLocals = mkF m 0 #[.val (.int x0), .val (.int x1), .val (.int x2), .unset, .unset, .unset, .unset, .unset, .unset, .unset, .unset] [] := by first | (simp [entryFrame, mkF, argsToLocals, Value.category, maxLocals]; done) | rfl
theorem own_pn_com_example_usnea_usnea_reduction_RoleInvertedPinLaw : plainName "com/example/usnea/usnea/reduction/RoleInvertedPinLaw" = true := by first | (simp [plainName, overriddenIn]; done) | decide +kernel
theorem own_pd__28_C_29_Ljava_2f_lang_2f_String_3b_ : parseMethodDescriptor "(C)Ljava/lang/String;" = some ⟨[.char], some (.object "java/lang/String")⟩ := by decide +kernel
theorem own_pd__28_Ljava_2f_lang_2f_String_3b_I_29_V : parseMethodDescriptor "(Ljava/lang/String;I)V" = some ⟨[(.object "java/lang/String"), .int], none⟩ := by decide +kernel
theorem own_pd__28__29_Lcom_2f_example_2f_usnea_2f_usnea_2f_reduction_2f_Role_3b_ : parseMethodDescriptor "()Lcom/example/usnea/usnea/reduction/Role;" = some ⟨[], some (.object "com/example/usnea/usnea/reduction/Role")⟩ := by decide +kernel
theorem own_pd__28__29_Lcom_2f_example_2f_usnea_2f_usnea_2f_datalog_2f_Predicate_3b_ : parseMethodDescriptor "()Lcom/example/usnea/usnea/datalog/Predicate;" = some ⟨[], some (.object "com/example/usnea/usnea/datalog/Predicate")⟩ := by decide +kernel
theorem own_pd__28__29_Z : parseMethodDescriptor "()Z" = some ⟨[], some .boolean⟩ := by decide +kernel
def Q_law (n0 : Nat) (v : Option Value) (L : List Loc) : Prop := v = some (.int 1) ∧ Fr n0 L
set_option maxRecDepth 65536 in
set_option maxHeartbeats 40000000 in
theorem rm_law (l : Launch) (Z : State) (a0 : Array Value) (hw : ∀ d ∈ tables_1, d.before a0 Z = true) (ws : List Jvm.Cond) (p0 : Int32) (p1 : Int32) (p2 : Int32) (cs : Int32) (h0 : Heap) (n0 : Nat) (Z0 : n0 ≤ h0.size) (pr0 : Sta Z Z.heap "java/lang/String" "COMPACT_STRINGS" "Z" (.int cs)) (pr1 : Old Z n0 h0) (hcs : ¬ (cs = (0 : Int32))) :
    MetFree l x (head1 (Jvm.Cond.code x code maxLocals ret :: ws) room_1) (fun as_ U => as_ = #[(.int p0), (.int p1), (.int p2)] ∧ Z.Warmed39 U.vm ∧ U.heap = h0) (fun _ _ _ _ _ => True) (fun _ U o U' => ∃ v L, o = .returned v ∧ Q_law n0 v L ∧ ReturnedEndW U o U' L 24 1152) := by
  refine MetFree.of_bodySF (plainFor_of_name own_pn_com_example_usnea_usnea_reduction_RoleInvertedPinLaw) hisR ?_
  intro p e s m args below meth c s₁ Bd hml0 hP hK
  obtain ⟨rfl, hZ, hh⟩ := hP
  have hx := Bd.exec
  have hby := Bd.bytes
  have hml : c.maxLocals = 11 := hml0
  have hown : s.vm.findClass "com/example/usnea/usnea/reduction/RoleInvertedPinLaw" = some m.cls := findClass_of_methodNamed Bd.named
  have hnm := (name_of_methodNamed Bd.named Bd.method).1
  have X0 : Stand p l e room_1 (s.setVm s.vm) m #[(.int p0), (.int p1), (.int p2)] below meth c s₁ [] 0 0 := Stand.of_body Bd
  have e0 : s₁.heap = h0 := by rw [← hh, Bd.state]; rfl
  have hS0 : s.Since s.vm 0 := (State.WarmedH.refl s).since 0
  have hk0 : 0 ≤ h0.size := Nat.zero_le _
  have N0 := Fr.nil n0
  refine own_Goes.of ?_
  refine own_Goes.nm (fun P hPP => ?_)
  refine own_Goes.st ?_ (fun _ k => castTop (own_ef_law m p0 p1 p2) k)
  show own_Goes p.tables e below P (s₁.setTop (mkF m 0 #[.val (.int p0), .val (.int p1), .val (.int p2), .unset, .unset, .unset, .unset, .unset, .unset, .unset, .unset] []))
  refine own_Goes.st ?_ (fun _ k => XS.iloadN X0.here hx rfl (hb hby at_0) rfl k)
  show own_Goes p.tables e below P (s₁.setTop (mkF m 1 #[.val (.int p0), .val (.int p1), .val (.int p2), .unset, .unset, .unset, .unset, .unset, .unset, .unset, .unset] [(.int p0)]))
  refine own_Goes.st ?_ (fun _ k => XS.iconst X0.here hx rfl (hb hby at_1) k)
  show own_Goes p.tables e below P (s₁.setTop (mkF m 2 #[.val (.int p0), .val (.int p1), .val (.int p2), .unset, .unset, .unset, .unset, .unset, .unset, .unset, .unset] [(.int (1 : Int32)), (.int p0)]))
  refine own_Goes.st ?_ (fun _ k => XS.iand X0.here hx rfl (hb hby at_2) rfl k)
  show own_Goes p.tables e below P (s₁.setTop (mkF m 3 #[.val (.int p0), .val (.int p1), .val (.int p2), .unset, .unset, .unset, .unset, .unset, .unset, .unset, .unset] [(.int (p0 &&& (1 : Int32)))]))
  by_cases h1 : (p0 &&& (1 : Int32)) = (0 : Int32)
  · skip
    refine own_Goes.st ?_ (fun _ k => XS.ifYes X0.here hx rfl (pc0 := 3) (pc' := 10) rfl (hb hby at_3) rfl ((if0 _ _).trans (teq h1).1) (by decide) (by decide) k)
    show own_Goes p.tables e below P (s₁.setTop (mkF m 10 #[.val (.int p0), .val (.int p1), .val (.int p2), .unset, .unset, .unset, .unset, .unset, .unset, .unset, .unset] []))
    refine own_Goes.st ?_ (fun _ k => XS.iconst X0.here hx rfl (hb hby at_10) k)
    show own_Goes p.tables e below P (s₁.setTop (mkF m 11 #[.val (.int p0), .val (.int p1), .val (.int p2), .unset, .unset, .unset, .unset, .unset, .unset, .unset, .unset] [(.int (0 : Int32))]))
    refine own_Goes.st ?_ (fun _ k => XS.istoreN X0.here hx rfl (hb hby at_11) rfl (l' := #[.val (.int p0), .val (.int p1), .val (.int p2), .val (.int (0 : Int32)), .unset, .unset, .unset, .unset, .unset, .unset, .unset]) rfl k)
    show own_Goes p.tables e below P (s₁.setTop (mkF m 12 #[.val (.int p0), .val (.int p1), .val (.int p2), .val (.int (0 : Int32)), .unset, .unset, .unset, .unset, .unset, .unset, .unset] []))
    obtain ⟨T1, h1, X1, e1, E1, A1, D1, -, st1⟩ := newO X0 hx hZ hown (hw _ (List.mem_of_getElem? (i := 0) rfl)) (hw _ (List.mem_of_getElem? (i := 1) rfl)) (hw _ (List.mem_of_getElem? (i := 2) rfl)) e0 (g := (mkF m 12 #[.val (.int p0), .val (.int p1), .val (.int p2), .val (.int (0 : Int32)), .unset, .unset, .unset, .unset, .unset, .unset, .unset] [])) rfl (hb hby at_12) (by decide) (by decide)
    obtain ⟨a1, g1⟩ : ∃ z, z = h0.size := ⟨_, rfl⟩
    rw [← g1] at A1 D1 st1
    have ge_a1 : n0 ≤ a1 := Nat.le_trans Z0 (Nat.le_of_eq g1.symm)
    refine own_Goes.st ?_ st1
    have Z2 : n0 ≤ h1.size := Nat.le_trans Z0 E1.1
    have O3 := pr1.ext E1
    have hk4 := Nat.le_trans hk0 E1.1
    have F5 : Fld Z h1 a1 "com/example/usnea/usnea/datalog/Predicate" "name" "Ljava/lang/String;" .null := D1 (Or.inr (hw _ (List.mem_of_getElem? (i := 43) rfl))) (ty := (.object "java/lang/String")) (by decide)
    have F6 : Fld Z h1 a1 "com/example/usnea/usnea/datalog/Predicate" "arity" "I" (.int (0 : Int32)) := D1 (Or.inr (hw _ (List.mem_of_getElem? (i := 45) rfl))) (ty := .int) (by decide)
    show own_Goes p.tables e below P (T1.setTop (mkF m 15 #[.val (.int p0), .val (.int p1), .val (.int p2), .val (.int (0 : Int32)), .unset, .unset, .unset, .unset, .unset, .unset, .unset] [(.ref a1)]))
    refine own_Goes.st ?_ (fun _ k => XS.dup X1.here hx rfl (hb hby at_15) rfl rfl k)
    show own_Goes p.tables e below P (T1.setTop (mkF m 16 #[.val (.int p0), .val (.int p1), .val (.int p2), .val (.int (0 : Int32)), .unset, .unset, .unset, .unset, .unset, .unset, .unset] [(.ref a1), (.ref a1)]))
    refine own_Goes.st ?_ (fun _ k => XS.iloadN X1.here hx rfl (hb hby at_16) rfl k)
    show own_Goes p.tables e below P (T1.setTop (mkF m 17 #[.val (.int p0), .val (.int p1), .val (.int p2), .val (.int (0 : Int32)), .unset, .unset, .unset, .unset, .unset, .unset, .unset] [(.int p1), (.ref a1), (.ref a1)]))
    refine own_Goes.st ?_ (fun _ k => XS.sipush X1.here hx rfl (hb hby at_17) k)
    show own_Goes p.tables e below P (T1.setTop (mkF m 20 #[.val (.int p0), .val (.int p1), .val (.int p2), .val (.int (0 : Int32)), .unset, .unset, .unset, .unset, .unset, .unset, .unset] [(.int (255 : Int32)), (.int p1), (.ref a1), (.ref a1)]))
    refine own_Goes.st ?_ (fun _ k => XS.iand X1.here hx rfl (hb hby at_20) rfl k)
    show own_Goes p.tables e below P (T1.setTop (mkF m 21 #[.val (.int p0), .val (.int p1), .val (.int p2), .val (.int (0 : Int32)), .unset, .unset, .unset, .unset, .unset, .unset, .unset] [(.int (p1 &&& (255 : Int32))), (.ref a1), (.ref a1)]))
    refine own_Goes.st ?_ (fun _ k => XS.i2c X1.here hx rfl (hb hby at_21) rfl k)
    show own_Goes p.tables e below P (T1.setTop (mkF m 22 #[.val (.int p0), .val (.int p1), .val (.int p2), .val (.int (0 : Int32)), .unset, .unset, .unset, .unset, .unset, .unset, .unset] [(.int (((p1 &&& (255 : Int32))).toUInt32.toUInt16.toUInt32.toInt32)), (.ref a1), (.ref a1)]))
    obtain ⟨_, _, ⟨T7, L7, k7, n7⟩, -, X7, ⟨Lc7, hQ7, l7, y7, z7⟩, st7⟩ := Jvm.LawKit.callS X1 hx (y := (⟨"java/lang/String", "valueOf", "(C)Ljava/lang/String;"⟩ : MethodName)) hown (mvT hZ (hw _ (List.mem_of_getElem? (i := 3) rfl))) (mvT hZ (hw _ (List.mem_of_getElem? (i := 4) rfl))) (mvT hZ (hw _ (List.mem_of_getElem? (i := 5) rfl))) (mvT hZ (hw _ (List.mem_of_getElem? (i := 6) rfl))) (by decide) (backOf (W := 2) (rm_vof l Z a0 hw [] (((p1 &&& (255 : Int32))).toUInt32.toUInt16.toUInt32.toInt32) cs h1 n0 Z2 pr0 O3 hcs (own_chr p1)) hZ (hw _ (List.mem_of_getElem? (i := 6) rfl)) (hw _ (List.mem_of_getElem? (i := 5) rfl)) (by decide) (by decide)) (g := (mkF m 22 #[.val (.int p0), .val (.int p1), .val (.int p2), .val (.int (0 : Int32)), .unset, .unset, .unset, .unset, .unset, .unset, .unset] [(.int (((p1 &&& (255 : Int32))).toUInt32.toUInt16.toUInt32.toInt32)), (.ref a1), (.ref a1)])) rfl (by rw [hml]; rfl) (argsL := [(.int (((p1 &&& (255 : Int32))).toUInt32.toUInt16.toUInt32.toInt32))]) (rest := [(.ref a1), (.ref a1)]) (lenOf own_pd__28_C_29_Ljava_2f_lang_2f_String_3b_ rfl) rfl (by show 2 * 0 + _ ≤ _; exact Nat.le_of_eq rfl) (hb hby at_22) (fun _ _ => ⟨rfl, e1, (by decide : 1 + 2 ≤ _), (by decide : 2 + 5 ≤ _)⟩)
    dsimp only [Pt.U, Pt.locs, Pt.cells, Pt.slots] at X7 l7 y7 z7 st7 hQ7
    subst l7 y7 z7
    obtain ⟨r7, rfl, Nq7, K7, f8, f9⟩ := hQ7
    have N7 := Fr.app N0 Nq7
    refine own_Goes.st ?_ st7
    have ne10 : a1 ≠ r7 := Nat.ne_of_lt (Nat.lt_of_lt_of_le A1.lt f8)
    have ge_r7 : n0 ≤ r7 := Nat.le_trans Z2 f8
    have hk11 := Nat.le_trans hk4 K7.1
    have Z12 : n0 ≤ T7.heap.size := Nat.le_trans Z2 K7.1
    have O13 := O3.keep K7 all0
    show own_Goes p.tables e below P (T7.setTop (mkF m 25 #[.val (.int p0), .val (.int p1), .val (.int p2), .val (.int (0 : Int32)), .unset, .unset, .unset, .unset, .unset, .unset, .unset] [(.ref r7), (.ref a1), (.ref a1)]))
    refine own_Goes.st ?_ (fun _ k => XS.iloadN X7.here hx rfl (hb hby at_25) rfl k)
    show own_Goes p.tables e below P (T7.setTop (mkF m 26 #[.val (.int p0), .val (.int p1), .val (.int p2), .val (.int (0 : Int32)), .unset, .unset, .unset, .unset, .unset, .unset, .unset] [(.int p2), (.ref r7), (.ref a1), (.ref a1)]))
    refine own_Goes.st ?_ (X7.ldcInt hx hown (mvT hZ (hw _ (List.mem_of_getElem? (i := 29) rfl))) (g := (mkF m 26 #[.val (.int p0), .val (.int p1), .val (.int p2), .val (.int (0 : Int32)), .unset, .unset, .unset, .unset, .unset, .unset, .unset] [(.int p2), (.ref r7), (.ref a1), (.ref a1)])) rfl (hb hby at_26))
    show own_Goes p.tables e below P (T7.setTop (mkF m 28 #[.val (.int p0), .val (.int p1), .val (.int p2), .val (.int (0 : Int32)), .unset, .unset, .unset, .unset, .unset, .unset, .unset] [(.int (2147483647 : Int32)), (.int p2), (.ref r7), (.ref a1), (.ref a1)]))
    refine own_Goes.st ?_ (fun _ k => XS.iand X7.here hx rfl (hb hby at_28) rfl k)
    show own_Goes p.tables e below P (T7.setTop (mkF m 29 #[.val (.int p0), .val (.int p1), .val (.int p2), .val (.int (0 : Int32)), .unset, .unset, .unset, .unset, .unset, .unset, .unset] [(.int (p2 &&& (2147483647 : Int32))), (.ref r7), (.ref a1), (.ref a1)]))
    have F14 : Exa Z T7.heap a1 "com/example/usnea/usnea/datalog/Predicate" := (A1.keep K7)
    have F15 : Fld Z T7.heap a1 "com/example/usnea/usnea/datalog/Predicate" "name" "Ljava/lang/String;" .null := (F5.keep K7 nin0)
    have F16 : Fld Z T7.heap a1 "com/example/usnea/usnea/datalog/Predicate" "arity" "I" (.int (0 : Int32)) := (F6.keep K7 nin0)
    obtain ⟨_, _, ⟨T17, L17, k17, n17⟩, -, Y17, hU17, gU17, ⟨Lc17, hQ17, l17, y17, z17⟩, st17⟩ := X7.specialBackS hx (y := (⟨"com/example/usnea/usnea/datalog/Predicate", "<init>", "(Ljava/lang/String;I)V"⟩ : MethodName)) rfl hown (mvT hZ (hw _ (List.mem_of_getElem? (i := 30) rfl))) (mvT hZ (hw _ (List.mem_of_getElem? (i := 31) rfl))) (mvT hZ (hw _ (List.mem_of_getElem? (i := 32) rfl))) (by decide) (backOfS (W := 1) (rm_pnew l Z a0 hw [] a1 r7 (p2 &&& (2147483647 : Int32)) .null (.int (0 : Int32)) T7.heap n0 Z12 (own_nn31 p2) F14 f9 F15 F16 ge_a1) hZ (hw _ (List.mem_of_getElem? (i := 32) rfl)) (hw _ (List.mem_of_getElem? (i := 2) rfl)) (by decide) (by decide)) (g := (mkF m 29 #[.val (.int p0), .val (.int p1), .val (.int p2), .val (.int (0 : Int32)), .unset, .unset, .unset, .unset, .unset, .unset, .unset] [(.int (p2 &&& (2147483647 : Int32))), (.ref r7), (.ref a1), (.ref a1)])) rfl (by rw [hml]; rfl) (Steps.refl _) (a := a1) (argsL := [(.ref r7), (.int (p2 &&& (2147483647 : Int32)))]) (rest := [(.ref a1)]) (lenOf own_pd__28_Ljava_2f_lang_2f_String_3b_I_29_V rfl) rfl (by show 2 * 0 + _ ≤ _; exact Nat.le_of_eq rfl) (hb hby at_29) (fun _ _ => ⟨rfl, rfl, (by decide : 3 + 2 ≤ _), (by decide : 7 + 20 ≤ _)⟩)
    dsimp only [Pt.U, Pt.locs, Pt.cells, Pt.slots] at Y17 hU17 gU17 l17 y17 z17 st17 hQ17
    subst l17 y17 z17
    obtain ⟨X17, hS17, hZ17, hown17⟩ := rebS hS0 hk11 Y17 hU17 gU17 hZ hown
    obtain ⟨rfl, Nq17, K17, f18⟩ := hQ17
    have N17 := Fr.app N7 Nq17
    refine own_Goes.tr st17 ?_
    have Z19 : n0 ≤ T17.heap.size := Nat.le_trans Z12 K17.1
    have O20 := O13.keep K17 (allS ge_a1 all0)
    show own_Goes p.tables e below P (T17.setTop (mkF m 32 #[.val (.int p0), .val (.int p1), .val (.int p2), .val (.int (0 : Int32)), .unset, .unset, .unset, .unset, .unset, .unset, .unset] [(.ref a1)]))
    refine own_Goes.st ?_ (fun _ k => XS.astore X17.here hx rfl (hb hby at_32) rfl rfl (l' := #[.val (.int p0), .val (.int p1), .val (.int p2), .val (.int (0 : Int32)), .val (.ref a1), .unset, .unset, .unset, .unset, .unset, .unset]) rfl k)
    show own_Goes p.tables e below P (T17.setTop (mkF m 34 #[.val (.int p0), .val (.int p1), .val (.int p2), .val (.int (0 : Int32)), .val (.ref a1), .unset, .unset, .unset, .unset, .unset, .unset] []))
    obtain ⟨T21, h21, X21, e21, E21, A21, D21, -, st21⟩ := newO X17 hx hZ17 hown17 (hw _ (List.mem_of_getElem? (i := 46) rfl)) (hw _ (List.mem_of_getElem? (i := 47) rfl)) (hw _ (List.mem_of_getElem? (i := 48) rfl)) rfl (g := (mkF m 34 #[.val (.int p0), .val (.int p1), .val (.int p2), .val (.int (0 : Int32)), .val (.ref a1), .unset, .unset, .unset, .unset, .unset, .unset] [])) rfl (hb hby at_34) (by decide) (by decide)
    obtain ⟨a21, g21⟩ : ∃ z, z = T17.heap.size := ⟨_, rfl⟩
    rw [← g21] at A21 D21 st21
    have ne22 : a1 ≠ a21 := Nat.ne_of_lt (Nat.lt_of_lt_of_eq f18.lt g21.symm)
    have F23 : Exa Z T17.heap r7 "java/lang/String" := (f9.keep K17)
    have ne24 : r7 ≠ a21 := Nat.ne_of_lt (Nat.lt_of_lt_of_eq F23.lt g21.symm)
    have ge_a21 : n0 ≤ a21 := Nat.le_trans Z19 (Nat.le_of_eq g21.symm)
    refine own_Goes.st ?_ st21
    have Z25 : n0 ≤ h21.size := Nat.le_trans Z19 E21.1
    have O26 := O20.ext E21
    have hk27 := Nat.le_trans (Nat.le_refl _) E21.1
    have F28 : Fld Z h21 a21 "com/example/usnea/usnea/reduction/Role" "predicate" "Lcom/example/usnea/usnea/datalog/Predicate;" .null := D21 (Or.inr (hw _ (List.mem_of_getElem? (i := 59) rfl))) (ty := (.object "com/example/usnea/usnea/datalog/Predicate")) (by decide)
    have F29 : Fld Z h21 a21 "com/example/usnea/usnea/reduction/Role" "inverse" "Z" (.int (0 : Int32)) := D21 (Or.inr (hw _ (List.mem_of_getElem? (i := 61) rfl))) (ty := .boolean) (by decide)
    show own_Goes p.tables e below P (T21.setTop (mkF m 37 #[.val (.int p0), .val (.int p1), .val (.int p2), .val (.int (0 : Int32)), .val (.ref a1), .unset, .unset, .unset, .unset, .unset, .unset] [(.ref a21)]))
    refine own_Goes.st ?_ (fun _ k => XS.dup X21.here hx rfl (hb hby at_37) rfl rfl k)
    show own_Goes p.tables e below P (T21.setTop (mkF m 38 #[.val (.int p0), .val (.int p1), .val (.int p2), .val (.int (0 : Int32)), .val (.ref a1), .unset, .unset, .unset, .unset, .unset, .unset] [(.ref a21), (.ref a21)]))
    refine own_Goes.st ?_ (fun _ k => XS.aload X21.here hx rfl (hb hby at_38) rfl rfl k)
    show own_Goes p.tables e below P (T21.setTop (mkF m 40 #[.val (.int p0), .val (.int p1), .val (.int p2), .val (.int (0 : Int32)), .val (.ref a1), .unset, .unset, .unset, .unset, .unset, .unset] [(.ref a1), (.ref a21), (.ref a21)]))
    refine own_Goes.st ?_ (fun _ k => XS.iloadN X21.here hx rfl (hb hby at_40) rfl k)
    show own_Goes p.tables e below P (T21.setTop (mkF m 41 #[.val (.int p0), .val (.int p1), .val (.int p2), .val (.int (0 : Int32)), .val (.ref a1), .unset, .unset, .unset, .unset, .unset, .unset] [(.int (0 : Int32)), (.ref a1), (.ref a21), (.ref a21)]))
    obtain ⟨_, _, ⟨T30, L30, k30, n30⟩, -, X30, ⟨Lc30, hQ30, l30, y30, z30⟩, st30⟩ := X21.specialBack hx (y := (⟨"com/example/usnea/usnea/reduction/Role", "<init>", "(Lcom/example/usnea/usnea/datalog/Predicate;Z)V"⟩ : MethodName)) rfl hown17 (mvT hZ17 (hw _ (List.mem_of_getElem? (i := 49) rfl))) (mvT hZ17 (hw _ (List.mem_of_getElem? (i := 50) rfl))) (mvT hZ17 (hw _ (List.mem_of_getElem? (i := 51) rfl))) (by decide) (backOf (W := 1) (rm_rnew0 l Z a0 hw [] a21 a1 .null (.int (0 : Int32)) h21 n0 Z25 A21 F28 F29 ge_a21) hZ17 (hw _ (List.mem_of_getElem? (i := 51) rfl)) (hw _ (List.mem_of_getElem? (i := 48) rfl)) (by decide) (by decide)) (g := (mkF m 41 #[.val (.int p0), .val (.int p1), .val (.int p2), .val (.int (0 : Int32)), .val (.ref a1), .unset, .unset, .unset, .unset, .unset, .unset] [(.int (0 : Int32)), (.ref a1), (.ref a21), (.ref a21)])) rfl (by rw [hml]; rfl) (Steps.refl _) (a := a21) (argsL := [(.ref a1), (.int (0 : Int32))]) (rest := [(.ref a21)]) (lenOf own_pd__28_Lcom_2f_example_2f_usnea_2f_usnea_2f_datalog_2f_Predicate_3b_Z_29_V rfl) rfl (by show 2 * 0 + _ ≤ _; exact Nat.le_of_eq rfl) (hb hby at_41) (fun _ _ => ⟨rfl, e21, (by decide : 6 + 0 ≤ _), (by decide : 29 + 0 ≤ _)⟩)
    dsimp only [Pt.U, Pt.locs, Pt.cells, Pt.slots] at X30 l30 y30 z30 st30 hQ30
    subst l30 y30 z30
    obtain ⟨rfl, Nq30, K30, f31, f32, f33⟩ := hQ30
    have N30 := Fr.app N17 Nq30
    refine own_Goes.tr st30 ?_
    have hk34 := Nat.le_trans hk27 K30.1
    have Z35 : n0 ≤ T30.heap.size := Nat.le_trans Z25 K30.1
    have O36 := O26.keep K30 (allS ge_a21 all0)
    show own_Goes p.tables e below P (T30.setTop (mkF m 44 #[.val (.int p0), .val (.int p1), .val (.int p2), .val (.int (0 : Int32)), .val (.ref a1), .unset, .unset, .unset, .unset, .unset, .unset] [(.ref a21)]))
    refine own_Goes.st ?_ (fun _ k => XS.astore X30.here hx rfl (hb hby at_44) rfl rfl (l' := #[.val (.int p0), .val (.int p1), .val (.int p2), .val (.int (0 : Int32)), .val (.ref a1), .val (.ref a21), .unset, .unset, .unset, .unset, .unset]) rfl k)
    show own_Goes p.tables e below P (T30.setTop (mkF m 46 #[.val (.int p0), .val (.int p1), .val (.int p2), .val (.int (0 : Int32)), .val (.ref a1), .val (.ref a21), .unset, .unset, .unset, .unset, .unset] []))
    refine own_Goes.st ?_ (fun _ k => XS.aload X30.here hx rfl (hb hby at_46) rfl rfl k)
    show own_Goes p.tables e below P (T30.setTop (mkF m 48 #[.val (.int p0), .val (.int p1), .val (.int p2), .val (.int (0 : Int32)), .val (.ref a1), .val (.ref a21), .unset, .unset, .unset, .unset, .unset] [(.ref a21)]))
    obtain ⟨cq37, kq37, q37a, q37b, q37c⟩ := isOf hZ17 rfl f31
    obtain ⟨_, _, ⟨T37, L37, k37, n37⟩, -, X37, ⟨Lc37, hQ37, l37, y37, z37⟩, st37⟩ := X30.virtualBack hx (y := (⟨"com/example/usnea/usnea/reduction/Role", "inverted", "()Lcom/example/usnea/usnea/reduction/Role;"⟩ : MethodName)) (z := (⟨"com/example/usnea/usnea/reduction/Role", "inverted", "()Lcom/example/usnea/usnea/reduction/Role;"⟩ : MethodName)) hown17 (mvT hZ17 (hw _ (List.mem_of_getElem? (i := 62) rfl))) (mvT hZ17 (hw _ (List.mem_of_getElem? (i := 63) rfl))) (notFace_of_selects (args := #[]) (mvT hZ17 (hw _ (List.mem_of_getElem? (i := 65) rfl)))) (mvT hZ17 (hw _ (List.mem_of_getElem? (i := 65) rfl))) (mvT hZ17 (hw _ (List.mem_of_getElem? (i := 64) rfl))) (by decide) (backOf (W := 0) (rm_inv0 l Z a0 hw [] a21 a1 T30.heap n0 Z35 f32 f33) hZ17 (hw _ (List.mem_of_getElem? (i := 66) rfl)) (hw _ (List.mem_of_getElem? (i := 48) rfl)) (by decide) (by decide)) q37a q37c (g := (mkF m 48 #[.val (.int p0), .val (.int p1), .val (.int p2), .val (.int (0 : Int32)), .val (.ref a1), .val (.ref a21), .unset, .unset, .unset, .unset, .unset] [(.ref a21)])) rfl (by rw [hml]; rfl) (Steps.refl _) (argsL := []) (rest := []) (lenOf own_pd__28__29_Lcom_2f_example_2f_usnea_2f_usnea_2f_reduction_2f_Role_3b_ rfl) rfl (by show 2 * 0 + _ ≤ _; exact Nat.le_of_eq rfl) (hb hby at_48) (fun _ _ => ⟨rfl, rfl, (by decide : 6 + 1 ≤ _), (by decide : 29 + 2 ≤ _)⟩)
    dsimp only [Pt.U, Pt.locs, Pt.cells, Pt.slots] at X37 l37 y37 z37 st37 hQ37
    subst l37 y37 z37
    obtain ⟨r37, rfl, Nq37, K37, f38, f39, f40, f41⟩ := hQ37
    have N37 := Fr.app N30 Nq37
    refine own_Goes.tr st37 ?_
    have F42 : Exa Z T30.heap a1 "com/example/usnea/usnea/datalog/Predicate" := ((f18.ext E21).keep K30)
    have ne43 : a1 ≠ r37 := Nat.ne_of_lt (Nat.lt_of_lt_of_le F42.lt f38)
    have F44 : Exa Z T30.heap r7 "java/lang/String" := ((F23.ext E21).keep K30)
    have ne45 : r7 ≠ r37 := Nat.ne_of_lt (Nat.lt_of_lt_of_le F44.lt f38)
    have ne46 : a21 ≠ r37 := Nat.ne_of_lt (Nat.lt_of_lt_of_le f31.lt f38)
    have ge_r37 : n0 ≤ r37 := Nat.le_trans Z35 f38
    have hk47 := Nat.le_trans hk34 K37.1
    have Z48 : n0 ≤ T37.heap.size := Nat.le_trans Z35 K37.1
    have O49 := O36.keep K37 all0
    show own_Goes p.tables e below P (T37.setTop (mkF m 51 #[.val (.int p0), .val (.int p1), .val (.int p2), .val (.int (0 : Int32)), .val (.ref a1), .val (.ref a21), .unset, .unset, .unset, .unset, .unset] [(.ref r37)]))
    refine own_Goes.st ?_ (fun _ k => XS.astore X37.here hx rfl (hb hby at_51) rfl rfl (l' := #[.val (.int p0), .val (.int p1), .val (.int p2), .val (.int (0 : Int32)), .val (.ref a1), .val (.ref a21), .val (.ref r37), .unset, .unset, .unset, .unset]) rfl k)
    show own_Goes p.tables e below P (T37.setTop (mkF m 53 #[.val (.int p0), .val (.int p1), .val (.int p2), .val (.int (0 : Int32)), .val (.ref a1), .val (.ref a21), .val (.ref r37), .unset, .unset, .unset, .unset] []))
    refine own_Goes.st ?_ (fun _ k => XS.aload X37.here hx rfl (hb hby at_53) rfl rfl k)
    show own_Goes p.tables e below P (T37.setTop (mkF m 55 #[.val (.int p0), .val (.int p1), .val (.int p2), .val (.int (0 : Int32)), .val (.ref a1), .val (.ref a21), .val (.ref r37), .unset, .unset, .unset, .unset] [(.ref r37)]))
    obtain ⟨cq50, kq50, q50a, q50b, q50c⟩ := isOf hZ17 rfl f39
    obtain ⟨_, _, ⟨T50, L50, k50, n50⟩, -, X50, ⟨Lc50, hQ50, l50, y50, z50⟩, st50⟩ := X37.virtualBack hx (y := (⟨"com/example/usnea/usnea/reduction/Role", "inverted", "()Lcom/example/usnea/usnea/reduction/Role;"⟩ : MethodName)) (z := (⟨"com/example/usnea/usnea/reduction/Role", "inverted", "()Lcom/example/usnea/usnea/reduction/Role;"⟩ : MethodName)) hown17 (mvT hZ17 (hw _ (List.mem_of_getElem? (i := 62) rfl))) (mvT hZ17 (hw _ (List.mem_of_getElem? (i := 63) rfl))) (notFace_of_selects (args := #[]) (mvT hZ17 (hw _ (List.mem_of_getElem? (i := 65) rfl)))) (mvT hZ17 (hw _ (List.mem_of_getElem? (i := 65) rfl))) (mvT hZ17 (hw _ (List.mem_of_getElem? (i := 64) rfl))) (by decide) (backOf (W := 0) (rm_inv1 l Z a0 hw [] r37 a1 T37.heap n0 Z48 f40 f41) hZ17 (hw _ (List.mem_of_getElem? (i := 66) rfl)) (hw _ (List.mem_of_getElem? (i := 48) rfl)) (by decide) (by decide)) q50a q50c (g := (mkF m 55 #[.val (.int p0), .val (.int p1), .val (.int p2), .val (.int (0 : Int32)), .val (.ref a1), .val (.ref a21), .val (.ref r37), .unset, .unset, .unset, .unset] [(.ref r37)])) rfl (by rw [hml]; rfl) (Steps.refl _) (argsL := []) (rest := []) (lenOf own_pd__28__29_Lcom_2f_example_2f_usnea_2f_usnea_2f_reduction_2f_Role_3b_ rfl) rfl (by show 2 * 0 + _ ≤ _; exact Nat.le_of_eq rfl) (hb hby at_55) (fun _ _ => ⟨rfl, rfl, (by decide : 7 + 1 ≤ _), (by decide : 31 + 2 ≤ _)⟩)
    dsimp only [Pt.U, Pt.locs, Pt.cells, Pt.slots] at X50 l50 y50 z50 st50 hQ50
    subst l50 y50 z50
    obtain ⟨r50, rfl, Nq50, K50, f51, f52, f53, f54⟩ := hQ50
    have N50 := Fr.app N37 Nq50
    refine own_Goes.tr st50 ?_
    have F55 : Exa Z T37.heap a1 "com/example/usnea/usnea/datalog/Predicate" := (F42.keep K37)
    have ne56 : a1 ≠ r50 := Nat.ne_of_lt (Nat.lt_of_lt_of_le F55.lt f51)
    have F57 : Exa Z T37.heap r7 "java/lang/String" := (F44.keep K37)
    have ne58 : r7 ≠ r50 := Nat.ne_of_lt (Nat.lt_of_lt_of_le F57.lt f51)
    have F59 : Exa Z T37.heap a21 "com/example/usnea/usnea/reduction/Role" := (f31.keep K37)
    have ne60 : a21 ≠ r50 := Nat.ne_of_lt (Nat.lt_of_lt_of_le F59.lt f51)
    have ne61 : r37 ≠ r50 := Nat.ne_of_lt (Nat.lt_of_lt_of_le f39.lt f51)
    have ge_r50 : n0 ≤ r50 := Nat.le_trans Z48 f51
    have hk62 := Nat.le_trans hk47 K50.1
    have Z63 : n0 ≤ T50.heap.size := Nat.le_trans Z48 K50.1
    have O64 := O49.keep K50 all0
    show own_Goes p.tables e below P (T50.setTop (mkF m 58 #[.val (.int p0), .val (.int p1), .val (.int p2), .val (.int (0 : Int32)), .val (.ref a1), .val (.ref a21), .val (.ref r37), .unset, .unset, .unset, .unset] [(.ref r50)]))
    refine own_Goes.st ?_ (fun _ k => XS.astore X50.here hx rfl (hb hby at_58) rfl rfl (l' := #[.val (.int p0), .val (.int p1), .val (.int p2), .val (.int (0 : Int32)), .val (.ref a1), .val (.ref a21), .val (.ref r37), .val (.ref r50), .unset, .unset, .unset]) rfl k)
    show own_Goes p.tables e below P (T50.setTop (mkF m 60 #[.val (.int p0), .val (.int p1), .val (.int p2), .val (.int (0 : Int32)), .val (.ref a1), .val (.ref a21), .val (.ref r37), .val (.ref r50), .unset, .unset, .unset] []))
    refine own_Goes.st ?_ (fun _ k => XS.aload X50.here hx rfl (hb hby at_60) rfl rfl k)
    show own_Goes p.tables e below P (T50.setTop (mkF m 62 #[.val (.int p0), .val (.int p1), .val (.int p2), .val (.int (0 : Int32)), .val (.ref a1), .val (.ref a21), .val (.ref r37), .val (.ref r50), .unset, .unset, .unset] [(.ref r37)]))
    have F65 : Fld Z T50.heap r37 "com/example/usnea/usnea/reduction/Role" "predicate" "Lcom/example/usnea/usnea/datalog/Predicate;" (.ref a1) := (f40.keep K50 nin0)
    have F67 : Exa Z T50.heap r37 "com/example/usnea/usnea/reduction/Role" := (f39.keep K50)
    obtain ⟨cq66, kq66, q66a, q66b, q66c⟩ := isOf hZ17 rfl F67
    obtain ⟨_, _, ⟨T66, L66, k66, n66⟩, -, X66, ⟨Lc66, hQ66, l66, y66, z66⟩, st66⟩ := X50.virtualBack hx (y := (⟨"com/example/usnea/usnea/reduction/Role", "predicate", "()Lcom/example/usnea/usnea/datalog/Predicate;"⟩ : MethodName)) (z := (⟨"com/example/usnea/usnea/reduction/Role", "predicate", "()Lcom/example/usnea/usnea/datalog/Predicate;"⟩ : MethodName)) hown17 (mvT hZ17 (hw _ (List.mem_of_getElem? (i := 69) rfl))) (mvT hZ17 (hw _ (List.mem_of_getElem? (i := 70) rfl))) (notFace_of_selects (args := #[]) (mvT hZ17 (hw _ (List.mem_of_getElem? (i := 72) rfl)))) (mvT hZ17 (hw _ (List.mem_of_getElem? (i := 72) rfl))) (mvT hZ17 (hw _ (List.mem_of_getElem? (i := 71) rfl))) (by decide) (backOf (W := 0) (rm_pred l Z a0 hw [] r37 a1 T50.heap n0 Z63 F65) hZ17 (hw _ (List.mem_of_getElem? (i := 73) rfl)) (hw _ (List.mem_of_getElem? (i := 48) rfl)) (by decide) (by decide)) q66a q66c (g := (mkF m 62 #[.val (.int p0), .val (.int p1), .val (.int p2), .val (.int (0 : Int32)), .val (.ref a1), .val (.ref a21), .val (.ref r37), .val (.ref r50), .unset, .unset, .unset] [(.ref r37)])) rfl (by rw [hml]; rfl) (Steps.refl _) (argsL := []) (rest := []) (lenOf own_pd__28__29_Lcom_2f_example_2f_usnea_2f_usnea_2f_datalog_2f_Predicate_3b_ rfl) rfl (by show 2 * 0 + _ ≤ _; exact Nat.le_of_eq rfl) (hb hby at_62) (fun _ _ => ⟨rfl, rfl, (by decide : 8 + 0 ≤ _), (by decide : 33 + 0 ≤ _)⟩)
    dsimp only [Pt.U, Pt.locs, Pt.cells, Pt.slots] at X66 l66 y66 z66 st66 hQ66
    subst l66 y66 z66
    obtain ⟨rfl, Nq66, e66⟩ := hQ66
    have N66 := Fr.app N50 Nq66
    refine own_Goes.tr st66 ?_
    show own_Goes p.tables e below P (T66.setTop (mkF m 65 #[.val (.int p0), .val (.int p1), .val (.int p2), .val (.int (0 : Int32)), .val (.ref a1), .val (.ref a21), .val (.ref r37), .val (.ref r50), .unset, .unset, .unset] [(.ref a1)]))
    refine own_Goes.st ?_ (fun _ k => XS.aload X66.here hx rfl (hb hby at_65) rfl rfl k)
    show own_Goes p.tables e below P (T66.setTop (mkF m 67 #[.val (.int p0), .val (.int p1), .val (.int p2), .val (.int (0 : Int32)), .val (.ref a1), .val (.ref a21), .val (.ref r37), .val (.ref r50), .unset, .unset, .unset] [(.ref a1), (.ref a1)]))
    refine own_Goes.st ?_ (fun _ k => Jvm.RoadKit.acmp (g := (mkF m 67 #[.val (.int p0), .val (.int p1), .val (.int p2), .val (.int (0 : Int32)), .val (.ref a1), .val (.ref a21), .val (.ref r37), .val (.ref r50), .unset, .unset, .unset] [(.ref a1), (.ref a1)])) X66 hx rfl rfl rfl (pc0 := 67) (pc' := 70) (same := true) rfl (hb hby at_67) rfl (decide_eq_true rfl) (by decide) (by decide) k)
    show own_Goes p.tables e below P (T66.setTop (mkF m 70 #[.val (.int p0), .val (.int p1), .val (.int p2), .val (.int (0 : Int32)), .val (.ref a1), .val (.ref a21), .val (.ref r37), .val (.ref r50), .unset, .unset, .unset] []))
    refine own_Goes.st ?_ (fun _ k => XS.aload X66.here hx rfl (hb hby at_70) rfl rfl k)
    show own_Goes p.tables e below P (T66.setTop (mkF m 72 #[.val (.int p0), .val (.int p1), .val (.int p2), .val (.int (0 : Int32)), .val (.ref a1), .val (.ref a21), .val (.ref r37), .val (.ref r50), .unset, .unset, .unset] [(.ref r37)]))
    have F68 : Fld Z T50.heap r37 "com/example/usnea/usnea/reduction/Role" "inverse" "Z" (.int (1 : Int32)) := (f41.keep K50 nin0)
    obtain ⟨cq69, kq69, q69a, q69b, q69c⟩ := isOf hZ17 e66 F67
    obtain ⟨_, _, ⟨T69, L69, k69, n69⟩, -, X69, ⟨Lc69, hQ69, l69, y69, z69⟩, st69⟩ := X66.virtualBack hx (y := (⟨"com/example/usnea/usnea/reduction/Role", "inverse", "()Z"⟩ : MethodName)) (z := (⟨"com/example/usnea/usnea/reduction/Role", "inverse", "()Z"⟩ : MethodName)) hown17 (mvT hZ17 (hw _ (List.mem_of_getElem? (i := 74) rfl))) (mvT hZ17 (hw _ (List.mem_of_getElem? (i := 75) rfl))) (notFace_of_selects (args := #[]) (mvT hZ17 (hw _ (List.mem_of_getElem? (i := 77) rfl)))) (mvT hZ17 (hw _ (List.mem_of_getElem? (i := 77) rfl))) (mvT hZ17 (hw _ (List.mem_of_getElem? (i := 76) rfl))) (by decide) (backOf (W := 0) (rm_isv1 l Z a0 hw [] r37 T50.heap n0 Z63 F68) hZ17 (hw _ (List.mem_of_getElem? (i := 78) rfl)) (hw _ (List.mem_of_getElem? (i := 48) rfl)) (by decide) (by decide)) q69a q69c (g := (mkF m 72 #[.val (.int p0), .val (.int p1), .val (.int p2), .val (.int (0 : Int32)), .val (.ref a1), .val (.ref a21), .val (.ref r37), .val (.ref r50), .unset, .unset, .unset] [(.ref r37)])) rfl (by rw [hml]; rfl) (Steps.refl _) (argsL := []) (rest := []) (lenOf own_pd__28__29_Z rfl) rfl (by show 2 * 0 + _ ≤ _; exact Nat.le_of_eq rfl) (hb hby at_72) (fun _ _ => ⟨rfl, e66, (by decide : 8 + 0 ≤ _), (by decide : 33 + 0 ≤ _)⟩)
    dsimp only [Pt.U, Pt.locs, Pt.cells, Pt.slots] at X69 l69 y69 z69 st69 hQ69
    subst l69 y69 z69
    obtain ⟨rfl, Nq69, e69⟩ := hQ69
    have N69 := Fr.app N66 Nq69
    refine own_Goes.tr st69 ?_
    show own_Goes p.tables e below P (T69.setTop (mkF m 75 #[.val (.int p0), .val (.int p1), .val (.int p2), .val (.int (0 : Int32)), .val (.ref a1), .val (.ref a21), .val (.ref r37), .val (.ref r50), .unset, .unset, .unset] [(.int (1 : Int32))]))
    refine own_Goes.st ?_ (fun _ k => XS.iloadN X69.here hx rfl (hb hby at_75) rfl k)
    show own_Goes p.tables e below P (T69.setTop (mkF m 76 #[.val (.int p0), .val (.int p1), .val (.int p2), .val (.int (0 : Int32)), .val (.ref a1), .val (.ref a21), .val (.ref r37), .val (.ref r50), .unset, .unset, .unset] [(.int (0 : Int32)), (.int (1 : Int32))]))
    refine own_Goes.st ?_ (fun _ k => XS.ifNo X69.here hx rfl (hb hby at_76) rfl ((if0 _ _).trans (teq (by decide : (0 : Int32) = (0 : Int32))).2) k)
    show own_Goes p.tables e below P (T69.setTop (mkF m 79 #[.val (.int p0), .val (.int p1), .val (.int p2), .val (.int (0 : Int32)), .val (.ref a1), .val (.ref a21), .val (.ref r37), .val (.ref r50), .unset, .unset, .unset] [(.int (1 : Int32))]))
    refine own_Goes.st ?_ (fun _ k => XS.iconst X69.here hx rfl (hb hby at_79) k)
    show own_Goes p.tables e below P (T69.setTop (mkF m 80 #[.val (.int p0), .val (.int p1), .val (.int p2), .val (.int (0 : Int32)), .val (.ref a1), .val (.ref a21), .val (.ref r37), .val (.ref r50), .unset, .unset, .unset] [(.int (1 : Int32)), (.int (1 : Int32))]))
    refine own_Goes.st ?_ (fun _ k => XS.goto X69.here hx rfl (pc0 := 80) (pc' := 84) rfl (hb hby at_80) (by decide) (by decide) k)
    show own_Goes p.tables e below P (T69.setTop (mkF m 84 #[.val (.int p0), .val (.int p1), .val (.int p2), .val (.int (0 : Int32)), .val (.ref a1), .val (.ref a21), .val (.ref r37), .val (.ref r50), .unset, .unset, .unset] [(.int (1 : Int32)), (.int (1 : Int32))]))
    refine own_Goes.st ?_ (fun _ k => XS.icmpNo X69.here hx rfl (hb hby at_84) rfl (teq (by decide : (1 : Int32) = (1 : Int32))).2 k)
    show own_Goes p.tables e below P (T69.setTop (mkF m 87 #[.val (.int p0), .val (.int p1), .val (.int p2), .val (.int (0 : Int32)), .val (.ref a1), .val (.ref a21), .val (.ref r37), .val (.ref r50), .unset, .unset, .unset] []))
    refine own_Goes.st ?_ (fun _ k => XS.iconst X69.here hx rfl (hb hby at_87) k)
    show own_Goes p.tables e below P (T69.setTop (mkF m 88 #[.val (.int p0), .val (.int p1), .val (.int p2), .val (.int (0 : Int32)), .val (.ref a1), .val (.ref a21), .val (.ref r37), .val (.ref r50), .unset, .unset, .unset] [(.int (1 : Int32))]))
    refine own_Goes.st ?_ (fun _ k => XS.goto X69.here hx rfl (pc0 := 88) (pc' := 92) rfl (hb hby at_88) (by decide) (by decide) k)
    show own_Goes p.tables e below P (T69.setTop (mkF m 92 #[.val (.int p0), .val (.int p1), .val (.int p2), .val (.int (0 : Int32)), .val (.ref a1), .val (.ref a21), .val (.ref r37), .val (.ref r50), .unset, .unset, .unset] [(.int (1 : Int32))]))
    refine own_Goes.st ?_ (fun _ k => XS.istore X69.here hx rfl (hb hby at_92) rfl (l' := #[.val (.int p0), .val (.int p1), .val (.int p2), .val (.int (0 : Int32)), .val (.ref a1), .val (.ref a21), .val (.ref r37), .val (.ref r50), .val (.int (1 : Int32)), .unset, .unset]) rfl k)
    show own_Goes p.tables e below P (T69.setTop (mkF m 94 #[.val (.int p0), .val (.int p1), .val (.int p2), .val (.int (0 : Int32)), .val (.ref a1), .val (.ref a21), .val (.ref r37), .val (.ref r50), .val (.int (1 : Int32)), .unset, .unset] []))
    refine own_Goes.st ?_ (fun _ k => XS.aload X69.here hx rfl (hb hby at_94) rfl rfl k)
    show own_Goes p.tables e below P (T69.setTop (mkF m 96 #[.val (.int p0), .val (.int p1), .val (.int p2), .val (.int (0 : Int32)), .val (.ref a1), .val (.ref a21), .val (.ref r37), .val (.ref r50), .val (.int (1 : Int32)), .unset, .unset] [(.ref a21)]))
    have F70 : Fld Z T50.heap a21 "com/example/usnea/usnea/reduction/Role" "predicate" "Lcom/example/usnea/usnea/datalog/Predicate;" (.ref a1) := ((f32.keep K37 nin0).keep K50 nin0)
    have F72 : Exa Z T50.heap a21 "com/example/usnea/usnea/reduction/Role" := (F59.keep K50)
    obtain ⟨cq71, kq71, q71a, q71b, q71c⟩ := isOf hZ17 e69 F72
    obtain ⟨_, _, ⟨T71, L71, k71, n71⟩, -, X71, ⟨Lc71, hQ71, l71, y71, z71⟩, st71⟩ := X69.virtualBack hx (y := (⟨"com/example/usnea/usnea/reduction/Role", "predicate", "()Lcom/example/usnea/usnea/datalog/Predicate;"⟩ : MethodName)) (z := (⟨"com/example/usnea/usnea/reduction/Role", "predicate", "()Lcom/example/usnea/usnea/datalog/Predicate;"⟩ : MethodName)) hown17 (mvT hZ17 (hw _ (List.mem_of_getElem? (i := 69) rfl))) (mvT hZ17 (hw _ (List.mem_of_getElem? (i := 70) rfl))) (notFace_of_selects (args := #[]) (mvT hZ17 (hw _ (List.mem_of_getElem? (i := 72) rfl)))) (mvT hZ17 (hw _ (List.mem_of_getElem? (i := 72) rfl))) (mvT hZ17 (hw _ (List.mem_of_getElem? (i := 71) rfl))) (by decide) (backOf (W := 0) (rm_pred l Z a0 hw [] a21 a1 T50.heap n0 Z63 F70) hZ17 (hw _ (List.mem_of_getElem? (i := 73) rfl)) (hw _ (List.mem_of_getElem? (i := 48) rfl)) (by decide) (by decide)) q71a q71c (g := (mkF m 96 #[.val (.int p0), .val (.int p1), .val (.int p2), .val (.int (0 : Int32)), .val (.ref a1), .val (.ref a21), .val (.ref r37), .val (.ref r50), .val (.int (1 : Int32)), .unset, .unset] [(.ref a21)])) rfl (by rw [hml]; rfl) (Steps.refl _) (argsL := []) (rest := []) (lenOf own_pd__28__29_Lcom_2f_example_2f_usnea_2f_usnea_2f_datalog_2f_Predicate_3b_ rfl) rfl (by show 2 * 0 + _ ≤ _; exact Nat.le_of_eq rfl) (hb hby at_96) (fun _ _ => ⟨rfl, e69, (by decide : 8 + 0 ≤ _), (by decide : 33 + 0 ≤ _)⟩)
    dsimp only [Pt.U, Pt.locs, Pt.cells, Pt.slots] at X71 l71 y71 z71 st71 hQ71
    subst l71 y71 z71
    obtain ⟨rfl, Nq71, e71⟩ := hQ71
    have N71 := Fr.app N69 Nq71
    refine own_Goes.tr st71 ?_
    show own_Goes p.tables e below P (T71.setTop (mkF m 99 #[.val (.int p0), .val (.int p1), .val (.int p2), .val (.int (0 : Int32)), .val (.ref a1), .val (.ref a21), .val (.ref r37), .val (.ref r50), .val (.int (1 : Int32)), .unset, .unset] [(.ref a1)]))
    refine own_Goes.st ?_ (fun _ k => XS.aload X71.here hx rfl (hb hby at_99) rfl rfl k)
    show own_Goes p.tables e below P (T71.setTop (mkF m 101 #[.val (.int p0), .val (.int p1), .val (.int p2), .val (.int (0 : Int32)), .val (.ref a1), .val (.ref a21), .val (.ref r37), .val (.ref r50), .val (.int (1 : Int32)), .unset, .unset] [(.ref a1), (.ref a1)]))
    refine own_Goes.st ?_ (fun _ k => Jvm.RoadKit.acmp (g := (mkF m 101 #[.val (.int p0), .val (.int p1), .val (.int p2), .val (.int (0 : Int32)), .val (.ref a1), .val (.ref a21), .val (.ref r37), .val (.ref r50), .val (.int (1 : Int32)), .unset, .unset] [(.ref a1), (.ref a1)])) X71 hx rfl rfl rfl (pc0 := 101) (pc' := 104) (same := true) rfl (hb hby at_101) rfl (decide_eq_true rfl) (by decide) (by decide) k)
    show own_Goes p.tables e below P (T71.setTop (mkF m 104 #[.val (.int p0), .val (.int p1), .val (.int p2), .val (.int (0 : Int32)), .val (.ref a1), .val (.ref a21), .val (.ref r37), .val (.ref r50), .val (.int (1 : Int32)), .unset, .unset] []))
    refine own_Goes.st ?_ (fun _ k => XS.aload X71.here hx rfl (hb hby at_104) rfl rfl k)
    show own_Goes p.tables e below P (T71.setTop (mkF m 106 #[.val (.int p0), .val (.int p1), .val (.int p2), .val (.int (0 : Int32)), .val (.ref a1), .val (.ref a21), .val (.ref r37), .val (.ref r50), .val (.int (1 : Int32)), .unset, .unset] [(.ref a21)]))
    have F73 : Fld Z T50.heap a21 "com/example/usnea/usnea/reduction/Role" "inverse" "Z" (.int (0 : Int32)) := ((f33.keep K37 nin0).keep K50 nin0)
    obtain ⟨cq74, kq74, q74a, q74b, q74c⟩ := isOf hZ17 e71 F72
    obtain ⟨_, _, ⟨T74, L74, k74, n74⟩, -, X74, ⟨Lc74, hQ74, l74, y74, z74⟩, st74⟩ := X71.virtualBack hx (y := (⟨"com/example/usnea/usnea/reduction/Role", "inverse", "()Z"⟩ : MethodName)) (z := (⟨"com/example/usnea/usnea/reduction/Role", "inverse", "()Z"⟩ : MethodName)) hown17 (mvT hZ17 (hw _ (List.mem_of_getElem? (i := 74) rfl))) (mvT hZ17 (hw _ (List.mem_of_getElem? (i := 75) rfl))) (notFace_of_selects (args := #[]) (mvT hZ17 (hw _ (List.mem_of_getElem? (i := 77) rfl)))) (mvT hZ17 (hw _ (List.mem_of_getElem? (i := 77) rfl))) (mvT hZ17 (hw _ (List.mem_of_getElem? (i := 76) rfl))) (by decide) (backOf (W := 0) (rm_isv0 l Z a0 hw [] a21 T50.heap n0 Z63 F73) hZ17 (hw _ (List.mem_of_getElem? (i := 78) rfl)) (hw _ (List.mem_of_getElem? (i := 48) rfl)) (by decide) (by decide)) q74a q74c (g := (mkF m 106 #[.val (.int p0), .val (.int p1), .val (.int p2), .val (.int (0 : Int32)), .val (.ref a1), .val (.ref a21), .val (.ref r37), .val (.ref r50), .val (.int (1 : Int32)), .unset, .unset] [(.ref a21)])) rfl (by rw [hml]; rfl) (Steps.refl _) (argsL := []) (rest := []) (lenOf own_pd__28__29_Z rfl) rfl (by show 2 * 0 + _ ≤ _; exact Nat.le_of_eq rfl) (hb hby at_106) (fun _ _ => ⟨rfl, e71, (by decide : 8 + 0 ≤ _), (by decide : 33 + 0 ≤ _)⟩)
    dsimp only [Pt.U, Pt.locs, Pt.cells, Pt.slots] at X74 l74 y74 z74 st74 hQ74
    subst l74 y74 z74
    obtain ⟨rfl, Nq74, e74⟩ := hQ74
    have N74 := Fr.app N71 Nq74
    refine own_Goes.tr st74 ?_
    show own_Goes p.tables e below P (T74.setTop (mkF m 109 #[.val (.int p0), .val (.int p1), .val (.int p2), .val (.int (0 : Int32)), .val (.ref a1), .val (.ref a21), .val (.ref r37), .val (.ref r50), .val (.int (1 : Int32)), .unset, .unset] [(.int (0 : Int32))]))
    refine own_Goes.st ?_ (fun _ k => XS.iloadN X74.here hx rfl (hb hby at_109) rfl k)
    show own_Goes p.tables e below P (T74.setTop (mkF m 110 #[.val (.int p0), .val (.int p1), .val (.int p2), .val (.int (0 : Int32)), .val (.ref a1), .val (.ref a21), .val (.ref r37), .val (.ref r50), .val (.int (1 : Int32)), .unset, .unset] [(.int (0 : Int32)), (.int (0 : Int32))]))
    refine own_Goes.st ?_ (fun _ k => XS.icmpNo X74.here hx rfl (hb hby at_110) rfl (teq (by decide : (0 : Int32) = (0 : Int32))).2 k)
    show own_Goes p.tables e below P (T74.setTop (mkF m 113 #[.val (.int p0), .val (.int p1), .val (.int p2), .val (.int (0 : Int32)), .val (.ref a1), .val (.ref a21), .val (.ref r37), .val (.ref r50), .val (.int (1 : Int32)), .unset, .unset] []))
    refine own_Goes.st ?_ (fun _ k => XS.iconst X74.here hx rfl (hb hby at_113) k)
    show own_Goes p.tables e below P (T74.setTop (mkF m 114 #[.val (.int p0), .val (.int p1), .val (.int p2), .val (.int (0 : Int32)), .val (.ref a1), .val (.ref a21), .val (.ref r37), .val (.ref r50), .val (.int (1 : Int32)), .unset, .unset] [(.int (1 : Int32))]))
    refine own_Goes.st ?_ (fun _ k => XS.goto X74.here hx rfl (pc0 := 114) (pc' := 118) rfl (hb hby at_114) (by decide) (by decide) k)
    show own_Goes p.tables e below P (T74.setTop (mkF m 118 #[.val (.int p0), .val (.int p1), .val (.int p2), .val (.int (0 : Int32)), .val (.ref a1), .val (.ref a21), .val (.ref r37), .val (.ref r50), .val (.int (1 : Int32)), .unset, .unset] [(.int (1 : Int32))]))
    refine own_Goes.st ?_ (fun _ k => XS.istore X74.here hx rfl (hb hby at_118) rfl (l' := #[.val (.int p0), .val (.int p1), .val (.int p2), .val (.int (0 : Int32)), .val (.ref a1), .val (.ref a21), .val (.ref r37), .val (.ref r50), .val (.int (1 : Int32)), .val (.int (1 : Int32)), .unset]) rfl k)
    show own_Goes p.tables e below P (T74.setTop (mkF m 120 #[.val (.int p0), .val (.int p1), .val (.int p2), .val (.int (0 : Int32)), .val (.ref a1), .val (.ref a21), .val (.ref r37), .val (.ref r50), .val (.int (1 : Int32)), .val (.int (1 : Int32)), .unset] []))
    refine own_Goes.st ?_ (fun _ k => XS.aload X74.here hx rfl (hb hby at_120) rfl rfl k)
    show own_Goes p.tables e below P (T74.setTop (mkF m 122 #[.val (.int p0), .val (.int p1), .val (.int p2), .val (.int (0 : Int32)), .val (.ref a1), .val (.ref a21), .val (.ref r37), .val (.ref r50), .val (.int (1 : Int32)), .val (.int (1 : Int32)), .unset] [(.ref r50)]))
    obtain ⟨cq75, kq75, q75a, q75b, q75c⟩ := isOf hZ17 e74 f52
    obtain ⟨_, _, ⟨T75, L75, k75, n75⟩, -, X75, ⟨Lc75, hQ75, l75, y75, z75⟩, st75⟩ := X74.virtualBack hx (y := (⟨"com/example/usnea/usnea/reduction/Role", "predicate", "()Lcom/example/usnea/usnea/datalog/Predicate;"⟩ : MethodName)) (z := (⟨"com/example/usnea/usnea/reduction/Role", "predicate", "()Lcom/example/usnea/usnea/datalog/Predicate;"⟩ : MethodName)) hown17 (mvT hZ17 (hw _ (List.mem_of_getElem? (i := 69) rfl))) (mvT hZ17 (hw _ (List.mem_of_getElem? (i := 70) rfl))) (notFace_of_selects (args := #[]) (mvT hZ17 (hw _ (List.mem_of_getElem? (i := 72) rfl)))) (mvT hZ17 (hw _ (List.mem_of_getElem? (i := 72) rfl))) (mvT hZ17 (hw _ (List.mem_of_getElem? (i := 71) rfl))) (by decide) (backOf (W := 0) (rm_pred l Z a0 hw [] r50 a1 T50.heap n0 Z63 f53) hZ17 (hw _ (List.mem_of_getElem? (i := 73) rfl)) (hw _ (List.mem_of_getElem? (i := 48) rfl)) (by decide) (by decide)) q75a q75c (g := (mkF m 122 #[.val (.int p0), .val (.int p1), .val (.int p2), .val (.int (0 : Int32)), .val (.ref a1), .val (.ref a21), .val (.ref r37), .val (.ref r50), .val (.int (1 : Int32)), .val (.int (1 : Int32)), .unset] [(.ref r50)])) rfl (by rw [hml]; rfl) (Steps.refl _) (argsL := []) (rest := []) (lenOf own_pd__28__29_Lcom_2f_example_2f_usnea_2f_usnea_2f_datalog_2f_Predicate_3b_ rfl) rfl (by show 2 * 0 + _ ≤ _; exact Nat.le_of_eq rfl) (hb hby at_122) (fun _ _ => ⟨rfl, e74, (by decide : 8 + 0 ≤ _), (by decide : 33 + 0 ≤ _)⟩)
    dsimp only [Pt.U, Pt.locs, Pt.cells, Pt.slots] at X75 l75 y75 z75 st75 hQ75
    subst l75 y75 z75
    obtain ⟨rfl, Nq75, e75⟩ := hQ75
    have N75 := Fr.app N74 Nq75
    refine own_Goes.tr st75 ?_
    show own_Goes p.tables e below P (T75.setTop (mkF m 125 #[.val (.int p0), .val (.int p1), .val (.int p2), .val (.int (0 : Int32)), .val (.ref a1), .val (.ref a21), .val (.ref r37), .val (.ref r50), .val (.int (1 : Int32)), .val (.int (1 : Int32)), .unset] [(.ref a1)]))
    refine own_Goes.st ?_ (fun _ k => XS.aload X75.here hx rfl (hb hby at_125) rfl rfl k)
    show own_Goes p.tables e below P (T75.setTop (mkF m 127 #[.val (.int p0), .val (.int p1), .val (.int p2), .val (.int (0 : Int32)), .val (.ref a1), .val (.ref a21), .val (.ref r37), .val (.ref r50), .val (.int (1 : Int32)), .val (.int (1 : Int32)), .unset] [(.ref a1), (.ref a1)]))
    refine own_Goes.st ?_ (fun _ k => Jvm.RoadKit.acmp (g := (mkF m 127 #[.val (.int p0), .val (.int p1), .val (.int p2), .val (.int (0 : Int32)), .val (.ref a1), .val (.ref a21), .val (.ref r37), .val (.ref r50), .val (.int (1 : Int32)), .val (.int (1 : Int32)), .unset] [(.ref a1), (.ref a1)])) X75 hx rfl rfl rfl (pc0 := 127) (pc' := 130) (same := true) rfl (hb hby at_127) rfl (decide_eq_true rfl) (by decide) (by decide) k)
    show own_Goes p.tables e below P (T75.setTop (mkF m 130 #[.val (.int p0), .val (.int p1), .val (.int p2), .val (.int (0 : Int32)), .val (.ref a1), .val (.ref a21), .val (.ref r37), .val (.ref r50), .val (.int (1 : Int32)), .val (.int (1 : Int32)), .unset] []))
    refine own_Goes.st ?_ (fun _ k => XS.aload X75.here hx rfl (hb hby at_130) rfl rfl k)
    show own_Goes p.tables e below P (T75.setTop (mkF m 132 #[.val (.int p0), .val (.int p1), .val (.int p2), .val (.int (0 : Int32)), .val (.ref a1), .val (.ref a21), .val (.ref r37), .val (.ref r50), .val (.int (1 : Int32)), .val (.int (1 : Int32)), .unset] [(.ref r50)]))
    obtain ⟨cq76, kq76, q76a, q76b, q76c⟩ := isOf hZ17 e75 f52
    obtain ⟨_, _, ⟨T76, L76, k76, n76⟩, -, X76, ⟨Lc76, hQ76, l76, y76, z76⟩, st76⟩ := X75.virtualBack hx (y := (⟨"com/example/usnea/usnea/reduction/Role", "inverse", "()Z"⟩ : MethodName)) (z := (⟨"com/example/usnea/usnea/reduction/Role", "inverse", "()Z"⟩ : MethodName)) hown17 (mvT hZ17 (hw _ (List.mem_of_getElem? (i := 74) rfl))) (mvT hZ17 (hw _ (List.mem_of_getElem? (i := 75) rfl))) (notFace_of_selects (args := #[]) (mvT hZ17 (hw _ (List.mem_of_getElem? (i := 77) rfl)))) (mvT hZ17 (hw _ (List.mem_of_getElem? (i := 77) rfl))) (mvT hZ17 (hw _ (List.mem_of_getElem? (i := 76) rfl))) (by decide) (backOf (W := 0) (rm_isv0 l Z a0 hw [] r50 T50.heap n0 Z63 f54) hZ17 (hw _ (List.mem_of_getElem? (i := 78) rfl)) (hw _ (List.mem_of_getElem? (i := 48) rfl)) (by decide) (by decide)) q76a q76c (g := (mkF m 132 #[.val (.int p0), .val (.int p1), .val (.int p2), .val (.int (0 : Int32)), .val (.ref a1), .val (.ref a21), .val (.ref r37), .val (.ref r50), .val (.int (1 : Int32)), .val (.int (1 : Int32)), .unset] [(.ref r50)])) rfl (by rw [hml]; rfl) (Steps.refl _) (argsL := []) (rest := []) (lenOf own_pd__28__29_Z rfl) rfl (by show 2 * 0 + _ ≤ _; exact Nat.le_of_eq rfl) (hb hby at_132) (fun _ _ => ⟨rfl, e75, (by decide : 8 + 0 ≤ _), (by decide : 33 + 0 ≤ _)⟩)
    dsimp only [Pt.U, Pt.locs, Pt.cells, Pt.slots] at X76 l76 y76 z76 st76 hQ76
    subst l76 y76 z76
    obtain ⟨rfl, Nq76, e76⟩ := hQ76
    have N76 := Fr.app N75 Nq76
    refine own_Goes.tr st76 ?_
    show own_Goes p.tables e below P (T76.setTop (mkF m 135 #[.val (.int p0), .val (.int p1), .val (.int p2), .val (.int (0 : Int32)), .val (.ref a1), .val (.ref a21), .val (.ref r37), .val (.ref r50), .val (.int (1 : Int32)), .val (.int (1 : Int32)), .unset] [(.int (0 : Int32))]))
    refine own_Goes.st ?_ (fun _ k => XS.iloadN X76.here hx rfl (hb hby at_135) rfl k)
    show own_Goes p.tables e below P (T76.setTop (mkF m 136 #[.val (.int p0), .val (.int p1), .val (.int p2), .val (.int (0 : Int32)), .val (.ref a1), .val (.ref a21), .val (.ref r37), .val (.ref r50), .val (.int (1 : Int32)), .val (.int (1 : Int32)), .unset] [(.int (0 : Int32)), (.int (0 : Int32))]))
    refine own_Goes.st ?_ (fun _ k => XS.icmpNo X76.here hx rfl (hb hby at_136) rfl (teq (by decide : (0 : Int32) = (0 : Int32))).2 k)
    show own_Goes p.tables e below P (T76.setTop (mkF m 139 #[.val (.int p0), .val (.int p1), .val (.int p2), .val (.int (0 : Int32)), .val (.ref a1), .val (.ref a21), .val (.ref r37), .val (.ref r50), .val (.int (1 : Int32)), .val (.int (1 : Int32)), .unset] []))
    refine own_Goes.st ?_ (fun _ k => XS.iconst X76.here hx rfl (hb hby at_139) k)
    show own_Goes p.tables e below P (T76.setTop (mkF m 140 #[.val (.int p0), .val (.int p1), .val (.int p2), .val (.int (0 : Int32)), .val (.ref a1), .val (.ref a21), .val (.ref r37), .val (.ref r50), .val (.int (1 : Int32)), .val (.int (1 : Int32)), .unset] [(.int (1 : Int32))]))
    refine own_Goes.st ?_ (fun _ k => XS.goto X76.here hx rfl (pc0 := 140) (pc' := 144) rfl (hb hby at_140) (by decide) (by decide) k)
    show own_Goes p.tables e below P (T76.setTop (mkF m 144 #[.val (.int p0), .val (.int p1), .val (.int p2), .val (.int (0 : Int32)), .val (.ref a1), .val (.ref a21), .val (.ref r37), .val (.ref r50), .val (.int (1 : Int32)), .val (.int (1 : Int32)), .unset] [(.int (1 : Int32))]))
    refine own_Goes.st ?_ (fun _ k => XS.istore X76.here hx rfl (hb hby at_144) rfl (l' := #[.val (.int p0), .val (.int p1), .val (.int p2), .val (.int (0 : Int32)), .val (.ref a1), .val (.ref a21), .val (.ref r37), .val (.ref r50), .val (.int (1 : Int32)), .val (.int (1 : Int32)), .val (.int (1 : Int32))]) rfl k)
    show own_Goes p.tables e below P (T76.setTop (mkF m 146 #[.val (.int p0), .val (.int p1), .val (.int p2), .val (.int (0 : Int32)), .val (.ref a1), .val (.ref a21), .val (.ref r37), .val (.ref r50), .val (.int (1 : Int32)), .val (.int (1 : Int32)), .val (.int (1 : Int32))] []))
    refine own_Goes.st ?_ (fun _ k => XS.iload X76.here hx rfl (hb hby at_146) rfl k)
    show own_Goes p.tables e below P (T76.setTop (mkF m 148 #[.val (.int p0), .val (.int p1), .val (.int p2), .val (.int (0 : Int32)), .val (.ref a1), .val (.ref a21), .val (.ref r37), .val (.ref r50), .val (.int (1 : Int32)), .val (.int (1 : Int32)), .val (.int (1 : Int32))] [(.int (1 : Int32))]))
    refine own_Goes.st ?_ (fun _ k => XS.ifNo X76.here hx rfl (hb hby at_148) rfl ((if0 _ _).trans (feq (by decide : ¬ ((1 : Int32) = (0 : Int32)))).1) k)
    show own_Goes p.tables e below P (T76.setTop (mkF m 151 #[.val (.int p0), .val (.int p1), .val (.int p2), .val (.int (0 : Int32)), .val (.ref a1), .val (.ref a21), .val (.ref r37), .val (.ref r50), .val (.int (1 : Int32)), .val (.int (1 : Int32)), .val (.int (1 : Int32))] []))
    refine own_Goes.st ?_ (fun _ k => XS.iload X76.here hx rfl (hb hby at_151) rfl k)
    show own_Goes p.tables e below P (T76.setTop (mkF m 153 #[.val (.int p0), .val (.int p1), .val (.int p2), .val (.int (0 : Int32)), .val (.ref a1), .val (.ref a21), .val (.ref r37), .val (.ref r50), .val (.int (1 : Int32)), .val (.int (1 : Int32)), .val (.int (1 : Int32))] [(.int (1 : Int32))]))
    refine own_Goes.st ?_ (fun _ k => XS.ifNo X76.here hx rfl (hb hby at_153) rfl ((if0 _ _).trans (feq (by decide : ¬ ((1 : Int32) = (0 : Int32)))).1) k)
    show own_Goes p.tables e below P (T76.setTop (mkF m 156 #[.val (.int p0), .val (.int p1), .val (.int p2), .val (.int (0 : Int32)), .val (.ref a1), .val (.ref a21), .val (.ref r37), .val (.ref r50), .val (.int (1 : Int32)), .val (.int (1 : Int32)), .val (.int (1 : Int32))] []))
    refine own_Goes.st ?_ (fun _ k => XS.iload X76.here hx rfl (hb hby at_156) rfl k)
    show own_Goes p.tables e below P (T76.setTop (mkF m 158 #[.val (.int p0), .val (.int p1), .val (.int p2), .val (.int (0 : Int32)), .val (.ref a1), .val (.ref a21), .val (.ref r37), .val (.ref r50), .val (.int (1 : Int32)), .val (.int (1 : Int32)), .val (.int (1 : Int32))] [(.int (1 : Int32))]))
    refine own_Goes.st ?_ (fun _ k => XS.ifNo X76.here hx rfl (hb hby at_158) rfl ((if0 _ _).trans (feq (by decide : ¬ ((1 : Int32) = (0 : Int32)))).1) k)
    show own_Goes p.tables e below P (T76.setTop (mkF m 161 #[.val (.int p0), .val (.int p1), .val (.int p2), .val (.int (0 : Int32)), .val (.ref a1), .val (.ref a21), .val (.ref r37), .val (.ref r50), .val (.int (1 : Int32)), .val (.int (1 : Int32)), .val (.int (1 : Int32))] []))
    refine own_Goes.st ?_ (fun _ k => XS.iconst X76.here hx rfl (hb hby at_161) k)
    show own_Goes p.tables e below P (T76.setTop (mkF m 162 #[.val (.int p0), .val (.int p1), .val (.int p2), .val (.int (0 : Int32)), .val (.ref a1), .val (.ref a21), .val (.ref r37), .val (.ref r50), .val (.int (1 : Int32)), .val (.int (1 : Int32)), .val (.int (1 : Int32))] [(.int (1 : Int32))]))
    refine own_Goes.st ?_ (fun _ k => XS.goto X76.here hx rfl (pc0 := 162) (pc' := 166) rfl (hb hby at_162) (by decide) (by decide) k)
    show own_Goes p.tables e below P (T76.setTop (mkF m 166 #[.val (.int p0), .val (.int p1), .val (.int p2), .val (.int (0 : Int32)), .val (.ref a1), .val (.ref a21), .val (.ref r37), .val (.ref r50), .val (.int (1 : Int32)), .val (.int (1 : Int32)), .val (.int (1 : Int32))] [(.int (1 : Int32))]))
    obtain ⟨fs, hr, hrun, hended, -, hW, hI, hsame⟩ := X76.leaveW hS17 (by rw [e76]; exact hk62) (v := some (.int (1 : Int32))) (fun h => by rw [Bd.returns] at h; cases h)
    exact own_Goes.fin _ _ (retOut X76 hx (t := .boolean) Bd.returns rfl (Or.inl ⟨rfl, Or.inr (Or.inl rfl), _, rfl⟩) (hb hby at_166) hr) (hPP _ _ ⟨hrun, hended, _, _, rfl, (by show Q_law n0 _ _; exact ⟨rfl, N76⟩), ⟨_, rfl⟩, hW, hI, hsame.mono (by decide) (by decide)⟩)
  · skip
    refine own_Goes.st ?_ (fun _ k => XS.ifNo X0.here hx rfl (hb hby at_3) rfl ((if0 _ _).trans (feq h1).1) k)
    show own_Goes p.tables e below P (s₁.setTop (mkF m 6 #[.val (.int p0), .val (.int p1), .val (.int p2), .unset, .unset, .unset, .unset, .unset, .unset, .unset, .unset] []))
    refine own_Goes.st ?_ (fun _ k => XS.iconst X0.here hx rfl (hb hby at_6) k)
    show own_Goes p.tables e below P (s₁.setTop (mkF m 7 #[.val (.int p0), .val (.int p1), .val (.int p2), .unset, .unset, .unset, .unset, .unset, .unset, .unset, .unset] [(.int (1 : Int32))]))
    refine own_Goes.st ?_ (fun _ k => XS.goto X0.here hx rfl (pc0 := 7) (pc' := 11) rfl (hb hby at_7) (by decide) (by decide) k)
    show own_Goes p.tables e below P (s₁.setTop (mkF m 11 #[.val (.int p0), .val (.int p1), .val (.int p2), .unset, .unset, .unset, .unset, .unset, .unset, .unset, .unset] [(.int (1 : Int32))]))
    refine own_Goes.st ?_ (fun _ k => XS.istoreN X0.here hx rfl (hb hby at_11) rfl (l' := #[.val (.int p0), .val (.int p1), .val (.int p2), .val (.int (1 : Int32)), .unset, .unset, .unset, .unset, .unset, .unset, .unset]) rfl k)
    show own_Goes p.tables e below P (s₁.setTop (mkF m 12 #[.val (.int p0), .val (.int p1), .val (.int p2), .val (.int (1 : Int32)), .unset, .unset, .unset, .unset, .unset, .unset, .unset] []))
    obtain ⟨T77, h77, X77, e77, E77, A77, D77, -, st77⟩ := newO X0 hx hZ hown (hw _ (List.mem_of_getElem? (i := 0) rfl)) (hw _ (List.mem_of_getElem? (i := 1) rfl)) (hw _ (List.mem_of_getElem? (i := 2) rfl)) e0 (g := (mkF m 12 #[.val (.int p0), .val (.int p1), .val (.int p2), .val (.int (1 : Int32)), .unset, .unset, .unset, .unset, .unset, .unset, .unset] [])) rfl (hb hby at_12) (by decide) (by decide)
    obtain ⟨a77, g77⟩ : ∃ z, z = h0.size := ⟨_, rfl⟩
    rw [← g77] at A77 D77 st77
    have ge_a77 : n0 ≤ a77 := Nat.le_trans Z0 (Nat.le_of_eq g77.symm)
    refine own_Goes.st ?_ st77
    have Z78 : n0 ≤ h77.size := Nat.le_trans Z0 E77.1
    have O79 := pr1.ext E77
    have hk80 := Nat.le_trans hk0 E77.1
    have F81 : Fld Z h77 a77 "com/example/usnea/usnea/datalog/Predicate" "name" "Ljava/lang/String;" .null := D77 (Or.inr (hw _ (List.mem_of_getElem? (i := 43) rfl))) (ty := (.object "java/lang/String")) (by decide)
    have F82 : Fld Z h77 a77 "com/example/usnea/usnea/datalog/Predicate" "arity" "I" (.int (0 : Int32)) := D77 (Or.inr (hw _ (List.mem_of_getElem? (i := 45) rfl))) (ty := .int) (by decide)
    show own_Goes p.tables e below P (T77.setTop (mkF m 15 #[.val (.int p0), .val (.int p1), .val (.int p2), .val (.int (1 : Int32)), .unset, .unset, .unset, .unset, .unset, .unset, .unset] [(.ref a77)]))
    refine own_Goes.st ?_ (fun _ k => XS.dup X77.here hx rfl (hb hby at_15) rfl rfl k)
    show own_Goes p.tables e below P (T77.setTop (mkF m 16 #[.val (.int p0), .val (.int p1), .val (.int p2), .val (.int (1 : Int32)), .unset, .unset, .unset, .unset, .unset, .unset, .unset] [(.ref a77), (.ref a77)]))
    refine own_Goes.st ?_ (fun _ k => XS.iloadN X77.here hx rfl (hb hby at_16) rfl k)
    show own_Goes p.tables e below P (T77.setTop (mkF m 17 #[.val (.int p0), .val (.int p1), .val (.int p2), .val (.int (1 : Int32)), .unset, .unset, .unset, .unset, .unset, .unset, .unset] [(.int p1), (.ref a77), (.ref a77)]))
    refine own_Goes.st ?_ (fun _ k => XS.sipush X77.here hx rfl (hb hby at_17) k)
    show own_Goes p.tables e below P (T77.setTop (mkF m 20 #[.val (.int p0), .val (.int p1), .val (.int p2), .val (.int (1 : Int32)), .unset, .unset, .unset, .unset, .unset, .unset, .unset] [(.int (255 : Int32)), (.int p1), (.ref a77), (.ref a77)]))
    refine own_Goes.st ?_ (fun _ k => XS.iand X77.here hx rfl (hb hby at_20) rfl k)
    show own_Goes p.tables e below P (T77.setTop (mkF m 21 #[.val (.int p0), .val (.int p1), .val (.int p2), .val (.int (1 : Int32)), .unset, .unset, .unset, .unset, .unset, .unset, .unset] [(.int (p1 &&& (255 : Int32))), (.ref a77), (.ref a77)]))
    refine own_Goes.st ?_ (fun _ k => XS.i2c X77.here hx rfl (hb hby at_21) rfl k)
    show own_Goes p.tables e below P (T77.setTop (mkF m 22 #[.val (.int p0), .val (.int p1), .val (.int p2), .val (.int (1 : Int32)), .unset, .unset, .unset, .unset, .unset, .unset, .unset] [(.int (((p1 &&& (255 : Int32))).toUInt32.toUInt16.toUInt32.toInt32)), (.ref a77), (.ref a77)]))
    obtain ⟨_, _, ⟨T83, L83, k83, n83⟩, -, X83, ⟨Lc83, hQ83, l83, y83, z83⟩, st83⟩ := Jvm.LawKit.callS X77 hx (y := (⟨"java/lang/String", "valueOf", "(C)Ljava/lang/String;"⟩ : MethodName)) hown (mvT hZ (hw _ (List.mem_of_getElem? (i := 3) rfl))) (mvT hZ (hw _ (List.mem_of_getElem? (i := 4) rfl))) (mvT hZ (hw _ (List.mem_of_getElem? (i := 5) rfl))) (mvT hZ (hw _ (List.mem_of_getElem? (i := 6) rfl))) (by decide) (backOf (W := 2) (rm_vof l Z a0 hw [] (((p1 &&& (255 : Int32))).toUInt32.toUInt16.toUInt32.toInt32) cs h77 n0 Z78 pr0 O79 hcs (own_chr p1)) hZ (hw _ (List.mem_of_getElem? (i := 6) rfl)) (hw _ (List.mem_of_getElem? (i := 5) rfl)) (by decide) (by decide)) (g := (mkF m 22 #[.val (.int p0), .val (.int p1), .val (.int p2), .val (.int (1 : Int32)), .unset, .unset, .unset, .unset, .unset, .unset, .unset] [(.int (((p1 &&& (255 : Int32))).toUInt32.toUInt16.toUInt32.toInt32)), (.ref a77), (.ref a77)])) rfl (by rw [hml]; rfl) (argsL := [(.int (((p1 &&& (255 : Int32))).toUInt32.toUInt16.toUInt32.toInt32))]) (rest := [(.ref a77), (.ref a77)]) (lenOf own_pd__28_C_29_Ljava_2f_lang_2f_String_3b_ rfl) rfl (by show 2 * 0 + _ ≤ _; exact Nat.le_of_eq rfl) (hb hby at_22) (fun _ _ => ⟨rfl, e77, (by decide : 1 + 2 ≤ _), (by decide : 2 + 5 ≤ _)⟩)
    dsimp only [Pt.U, Pt.locs, Pt.cells, Pt.slots] at X83 l83 y83 z83 st83 hQ83
    subst l83 y83 z83
    obtain ⟨r83, rfl, Nq83, K83, f84, f85⟩ := hQ83
    have N83 := Fr.app N0 Nq83
    refine own_Goes.st ?_ st83
    have ne86 : a77 ≠ r83 := Nat.ne_of_lt (Nat.lt_of_lt_of_le A77.lt f84)
    have ge_r83 : n0 ≤ r83 := Nat.le_trans Z78 f84
    have hk87 := Nat.le_trans hk80 K83.1
    have Z88 : n0 ≤ T83.heap.size := Nat.le_trans Z78 K83.1
    have O89 := O79.keep K83 all0
    show own_Goes p.tables e below P (T83.setTop (mkF m 25 #[.val (.int p0), .val (.int p1), .val (.int p2), .val (.int (1 : Int32)), .unset, .unset, .unset, .unset, .unset, .unset, .unset] [(.ref r83), (.ref a77), (.ref a77)]))
    refine own_Goes.st ?_ (fun _ k => XS.iloadN X83.here hx rfl (hb hby at_25) rfl k)
    show own_Goes p.tables e below P (T83.setTop (mkF m 26 #[.val (.int p0), .val (.int p1), .val (.int p2), .val (.int (1 : Int32)), .unset, .unset, .unset, .unset, .unset, .unset, .unset] [(.int p2), (.ref r83), (.ref a77), (.ref a77)]))
    refine own_Goes.st ?_ (X83.ldcInt hx hown (mvT hZ (hw _ (List.mem_of_getElem? (i := 29) rfl))) (g := (mkF m 26 #[.val (.int p0), .val (.int p1), .val (.int p2), .val (.int (1 : Int32)), .unset, .unset, .unset, .unset, .unset, .unset, .unset] [(.int p2), (.ref r83), (.ref a77), (.ref a77)])) rfl (hb hby at_26))
    show own_Goes p.tables e below P (T83.setTop (mkF m 28 #[.val (.int p0), .val (.int p1), .val (.int p2), .val (.int (1 : Int32)), .unset, .unset, .unset, .unset, .unset, .unset, .unset] [(.int (2147483647 : Int32)), (.int p2), (.ref r83), (.ref a77), (.ref a77)]))
    refine own_Goes.st ?_ (fun _ k => XS.iand X83.here hx rfl (hb hby at_28) rfl k)
    show own_Goes p.tables e below P (T83.setTop (mkF m 29 #[.val (.int p0), .val (.int p1), .val (.int p2), .val (.int (1 : Int32)), .unset, .unset, .unset, .unset, .unset, .unset, .unset] [(.int (p2 &&& (2147483647 : Int32))), (.ref r83), (.ref a77), (.ref a77)]))
    have F90 : Exa Z T83.heap a77 "com/example/usnea/usnea/datalog/Predicate" := (A77.keep K83)
    have F91 : Fld Z T83.heap a77 "com/example/usnea/usnea/datalog/Predicate" "name" "Ljava/lang/String;" .null := (F81.keep K83 nin0)
    have F92 : Fld Z T83.heap a77 "com/example/usnea/usnea/datalog/Predicate" "arity" "I" (.int (0 : Int32)) := (F82.keep K83 nin0)
    obtain ⟨_, _, ⟨T93, L93, k93, n93⟩, -, Y93, hU93, gU93, ⟨Lc93, hQ93, l93, y93, z93⟩, st93⟩ := X83.specialBackS hx (y := (⟨"com/example/usnea/usnea/datalog/Predicate", "<init>", "(Ljava/lang/String;I)V"⟩ : MethodName)) rfl hown (mvT hZ (hw _ (List.mem_of_getElem? (i := 30) rfl))) (mvT hZ (hw _ (List.mem_of_getElem? (i := 31) rfl))) (mvT hZ (hw _ (List.mem_of_getElem? (i := 32) rfl))) (by decide) (backOfS (W := 1) (rm_pnew l Z a0 hw [] a77 r83 (p2 &&& (2147483647 : Int32)) .null (.int (0 : Int32)) T83.heap n0 Z88 (own_nn31 p2) F90 f85 F91 F92 ge_a77) hZ (hw _ (List.mem_of_getElem? (i := 32) rfl)) (hw _ (List.mem_of_getElem? (i := 2) rfl)) (by decide) (by decide)) (g := (mkF m 29 #[.val (.int p0), .val (.int p1), .val (.int p2), .val (.int (1 : Int32)), .unset, .unset, .unset, .unset, .unset, .unset, .unset] [(.int (p2 &&& (2147483647 : Int32))), (.ref r83), (.ref a77), (.ref a77)])) rfl (by rw [hml]; rfl) (Steps.refl _) (a := a77) (argsL := [(.ref r83), (.int (p2 &&& (2147483647 : Int32)))]) (rest := [(.ref a77)]) (lenOf own_pd__28_Ljava_2f_lang_2f_String_3b_I_29_V rfl) rfl (by show 2 * 0 + _ ≤ _; exact Nat.le_of_eq rfl) (hb hby at_29) (fun _ _ => ⟨rfl, rfl, (by decide : 3 + 2 ≤ _), (by decide : 7 + 20 ≤ _)⟩)
    dsimp only [Pt.U, Pt.locs, Pt.cells, Pt.slots] at Y93 hU93 gU93 l93 y93 z93 st93 hQ93
    subst l93 y93 z93
    obtain ⟨X93, hS93, hZ93, hown93⟩ := rebS hS0 hk87 Y93 hU93 gU93 hZ hown
    obtain ⟨rfl, Nq93, K93, f94⟩ := hQ93
    have N93 := Fr.app N83 Nq93
    refine own_Goes.tr st93 ?_
    have Z95 : n0 ≤ T93.heap.size := Nat.le_trans Z88 K93.1
    have O96 := O89.keep K93 (allS ge_a77 all0)
    show own_Goes p.tables e below P (T93.setTop (mkF m 32 #[.val (.int p0), .val (.int p1), .val (.int p2), .val (.int (1 : Int32)), .unset, .unset, .unset, .unset, .unset, .unset, .unset] [(.ref a77)]))
    refine own_Goes.st ?_ (fun _ k => XS.astore X93.here hx rfl (hb hby at_32) rfl rfl (l' := #[.val (.int p0), .val (.int p1), .val (.int p2), .val (.int (1 : Int32)), .val (.ref a77), .unset, .unset, .unset, .unset, .unset, .unset]) rfl k)
    show own_Goes p.tables e below P (T93.setTop (mkF m 34 #[.val (.int p0), .val (.int p1), .val (.int p2), .val (.int (1 : Int32)), .val (.ref a77), .unset, .unset, .unset, .unset, .unset, .unset] []))
    obtain ⟨T97, h97, X97, e97, E97, A97, D97, -, st97⟩ := newO X93 hx hZ93 hown93 (hw _ (List.mem_of_getElem? (i := 46) rfl)) (hw _ (List.mem_of_getElem? (i := 47) rfl)) (hw _ (List.mem_of_getElem? (i := 48) rfl)) rfl (g := (mkF m 34 #[.val (.int p0), .val (.int p1), .val (.int p2), .val (.int (1 : Int32)), .val (.ref a77), .unset, .unset, .unset, .unset, .unset, .unset] [])) rfl (hb hby at_34) (by decide) (by decide)
    obtain ⟨a97, g97⟩ : ∃ z, z = T93.heap.size := ⟨_, rfl⟩
    rw [← g97] at A97 D97 st97
    have ne98 : a77 ≠ a97 := Nat.ne_of_lt (Nat.lt_of_lt_of_eq f94.lt g97.symm)
    have F99 : Exa Z T93.heap r83 "java/lang/String" := (f85.keep K93)
    have ne100 : r83 ≠ a97 := Nat.ne_of_lt (Nat.lt_of_lt_of_eq F99.lt g97.symm)
    have ge_a97 : n0 ≤ a97 := Nat.le_trans Z95 (Nat.le_of_eq g97.symm)
    refine own_Goes.st ?_ st97
    have Z101 : n0 ≤ h97.size := Nat.le_trans Z95 E97.1
    have O102 := O96.ext E97
    have hk103 := Nat.le_trans (Nat.le_refl _) E97.1
    have F104 : Fld Z h97 a97 "com/example/usnea/usnea/reduction/Role" "predicate" "Lcom/example/usnea/usnea/datalog/Predicate;" .null := D97 (Or.inr (hw _ (List.mem_of_getElem? (i := 59) rfl))) (ty := (.object "com/example/usnea/usnea/datalog/Predicate")) (by decide)
    have F105 : Fld Z h97 a97 "com/example/usnea/usnea/reduction/Role" "inverse" "Z" (.int (0 : Int32)) := D97 (Or.inr (hw _ (List.mem_of_getElem? (i := 61) rfl))) (ty := .boolean) (by decide)
    show own_Goes p.tables e below P (T97.setTop (mkF m 37 #[.val (.int p0), .val (.int p1), .val (.int p2), .val (.int (1 : Int32)), .val (.ref a77), .unset, .unset, .unset, .unset, .unset, .unset] [(.ref a97)]))
    refine own_Goes.st ?_ (fun _ k => XS.dup X97.here hx rfl (hb hby at_37) rfl rfl k)
    show own_Goes p.tables e below P (T97.setTop (mkF m 38 #[.val (.int p0), .val (.int p1), .val (.int p2), .val (.int (1 : Int32)), .val (.ref a77), .unset, .unset, .unset, .unset, .unset, .unset] [(.ref a97), (.ref a97)]))
    refine own_Goes.st ?_ (fun _ k => XS.aload X97.here hx rfl (hb hby at_38) rfl rfl k)
    show own_Goes p.tables e below P (T97.setTop (mkF m 40 #[.val (.int p0), .val (.int p1), .val (.int p2), .val (.int (1 : Int32)), .val (.ref a77), .unset, .unset, .unset, .unset, .unset, .unset] [(.ref a77), (.ref a97), (.ref a97)]))
    refine own_Goes.st ?_ (fun _ k => XS.iloadN X97.here hx rfl (hb hby at_40) rfl k)
    show own_Goes p.tables e below P (T97.setTop (mkF m 41 #[.val (.int p0), .val (.int p1), .val (.int p2), .val (.int (1 : Int32)), .val (.ref a77), .unset, .unset, .unset, .unset, .unset, .unset] [(.int (1 : Int32)), (.ref a77), (.ref a97), (.ref a97)]))
    obtain ⟨_, _, ⟨T106, L106, k106, n106⟩, -, X106, ⟨Lc106, hQ106, l106, y106, z106⟩, st106⟩ := X97.specialBack hx (y := (⟨"com/example/usnea/usnea/reduction/Role", "<init>", "(Lcom/example/usnea/usnea/datalog/Predicate;Z)V"⟩ : MethodName)) rfl hown93 (mvT hZ93 (hw _ (List.mem_of_getElem? (i := 49) rfl))) (mvT hZ93 (hw _ (List.mem_of_getElem? (i := 50) rfl))) (mvT hZ93 (hw _ (List.mem_of_getElem? (i := 51) rfl))) (by decide) (backOf (W := 1) (rm_rnew1 l Z a0 hw [] a97 a77 .null (.int (0 : Int32)) h97 n0 Z101 A97 F104 F105 ge_a97) hZ93 (hw _ (List.mem_of_getElem? (i := 51) rfl)) (hw _ (List.mem_of_getElem? (i := 48) rfl)) (by decide) (by decide)) (g := (mkF m 41 #[.val (.int p0), .val (.int p1), .val (.int p2), .val (.int (1 : Int32)), .val (.ref a77), .unset, .unset, .unset, .unset, .unset, .unset] [(.int (1 : Int32)), (.ref a77), (.ref a97), (.ref a97)])) rfl (by rw [hml]; rfl) (Steps.refl _) (a := a97) (argsL := [(.ref a77), (.int (1 : Int32))]) (rest := [(.ref a97)]) (lenOf own_pd__28_Lcom_2f_example_2f_usnea_2f_usnea_2f_datalog_2f_Predicate_3b_Z_29_V rfl) rfl (by show 2 * 0 + _ ≤ _; exact Nat.le_of_eq rfl) (hb hby at_41) (fun _ _ => ⟨rfl, e97, (by decide : 6 + 0 ≤ _), (by decide : 29 + 0 ≤ _)⟩)
    dsimp only [Pt.U, Pt.locs, Pt.cells, Pt.slots] at X106 l106 y106 z106 st106 hQ106
    subst l106 y106 z106
    obtain ⟨rfl, Nq106, K106, f107, f108, f109⟩ := hQ106
    have N106 := Fr.app N93 Nq106
    refine own_Goes.tr st106 ?_
    have hk110 := Nat.le_trans hk103 K106.1
    have Z111 : n0 ≤ T106.heap.size := Nat.le_trans Z101 K106.1
    have O112 := O102.keep K106 (allS ge_a97 all0)
    show own_Goes p.tables e below P (T106.setTop (mkF m 44 #[.val (.int p0), .val (.int p1), .val (.int p2), .val (.int (1 : Int32)), .val (.ref a77), .unset, .unset, .unset, .unset, .unset, .unset] [(.ref a97)]))
    refine own_Goes.st ?_ (fun _ k => XS.astore X106.here hx rfl (hb hby at_44) rfl rfl (l' := #[.val (.int p0), .val (.int p1), .val (.int p2), .val (.int (1 : Int32)), .val (.ref a77), .val (.ref a97), .unset, .unset, .unset, .unset, .unset]) rfl k)
    show own_Goes p.tables e below P (T106.setTop (mkF m 46 #[.val (.int p0), .val (.int p1), .val (.int p2), .val (.int (1 : Int32)), .val (.ref a77), .val (.ref a97), .unset, .unset, .unset, .unset, .unset] []))
    refine own_Goes.st ?_ (fun _ k => XS.aload X106.here hx rfl (hb hby at_46) rfl rfl k)
    show own_Goes p.tables e below P (T106.setTop (mkF m 48 #[.val (.int p0), .val (.int p1), .val (.int p2), .val (.int (1 : Int32)), .val (.ref a77), .val (.ref a97), .unset, .unset, .unset, .unset, .unset] [(.ref a97)]))
    obtain ⟨cq113, kq113, q113a, q113b, q113c⟩ := isOf hZ93 rfl f107
    obtain ⟨_, _, ⟨T113, L113, k113, n113⟩, -, X113, ⟨Lc113, hQ113, l113, y113, z113⟩, st113⟩ := X106.virtualBack hx (y := (⟨"com/example/usnea/usnea/reduction/Role", "inverted", "()Lcom/example/usnea/usnea/reduction/Role;"⟩ : MethodName)) (z := (⟨"com/example/usnea/usnea/reduction/Role", "inverted", "()Lcom/example/usnea/usnea/reduction/Role;"⟩ : MethodName)) hown93 (mvT hZ93 (hw _ (List.mem_of_getElem? (i := 62) rfl))) (mvT hZ93 (hw _ (List.mem_of_getElem? (i := 63) rfl))) (notFace_of_selects (args := #[]) (mvT hZ93 (hw _ (List.mem_of_getElem? (i := 65) rfl)))) (mvT hZ93 (hw _ (List.mem_of_getElem? (i := 65) rfl))) (mvT hZ93 (hw _ (List.mem_of_getElem? (i := 64) rfl))) (by decide) (backOf (W := 0) (rm_inv1 l Z a0 hw [] a97 a77 T106.heap n0 Z111 f108 f109) hZ93 (hw _ (List.mem_of_getElem? (i := 66) rfl)) (hw _ (List.mem_of_getElem? (i := 48) rfl)) (by decide) (by decide)) q113a q113c (g := (mkF m 48 #[.val (.int p0), .val (.int p1), .val (.int p2), .val (.int (1 : Int32)), .val (.ref a77), .val (.ref a97), .unset, .unset, .unset, .unset, .unset] [(.ref a97)])) rfl (by rw [hml]; rfl) (Steps.refl _) (argsL := []) (rest := []) (lenOf own_pd__28__29_Lcom_2f_example_2f_usnea_2f_usnea_2f_reduction_2f_Role_3b_ rfl) rfl (by show 2 * 0 + _ ≤ _; exact Nat.le_of_eq rfl) (hb hby at_48) (fun _ _ => ⟨rfl, rfl, (by decide : 6 + 1 ≤ _), (by decide : 29 + 2 ≤ _)⟩)
    dsimp only [Pt.U, Pt.locs, Pt.cells, Pt.slots] at X113 l113 y113 z113 st113 hQ113
    subst l113 y113 z113
    obtain ⟨r113, rfl, Nq113, K113, f114, f115, f116, f117⟩ := hQ113
    have N113 := Fr.app N106 Nq113
    refine own_Goes.tr st113 ?_
    have F118 : Exa Z T106.heap a77 "com/example/usnea/usnea/datalog/Predicate" := ((f94.ext E97).keep K106)
    have ne119 : a77 ≠ r113 := Nat.ne_of_lt (Nat.lt_of_lt_of_le F118.lt f114)
    have F120 : Exa Z T106.heap r83 "java/lang/String" := ((F99.ext E97).keep K106)
    have ne121 : r83 ≠ r113 := Nat.ne_of_lt (Nat.lt_of_lt_of_le F120.lt f114)
    have ne122 : a97 ≠ r113 := Nat.ne_of_lt (Nat.lt_of_lt_of_le f107.lt f114)
    have ge_r113 : n0 ≤ r113 := Nat.le_trans Z111 f114
    have hk123 := Nat.le_trans hk110 K113.1
    have Z124 : n0 ≤ T113.heap.size := Nat.le_trans Z111 K113.1
    have O125 := O112.keep K113 all0
    show own_Goes p.tables e below P (T113.setTop (mkF m 51 #[.val (.int p0), .val (.int p1), .val (.int p2), .val (.int (1 : Int32)), .val (.ref a77), .val (.ref a97), .unset, .unset, .unset, .unset, .unset] [(.ref r113)]))
    refine own_Goes.st ?_ (fun _ k => XS.astore X113.here hx rfl (hb hby at_51) rfl rfl (l' := #[.val (.int p0), .val (.int p1), .val (.int p2), .val (.int (1 : Int32)), .val (.ref a77), .val (.ref a97), .val (.ref r113), .unset, .unset, .unset, .unset]) rfl k)
    show own_Goes p.tables e below P (T113.setTop (mkF m 53 #[.val (.int p0), .val (.int p1), .val (.int p2), .val (.int (1 : Int32)), .val (.ref a77), .val (.ref a97), .val (.ref r113), .unset, .unset, .unset, .unset] []))
    refine own_Goes.st ?_ (fun _ k => XS.aload X113.here hx rfl (hb hby at_53) rfl rfl k)
    show own_Goes p.tables e below P (T113.setTop (mkF m 55 #[.val (.int p0), .val (.int p1), .val (.int p2), .val (.int (1 : Int32)), .val (.ref a77), .val (.ref a97), .val (.ref r113), .unset, .unset, .unset, .unset] [(.ref r113)]))
    obtain ⟨cq126, kq126, q126a, q126b, q126c⟩ := isOf hZ93 rfl f115
    obtain ⟨_, _, ⟨T126, L126, k126, n126⟩, -, X126, ⟨Lc126, hQ126, l126, y126, z126⟩, st126⟩ := X113.virtualBack hx (y := (⟨"com/example/usnea/usnea/reduction/Role", "inverted", "()Lcom/example/usnea/usnea/reduction/Role;"⟩ : MethodName)) (z := (⟨"com/example/usnea/usnea/reduction/Role", "inverted", "()Lcom/example/usnea/usnea/reduction/Role;"⟩ : MethodName)) hown93 (mvT hZ93 (hw _ (List.mem_of_getElem? (i := 62) rfl))) (mvT hZ93 (hw _ (List.mem_of_getElem? (i := 63) rfl))) (notFace_of_selects (args := #[]) (mvT hZ93 (hw _ (List.mem_of_getElem? (i := 65) rfl)))) (mvT hZ93 (hw _ (List.mem_of_getElem? (i := 65) rfl))) (mvT hZ93 (hw _ (List.mem_of_getElem? (i := 64) rfl))) (by decide) (backOf (W := 0) (rm_inv0 l Z a0 hw [] r113 a77 T113.heap n0 Z124 f116 f117) hZ93 (hw _ (List.mem_of_getElem? (i := 66) rfl)) (hw _ (List.mem_of_getElem? (i := 48) rfl)) (by decide) (by decide)) q126a q126c (g := (mkF m 55 #[.val (.int p0), .val (.int p1), .val (.int p2), .val (.int (1 : Int32)), .val (.ref a77), .val (.ref a97), .val (.ref r113), .unset, .unset, .unset, .unset] [(.ref r113)])) rfl (by rw [hml]; rfl) (Steps.refl _) (argsL := []) (rest := []) (lenOf own_pd__28__29_Lcom_2f_example_2f_usnea_2f_usnea_2f_reduction_2f_Role_3b_ rfl) rfl (by show 2 * 0 + _ ≤ _; exact Nat.le_of_eq rfl) (hb hby at_55) (fun _ _ => ⟨rfl, rfl, (by decide : 7 + 1 ≤ _), (by decide : 31 + 2 ≤ _)⟩)
    dsimp only [Pt.U, Pt.locs, Pt.cells, Pt.slots] at X126 l126 y126 z126 st126 hQ126
    subst l126 y126 z126
    obtain ⟨r126, rfl, Nq126, K126, f127, f128, f129, f130⟩ := hQ126
    have N126 := Fr.app N113 Nq126
    refine own_Goes.tr st126 ?_
    have F131 : Exa Z T113.heap a77 "com/example/usnea/usnea/datalog/Predicate" := (F118.keep K113)
    have ne132 : a77 ≠ r126 := Nat.ne_of_lt (Nat.lt_of_lt_of_le F131.lt f127)
    have F133 : Exa Z T113.heap r83 "java/lang/String" := (F120.keep K113)
    have ne134 : r83 ≠ r126 := Nat.ne_of_lt (Nat.lt_of_lt_of_le F133.lt f127)
    have F135 : Exa Z T113.heap a97 "com/example/usnea/usnea/reduction/Role" := (f107.keep K113)
    have ne136 : a97 ≠ r126 := Nat.ne_of_lt (Nat.lt_of_lt_of_le F135.lt f127)
    have ne137 : r113 ≠ r126 := Nat.ne_of_lt (Nat.lt_of_lt_of_le f115.lt f127)
    have ge_r126 : n0 ≤ r126 := Nat.le_trans Z124 f127
    have hk138 := Nat.le_trans hk123 K126.1
    have Z139 : n0 ≤ T126.heap.size := Nat.le_trans Z124 K126.1
    have O140 := O125.keep K126 all0
    show own_Goes p.tables e below P (T126.setTop (mkF m 58 #[.val (.int p0), .val (.int p1), .val (.int p2), .val (.int (1 : Int32)), .val (.ref a77), .val (.ref a97), .val (.ref r113), .unset, .unset, .unset, .unset] [(.ref r126)]))
    refine own_Goes.st ?_ (fun _ k => XS.astore X126.here hx rfl (hb hby at_58) rfl rfl (l' := #[.val (.int p0), .val (.int p1), .val (.int p2), .val (.int (1 : Int32)), .val (.ref a77), .val (.ref a97), .val (.ref r113), .val (.ref r126), .unset, .unset, .unset]) rfl k)
    show own_Goes p.tables e below P (T126.setTop (mkF m 60 #[.val (.int p0), .val (.int p1), .val (.int p2), .val (.int (1 : Int32)), .val (.ref a77), .val (.ref a97), .val (.ref r113), .val (.ref r126), .unset, .unset, .unset] []))
    refine own_Goes.st ?_ (fun _ k => XS.aload X126.here hx rfl (hb hby at_60) rfl rfl k)
    show own_Goes p.tables e below P (T126.setTop (mkF m 62 #[.val (.int p0), .val (.int p1), .val (.int p2), .val (.int (1 : Int32)), .val (.ref a77), .val (.ref a97), .val (.ref r113), .val (.ref r126), .unset, .unset, .unset] [(.ref r113)]))
    have F141 : Fld Z T126.heap r113 "com/example/usnea/usnea/reduction/Role" "predicate" "Lcom/example/usnea/usnea/datalog/Predicate;" (.ref a77) := (f116.keep K126 nin0)
    have F143 : Exa Z T126.heap r113 "com/example/usnea/usnea/reduction/Role" := (f115.keep K126)
    obtain ⟨cq142, kq142, q142a, q142b, q142c⟩ := isOf hZ93 rfl F143
    obtain ⟨_, _, ⟨T142, L142, k142, n142⟩, -, X142, ⟨Lc142, hQ142, l142, y142, z142⟩, st142⟩ := X126.virtualBack hx (y := (⟨"com/example/usnea/usnea/reduction/Role", "predicate", "()Lcom/example/usnea/usnea/datalog/Predicate;"⟩ : MethodName)) (z := (⟨"com/example/usnea/usnea/reduction/Role", "predicate", "()Lcom/example/usnea/usnea/datalog/Predicate;"⟩ : MethodName)) hown93 (mvT hZ93 (hw _ (List.mem_of_getElem? (i := 69) rfl))) (mvT hZ93 (hw _ (List.mem_of_getElem? (i := 70) rfl))) (notFace_of_selects (args := #[]) (mvT hZ93 (hw _ (List.mem_of_getElem? (i := 72) rfl)))) (mvT hZ93 (hw _ (List.mem_of_getElem? (i := 72) rfl))) (mvT hZ93 (hw _ (List.mem_of_getElem? (i := 71) rfl))) (by decide) (backOf (W := 0) (rm_pred l Z a0 hw [] r113 a77 T126.heap n0 Z139 F141) hZ93 (hw _ (List.mem_of_getElem? (i := 73) rfl)) (hw _ (List.mem_of_getElem? (i := 48) rfl)) (by decide) (by decide)) q142a q142c (g := (mkF m 62 #[.val (.int p0), .val (.int p1), .val (.int p2), .val (.int (1 : Int32)), .val (.ref a77), .val (.ref a97), .val (.ref r113), .val (.ref r126), .unset, .unset, .unset] [(.ref r113)])) rfl (by rw [hml]; rfl) (Steps.refl _) (argsL := []) (rest := []) (lenOf own_pd__28__29_Lcom_2f_example_2f_usnea_2f_usnea_2f_datalog_2f_Predicate_3b_ rfl) rfl (by show 2 * 0 + _ ≤ _; exact Nat.le_of_eq rfl) (hb hby at_62) (fun _ _ => ⟨rfl, rfl, (by decide : 8 + 0 ≤ _), (by decide : 33 + 0 ≤ _)⟩)
    dsimp only [Pt.U, Pt.locs, Pt.cells, Pt.slots] at X142 l142 y142 z142 st142 hQ142
    subst l142 y142 z142
    obtain ⟨rfl, Nq142, e142⟩ := hQ142
    have N142 := Fr.app N126 Nq142
    refine own_Goes.tr st142 ?_
    show own_Goes p.tables e below P (T142.setTop (mkF m 65 #[.val (.int p0), .val (.int p1), .val (.int p2), .val (.int (1 : Int32)), .val (.ref a77), .val (.ref a97), .val (.ref r113), .val (.ref r126), .unset, .unset, .unset] [(.ref a77)]))
    refine own_Goes.st ?_ (fun _ k => XS.aload X142.here hx rfl (hb hby at_65) rfl rfl k)
    show own_Goes p.tables e below P (T142.setTop (mkF m 67 #[.val (.int p0), .val (.int p1), .val (.int p2), .val (.int (1 : Int32)), .val (.ref a77), .val (.ref a97), .val (.ref r113), .val (.ref r126), .unset, .unset, .unset] [(.ref a77), (.ref a77)]))
    refine own_Goes.st ?_ (fun _ k => Jvm.RoadKit.acmp (g := (mkF m 67 #[.val (.int p0), .val (.int p1), .val (.int p2), .val (.int (1 : Int32)), .val (.ref a77), .val (.ref a97), .val (.ref r113), .val (.ref r126), .unset, .unset, .unset] [(.ref a77), (.ref a77)])) X142 hx rfl rfl rfl (pc0 := 67) (pc' := 70) (same := true) rfl (hb hby at_67) rfl (decide_eq_true rfl) (by decide) (by decide) k)
    show own_Goes p.tables e below P (T142.setTop (mkF m 70 #[.val (.int p0), .val (.int p1), .val (.int p2), .val (.int (1 : Int32)), .val (.ref a77), .val (.ref a97), .val (.ref r113), .val (.ref r126), .unset, .unset, .unset] []))
    refine own_Goes.st ?_ (fun _ k => XS.aload X142.here hx rfl (hb hby at_70) rfl rfl k)
    show own_Goes p.tables e below P (T142.setTop (mkF m 72 #[.val (.int p0), .val (.int p1), .val (.int p2), .val (.int (1 : Int32)), .val (.ref a77), .val (.ref a97), .val (.ref r113), .val (.ref r126), .unset, .unset, .unset] [(.ref r113)]))
    have F144 : Fld Z T126.heap r113 "com/example/usnea/usnea/reduction/Role" "inverse" "Z" (.int (0 : Int32)) := (f117.keep K126 nin0)
    obtain ⟨cq145, kq145, q145a, q145b, q145c⟩ := isOf hZ93 e142 F143
    obtain ⟨_, _, ⟨T145, L145, k145, n145⟩, -, X145, ⟨Lc145, hQ145, l145, y145, z145⟩, st145⟩ := X142.virtualBack hx (y := (⟨"com/example/usnea/usnea/reduction/Role", "inverse", "()Z"⟩ : MethodName)) (z := (⟨"com/example/usnea/usnea/reduction/Role", "inverse", "()Z"⟩ : MethodName)) hown93 (mvT hZ93 (hw _ (List.mem_of_getElem? (i := 74) rfl))) (mvT hZ93 (hw _ (List.mem_of_getElem? (i := 75) rfl))) (notFace_of_selects (args := #[]) (mvT hZ93 (hw _ (List.mem_of_getElem? (i := 77) rfl)))) (mvT hZ93 (hw _ (List.mem_of_getElem? (i := 77) rfl))) (mvT hZ93 (hw _ (List.mem_of_getElem? (i := 76) rfl))) (by decide) (backOf (W := 0) (rm_isv0 l Z a0 hw [] r113 T126.heap n0 Z139 F144) hZ93 (hw _ (List.mem_of_getElem? (i := 78) rfl)) (hw _ (List.mem_of_getElem? (i := 48) rfl)) (by decide) (by decide)) q145a q145c (g := (mkF m 72 #[.val (.int p0), .val (.int p1), .val (.int p2), .val (.int (1 : Int32)), .val (.ref a77), .val (.ref a97), .val (.ref r113), .val (.ref r126), .unset, .unset, .unset] [(.ref r113)])) rfl (by rw [hml]; rfl) (Steps.refl _) (argsL := []) (rest := []) (lenOf own_pd__28__29_Z rfl) rfl (by show 2 * 0 + _ ≤ _; exact Nat.le_of_eq rfl) (hb hby at_72) (fun _ _ => ⟨rfl, e142, (by decide : 8 + 0 ≤ _), (by decide : 33 + 0 ≤ _)⟩)
    dsimp only [Pt.U, Pt.locs, Pt.cells, Pt.slots] at X145 l145 y145 z145 st145 hQ145
    subst l145 y145 z145
    obtain ⟨rfl, Nq145, e145⟩ := hQ145
    have N145 := Fr.app N142 Nq145
    refine own_Goes.tr st145 ?_
    show own_Goes p.tables e below P (T145.setTop (mkF m 75 #[.val (.int p0), .val (.int p1), .val (.int p2), .val (.int (1 : Int32)), .val (.ref a77), .val (.ref a97), .val (.ref r113), .val (.ref r126), .unset, .unset, .unset] [(.int (0 : Int32))]))
    refine own_Goes.st ?_ (fun _ k => XS.iloadN X145.here hx rfl (hb hby at_75) rfl k)
    show own_Goes p.tables e below P (T145.setTop (mkF m 76 #[.val (.int p0), .val (.int p1), .val (.int p2), .val (.int (1 : Int32)), .val (.ref a77), .val (.ref a97), .val (.ref r113), .val (.ref r126), .unset, .unset, .unset] [(.int (1 : Int32)), (.int (0 : Int32))]))
    refine own_Goes.st ?_ (fun _ k => XS.ifYes X145.here hx rfl (pc0 := 76) (pc' := 83) rfl (hb hby at_76) rfl ((if0 _ _).trans (feq (by decide : ¬ ((1 : Int32) = (0 : Int32)))).2) (by decide) (by decide) k)
    show own_Goes p.tables e below P (T145.setTop (mkF m 83 #[.val (.int p0), .val (.int p1), .val (.int p2), .val (.int (1 : Int32)), .val (.ref a77), .val (.ref a97), .val (.ref r113), .val (.ref r126), .unset, .unset, .unset] [(.int (0 : Int32))]))
    refine own_Goes.st ?_ (fun _ k => XS.iconst X145.here hx rfl (hb hby at_83) k)
    show own_Goes p.tables e below P (T145.setTop (mkF m 84 #[.val (.int p0), .val (.int p1), .val (.int p2), .val (.int (1 : Int32)), .val (.ref a77), .val (.ref a97), .val (.ref r113), .val (.ref r126), .unset, .unset, .unset] [(.int (0 : Int32)), (.int (0 : Int32))]))
    refine own_Goes.st ?_ (fun _ k => XS.icmpNo X145.here hx rfl (hb hby at_84) rfl (teq (by decide : (0 : Int32) = (0 : Int32))).2 k)
    show own_Goes p.tables e below P (T145.setTop (mkF m 87 #[.val (.int p0), .val (.int p1), .val (.int p2), .val (.int (1 : Int32)), .val (.ref a77), .val (.ref a97), .val (.ref r113), .val (.ref r126), .unset, .unset, .unset] []))
    refine own_Goes.st ?_ (fun _ k => XS.iconst X145.here hx rfl (hb hby at_87) k)
    show own_Goes p.tables e below P (T145.setTop (mkF m 88 #[.val (.int p0), .val (.int p1), .val (.int p2), .val (.int (1 : Int32)), .val (.ref a77), .val (.ref a97), .val (.ref r113), .val (.ref r126), .unset, .unset, .unset] [(.int (1 : Int32))]))
    refine own_Goes.st ?_ (fun _ k => XS.goto X145.here hx rfl (pc0 := 88) (pc' := 92) rfl (hb hby at_88) (by decide) (by decide) k)
    show own_Goes p.tables e below P (T145.setTop (mkF m 92 #[.val (.int p0), .val (.int p1), .val (.int p2), .val (.int (1 : Int32)), .val (.ref a77), .val (.ref a97), .val (.ref r113), .val (.ref r126), .unset, .unset, .unset] [(.int (1 : Int32))]))
    refine own_Goes.st ?_ (fun _ k => XS.istore X145.here hx rfl (hb hby at_92) rfl (l' := #[.val (.int p0), .val (.int p1), .val (.int p2), .val (.int (1 : Int32)), .val (.ref a77), .val (.ref a97), .val (.ref r113), .val (.ref r126), .val (.int (1 : Int32)), .unset, .unset]) rfl k)
    show own_Goes p.tables e below P (T145.setTop (mkF m 94 #[.val (.int p0), .val (.int p1), .val (.int p2), .val (.int (1 : Int32)), .val (.ref a77), .val (.ref a97), .val (.ref r113), .val (.ref r126), .val (.int (1 : Int32)), .unset, .unset] []))
    refine own_Goes.st ?_ (fun _ k => XS.aload X145.here hx rfl (hb hby at_94) rfl rfl k)
    show own_Goes p.tables e below P (T145.setTop (mkF m 96 #[.val (.int p0), .val (.int p1), .val (.int p2), .val (.int (1 : Int32)), .val (.ref a77), .val (.ref a97), .val (.ref r113), .val (.ref r126), .val (.int (1 : Int32)), .unset, .unset] [(.ref a97)]))
    have F146 : Fld Z T126.heap a97 "com/example/usnea/usnea/reduction/Role" "predicate" "Lcom/example/usnea/usnea/datalog/Predicate;" (.ref a77) := ((f108.keep K113 nin0).keep K126 nin0)
    have F148 : Exa Z T126.heap a97 "com/example/usnea/usnea/reduction/Role" := (F135.keep K126)
    obtain ⟨cq147, kq147, q147a, q147b, q147c⟩ := isOf hZ93 e145 F148
    obtain ⟨_, _, ⟨T147, L147, k147, n147⟩, -, X147, ⟨Lc147, hQ147, l147, y147, z147⟩, st147⟩ := X145.virtualBack hx (y := (⟨"com/example/usnea/usnea/reduction/Role", "predicate", "()Lcom/example/usnea/usnea/datalog/Predicate;"⟩ : MethodName)) (z := (⟨"com/example/usnea/usnea/reduction/Role", "predicate", "()Lcom/example/usnea/usnea/datalog/Predicate;"⟩ : MethodName)) hown93 (mvT hZ93 (hw _ (List.mem_of_getElem? (i := 69) rfl))) (mvT hZ93 (hw _ (List.mem_of_getElem? (i := 70) rfl))) (notFace_of_selects (args := #[]) (mvT hZ93 (hw _ (List.mem_of_getElem? (i := 72) rfl)))) (mvT hZ93 (hw _ (List.mem_of_getElem? (i := 72) rfl))) (mvT hZ93 (hw _ (List.mem_of_getElem? (i := 71) rfl))) (by decide) (backOf (W := 0) (rm_pred l Z a0 hw [] a97 a77 T126.heap n0 Z139 F146) hZ93 (hw _ (List.mem_of_getElem? (i := 73) rfl)) (hw _ (List.mem_of_getElem? (i := 48) rfl)) (by decide) (by decide)) q147a q147c (g := (mkF m 96 #[.val (.int p0), .val (.int p1), .val (.int p2), .val (.int (1 : Int32)), .val (.ref a77), .val (.ref a97), .val (.ref r113), .val (.ref r126), .val (.int (1 : Int32)), .unset, .unset] [(.ref a97)])) rfl (by rw [hml]; rfl) (Steps.refl _) (argsL := []) (rest := []) (lenOf own_pd__28__29_Lcom_2f_example_2f_usnea_2f_usnea_2f_datalog_2f_Predicate_3b_ rfl) rfl (by show 2 * 0 + _ ≤ _; exact Nat.le_of_eq rfl) (hb hby at_96) (fun _ _ => ⟨rfl, e145, (by decide : 8 + 0 ≤ _), (by decide : 33 + 0 ≤ _)⟩)
    dsimp only [Pt.U, Pt.locs, Pt.cells, Pt.slots] at X147 l147 y147 z147 st147 hQ147
    subst l147 y147 z147
    obtain ⟨rfl, Nq147, e147⟩ := hQ147
    have N147 := Fr.app N145 Nq147
    refine own_Goes.tr st147 ?_
    show own_Goes p.tables e below P (T147.setTop (mkF m 99 #[.val (.int p0), .val (.int p1), .val (.int p2), .val (.int (1 : Int32)), .val (.ref a77), .val (.ref a97), .val (.ref r113), .val (.ref r126), .val (.int (1 : Int32)), .unset, .unset] [(.ref a77)]))
    refine own_Goes.st ?_ (fun _ k => XS.aload X147.here hx rfl (hb hby at_99) rfl rfl k)
    show own_Goes p.tables e below P (T147.setTop (mkF m 101 #[.val (.int p0), .val (.int p1), .val (.int p2), .val (.int (1 : Int32)), .val (.ref a77), .val (.ref a97), .val (.ref r113), .val (.ref r126), .val (.int (1 : Int32)), .unset, .unset] [(.ref a77), (.ref a77)]))
    refine own_Goes.st ?_ (fun _ k => Jvm.RoadKit.acmp (g := (mkF m 101 #[.val (.int p0), .val (.int p1), .val (.int p2), .val (.int (1 : Int32)), .val (.ref a77), .val (.ref a97), .val (.ref r113), .val (.ref r126), .val (.int (1 : Int32)), .unset, .unset] [(.ref a77), (.ref a77)])) X147 hx rfl rfl rfl (pc0 := 101) (pc' := 104) (same := true) rfl (hb hby at_101) rfl (decide_eq_true rfl) (by decide) (by decide) k)
    show own_Goes p.tables e below P (T147.setTop (mkF m 104 #[.val (.int p0), .val (.int p1), .val (.int p2), .val (.int (1 : Int32)), .val (.ref a77), .val (.ref a97), .val (.ref r113), .val (.ref r126), .val (.int (1 : Int32)), .unset, .unset] []))
    refine own_Goes.st ?_ (fun _ k => XS.aload X147.here hx rfl (hb hby at_104) rfl rfl k)
    show own_Goes p.tables e below P (T147.setTop (mkF m 106 #[.val (.int p0), .val (.int p1), .val (.int p2), .val (.int (1 : Int32)), .val (.ref a77), .val (.ref a97), .val (.ref r113), .val (.ref r126), .val (.int (1 : Int32)), .unset, .unset] [(.ref a97)]))
    have F149 : Fld Z T126.heap a97 "com/example/usnea/usnea/reduction/Role" "inverse" "Z" (.int (1 : Int32)) := ((f109.keep K113 nin0).keep K126 nin0)
    obtain ⟨cq150, kq150, q150a, q150b, q150c⟩ := isOf hZ93 e147 F148
    obtain ⟨_, _, ⟨T150, L150, k150, n150⟩, -, X150, ⟨Lc150, hQ150, l150, y150, z150⟩, st150⟩ := X147.virtualBack hx (y := (⟨"com/example/usnea/usnea/reduction/Role", "inverse", "()Z"⟩ : MethodName)) (z := (⟨"com/example/usnea/usnea/reduction/Role", "inverse", "()Z"⟩ : MethodName)) hown93 (mvT hZ93 (hw _ (List.mem_of_getElem? (i := 74) rfl))) (mvT hZ93 (hw _ (List.mem_of_getElem? (i := 75) rfl))) (notFace_of_selects (args := #[]) (mvT hZ93 (hw _ (List.mem_of_getElem? (i := 77) rfl)))) (mvT hZ93 (hw _ (List.mem_of_getElem? (i := 77) rfl))) (mvT hZ93 (hw _ (List.mem_of_getElem? (i := 76) rfl))) (by decide) (backOf (W := 0) (rm_isv1 l Z a0 hw [] a97 T126.heap n0 Z139 F149) hZ93 (hw _ (List.mem_of_getElem? (i := 78) rfl)) (hw _ (List.mem_of_getElem? (i := 48) rfl)) (by decide) (by decide)) q150a q150c (g := (mkF m 106 #[.val (.int p0), .val (.int p1), .val (.int p2), .val (.int (1 : Int32)), .val (.ref a77), .val (.ref a97), .val (.ref r113), .val (.ref r126), .val (.int (1 : Int32)), .unset, .unset] [(.ref a97)])) rfl (by rw [hml]; rfl) (Steps.refl _) (argsL := []) (rest := []) (lenOf own_pd__28__29_Z rfl) rfl (by show 2 * 0 + _ ≤ _; exact Nat.le_of_eq rfl) (hb hby at_106) (fun _ _ => ⟨rfl, e147, (by decide : 8 + 0 ≤ _), (by decide : 33 + 0 ≤ _)⟩)
    dsimp only [Pt.U, Pt.locs, Pt.cells, Pt.slots] at X150 l150 y150 z150 st150 hQ150
    subst l150 y150 z150
    obtain ⟨rfl, Nq150, e150⟩ := hQ150
    have N150 := Fr.app N147 Nq150
    refine own_Goes.tr st150 ?_
    show own_Goes p.tables e below P (T150.setTop (mkF m 109 #[.val (.int p0), .val (.int p1), .val (.int p2), .val (.int (1 : Int32)), .val (.ref a77), .val (.ref a97), .val (.ref r113), .val (.ref r126), .val (.int (1 : Int32)), .unset, .unset] [(.int (1 : Int32))]))
    refine own_Goes.st ?_ (fun _ k => XS.iloadN X150.here hx rfl (hb hby at_109) rfl k)
    show own_Goes p.tables e below P (T150.setTop (mkF m 110 #[.val (.int p0), .val (.int p1), .val (.int p2), .val (.int (1 : Int32)), .val (.ref a77), .val (.ref a97), .val (.ref r113), .val (.ref r126), .val (.int (1 : Int32)), .unset, .unset] [(.int (1 : Int32)), (.int (1 : Int32))]))
    refine own_Goes.st ?_ (fun _ k => XS.icmpNo X150.here hx rfl (hb hby at_110) rfl (teq (by decide : (1 : Int32) = (1 : Int32))).2 k)
    show own_Goes p.tables e below P (T150.setTop (mkF m 113 #[.val (.int p0), .val (.int p1), .val (.int p2), .val (.int (1 : Int32)), .val (.ref a77), .val (.ref a97), .val (.ref r113), .val (.ref r126), .val (.int (1 : Int32)), .unset, .unset] []))
    refine own_Goes.st ?_ (fun _ k => XS.iconst X150.here hx rfl (hb hby at_113) k)
    show own_Goes p.tables e below P (T150.setTop (mkF m 114 #[.val (.int p0), .val (.int p1), .val (.int p2), .val (.int (1 : Int32)), .val (.ref a77), .val (.ref a97), .val (.ref r113), .val (.ref r126), .val (.int (1 : Int32)), .unset, .unset] [(.int (1 : Int32))]))
    refine own_Goes.st ?_ (fun _ k => XS.goto X150.here hx rfl (pc0 := 114) (pc' := 118) rfl (hb hby at_114) (by decide) (by decide) k)
    show own_Goes p.tables e below P (T150.setTop (mkF m 118 #[.val (.int p0), .val (.int p1), .val (.int p2), .val (.int (1 : Int32)), .val (.ref a77), .val (.ref a97), .val (.ref r113), .val (.ref r126), .val (.int (1 : Int32)), .unset, .unset] [(.int (1 : Int32))]))
    refine own_Goes.st ?_ (fun _ k => XS.istore X150.here hx rfl (hb hby at_118) rfl (l' := #[.val (.int p0), .val (.int p1), .val (.int p2), .val (.int (1 : Int32)), .val (.ref a77), .val (.ref a97), .val (.ref r113), .val (.ref r126), .val (.int (1 : Int32)), .val (.int (1 : Int32)), .unset]) rfl k)
    show own_Goes p.tables e below P (T150.setTop (mkF m 120 #[.val (.int p0), .val (.int p1), .val (.int p2), .val (.int (1 : Int32)), .val (.ref a77), .val (.ref a97), .val (.ref r113), .val (.ref r126), .val (.int (1 : Int32)), .val (.int (1 : Int32)), .unset] []))
    refine own_Goes.st ?_ (fun _ k => XS.aload X150.here hx rfl (hb hby at_120) rfl rfl k)
    show own_Goes p.tables e below P (T150.setTop (mkF m 122 #[.val (.int p0), .val (.int p1), .val (.int p2), .val (.int (1 : Int32)), .val (.ref a77), .val (.ref a97), .val (.ref r113), .val (.ref r126), .val (.int (1 : Int32)), .val (.int (1 : Int32)), .unset] [(.ref r126)]))
    obtain ⟨cq151, kq151, q151a, q151b, q151c⟩ := isOf hZ93 e150 f128
    obtain ⟨_, _, ⟨T151, L151, k151, n151⟩, -, X151, ⟨Lc151, hQ151, l151, y151, z151⟩, st151⟩ := X150.virtualBack hx (y := (⟨"com/example/usnea/usnea/reduction/Role", "predicate", "()Lcom/example/usnea/usnea/datalog/Predicate;"⟩ : MethodName)) (z := (⟨"com/example/usnea/usnea/reduction/Role", "predicate", "()Lcom/example/usnea/usnea/datalog/Predicate;"⟩ : MethodName)) hown93 (mvT hZ93 (hw _ (List.mem_of_getElem? (i := 69) rfl))) (mvT hZ93 (hw _ (List.mem_of_getElem? (i := 70) rfl))) (notFace_of_selects (args := #[]) (mvT hZ93 (hw _ (List.mem_of_getElem? (i := 72) rfl)))) (mvT hZ93 (hw _ (List.mem_of_getElem? (i := 72) rfl))) (mvT hZ93 (hw _ (List.mem_of_getElem? (i := 71) rfl))) (by decide) (backOf (W := 0) (rm_pred l Z a0 hw [] r126 a77 T126.heap n0 Z139 f129) hZ93 (hw _ (List.mem_of_getElem? (i := 73) rfl)) (hw _ (List.mem_of_getElem? (i := 48) rfl)) (by decide) (by decide)) q151a q151c (g := (mkF m 122 #[.val (.int p0), .val (.int p1), .val (.int p2), .val (.int (1 : Int32)), .val (.ref a77), .val (.ref a97), .val (.ref r113), .val (.ref r126), .val (.int (1 : Int32)), .val (.int (1 : Int32)), .unset] [(.ref r126)])) rfl (by rw [hml]; rfl) (Steps.refl _) (argsL := []) (rest := []) (lenOf own_pd__28__29_Lcom_2f_example_2f_usnea_2f_usnea_2f_datalog_2f_Predicate_3b_ rfl) rfl (by show 2 * 0 + _ ≤ _; exact Nat.le_of_eq rfl) (hb hby at_122) (fun _ _ => ⟨rfl, e150, (by decide : 8 + 0 ≤ _), (by decide : 33 + 0 ≤ _)⟩)
    dsimp only [Pt.U, Pt.locs, Pt.cells, Pt.slots] at X151 l151 y151 z151 st151 hQ151
    subst l151 y151 z151
    obtain ⟨rfl, Nq151, e151⟩ := hQ151
    have N151 := Fr.app N150 Nq151
    refine own_Goes.tr st151 ?_
    show own_Goes p.tables e below P (T151.setTop (mkF m 125 #[.val (.int p0), .val (.int p1), .val (.int p2), .val (.int (1 : Int32)), .val (.ref a77), .val (.ref a97), .val (.ref r113), .val (.ref r126), .val (.int (1 : Int32)), .val (.int (1 : Int32)), .unset] [(.ref a77)]))
    refine own_Goes.st ?_ (fun _ k => XS.aload X151.here hx rfl (hb hby at_125) rfl rfl k)
    show own_Goes p.tables e below P (T151.setTop (mkF m 127 #[.val (.int p0), .val (.int p1), .val (.int p2), .val (.int (1 : Int32)), .val (.ref a77), .val (.ref a97), .val (.ref r113), .val (.ref r126), .val (.int (1 : Int32)), .val (.int (1 : Int32)), .unset] [(.ref a77), (.ref a77)]))
    refine own_Goes.st ?_ (fun _ k => Jvm.RoadKit.acmp (g := (mkF m 127 #[.val (.int p0), .val (.int p1), .val (.int p2), .val (.int (1 : Int32)), .val (.ref a77), .val (.ref a97), .val (.ref r113), .val (.ref r126), .val (.int (1 : Int32)), .val (.int (1 : Int32)), .unset] [(.ref a77), (.ref a77)])) X151 hx rfl rfl rfl (pc0 := 127) (pc' := 130) (same := true) rfl (hb hby at_127) rfl (decide_eq_true rfl) (by decide) (by decide) k)
    show own_Goes p.tables e below P (T151.setTop (mkF m 130 #[.val (.int p0), .val (.int p1), .val (.int p2), .val (.int (1 : Int32)), .val (.ref a77), .val (.ref a97), .val (.ref r113), .val (.ref r126), .val (.int (1 : Int32)), .val (.int (1 : Int32)), .unset] []))
    refine own_Goes.st ?_ (fun _ k => XS.aload X151.here hx rfl (hb hby at_130) rfl rfl k)
    show own_Goes p.tables e below P (T151.setTop (mkF m 132 #[.val (.int p0), .val (.int p1), .val (.int p2), .val (.int (1 : Int32)), .val (.ref a77), .val (.ref a97), .val (.ref r113), .val (.ref r126), .val (.int (1 : Int32)), .val (.int (1 : Int32)), .unset] [(.ref r126)]))
    obtain ⟨cq152, kq152, q152a, q152b, q152c⟩ := isOf hZ93 e151 f128
    obtain ⟨_, _, ⟨T152, L152, k152, n152⟩, -, X152, ⟨Lc152, hQ152, l152, y152, z152⟩, st152⟩ := X151.virtualBack hx (y := (⟨"com/example/usnea/usnea/reduction/Role", "inverse", "()Z"⟩ : MethodName)) (z := (⟨"com/example/usnea/usnea/reduction/Role", "inverse", "()Z"⟩ : MethodName)) hown93 (mvT hZ93 (hw _ (List.mem_of_getElem? (i := 74) rfl))) (mvT hZ93 (hw _ (List.mem_of_getElem? (i := 75) rfl))) (notFace_of_selects (args := #[]) (mvT hZ93 (hw _ (List.mem_of_getElem? (i := 77) rfl)))) (mvT hZ93 (hw _ (List.mem_of_getElem? (i := 77) rfl))) (mvT hZ93 (hw _ (List.mem_of_getElem? (i := 76) rfl))) (by decide) (backOf (W := 0) (rm_isv1 l Z a0 hw [] r126 T126.heap n0 Z139 f130) hZ93 (hw _ (List.mem_of_getElem? (i := 78) rfl)) (hw _ (List.mem_of_getElem? (i := 48) rfl)) (by decide) (by decide)) q152a q152c (g := (mkF m 132 #[.val (.int p0), .val (.int p1), .val (.int p2), .val (.int (1 : Int32)), .val (.ref a77), .val (.ref a97), .val (.ref r113), .val (.ref r126), .val (.int (1 : Int32)), .val (.int (1 : Int32)), .unset] [(.ref r126)])) rfl (by rw [hml]; rfl) (Steps.refl _) (argsL := []) (rest := []) (lenOf own_pd__28__29_Z rfl) rfl (by show 2 * 0 + _ ≤ _; exact Nat.le_of_eq rfl) (hb hby at_132) (fun _ _ => ⟨rfl, e151, (by decide : 8 + 0 ≤ _), (by decide : 33 + 0 ≤ _)⟩)
    dsimp only [Pt.U, Pt.locs, Pt.cells, Pt.slots] at X152 l152 y152 z152 st152 hQ152
    subst l152 y152 z152
    obtain ⟨rfl, Nq152, e152⟩ := hQ152
    have N152 := Fr.app N151 Nq152
    refine own_Goes.tr st152 ?_
    show own_Goes p.tables e below P (T152.setTop (mkF m 135 #[.val (.int p0), .val (.int p1), .val (.int p2), .val (.int (1 : Int32)), .val (.ref a77), .val (.ref a97), .val (.ref r113), .val (.ref r126), .val (.int (1 : Int32)), .val (.int (1 : Int32)), .unset] [(.int (1 : Int32))]))
    refine own_Goes.st ?_ (fun _ k => XS.iloadN X152.here hx rfl (hb hby at_135) rfl k)
    show own_Goes p.tables e below P (T152.setTop (mkF m 136 #[.val (.int p0), .val (.int p1), .val (.int p2), .val (.int (1 : Int32)), .val (.ref a77), .val (.ref a97), .val (.ref r113), .val (.ref r126), .val (.int (1 : Int32)), .val (.int (1 : Int32)), .unset] [(.int (1 : Int32)), (.int (1 : Int32))]))
    refine own_Goes.st ?_ (fun _ k => XS.icmpNo X152.here hx rfl (hb hby at_136) rfl (teq (by decide : (1 : Int32) = (1 : Int32))).2 k)
    show own_Goes p.tables e below P (T152.setTop (mkF m 139 #[.val (.int p0), .val (.int p1), .val (.int p2), .val (.int (1 : Int32)), .val (.ref a77), .val (.ref a97), .val (.ref r113), .val (.ref r126), .val (.int (1 : Int32)), .val (.int (1 : Int32)), .unset] []))
    refine own_Goes.st ?_ (fun _ k => XS.iconst X152.here hx rfl (hb hby at_139) k)
    show own_Goes p.tables e below P (T152.setTop (mkF m 140 #[.val (.int p0), .val (.int p1), .val (.int p2), .val (.int (1 : Int32)), .val (.ref a77), .val (.ref a97), .val (.ref r113), .val (.ref r126), .val (.int (1 : Int32)), .val (.int (1 : Int32)), .unset] [(.int (1 : Int32))]))
    refine own_Goes.st ?_ (fun _ k => XS.goto X152.here hx rfl (pc0 := 140) (pc' := 144) rfl (hb hby at_140) (by decide) (by decide) k)
    show own_Goes p.tables e below P (T152.setTop (mkF m 144 #[.val (.int p0), .val (.int p1), .val (.int p2), .val (.int (1 : Int32)), .val (.ref a77), .val (.ref a97), .val (.ref r113), .val (.ref r126), .val (.int (1 : Int32)), .val (.int (1 : Int32)), .unset] [(.int (1 : Int32))]))
    refine own_Goes.st ?_ (fun _ k => XS.istore X152.here hx rfl (hb hby at_144) rfl (l' := #[.val (.int p0), .val (.int p1), .val (.int p2), .val (.int (1 : Int32)), .val (.ref a77), .val (.ref a97), .val (.ref r113), .val (.ref r126), .val (.int (1 : Int32)), .val (.int (1 : Int32)), .val (.int (1 : Int32))]) rfl k)
    show own_Goes p.tables e below P (T152.setTop (mkF m 146 #[.val (.int p0), .val (.int p1), .val (.int p2), .val (.int (1 : Int32)), .val (.ref a77), .val (.ref a97), .val (.ref r113), .val (.ref r126), .val (.int (1 : Int32)), .val (.int (1 : Int32)), .val (.int (1 : Int32))] []))
    refine own_Goes.st ?_ (fun _ k => XS.iload X152.here hx rfl (hb hby at_146) rfl k)
    show own_Goes p.tables e below P (T152.setTop (mkF m 148 #[.val (.int p0), .val (.int p1), .val (.int p2), .val (.int (1 : Int32)), .val (.ref a77), .val (.ref a97), .val (.ref r113), .val (.ref r126), .val (.int (1 : Int32)), .val (.int (1 : Int32)), .val (.int (1 : Int32))] [(.int (1 : Int32))]))
    refine own_Goes.st ?_ (fun _ k => XS.ifNo X152.here hx rfl (hb hby at_148) rfl ((if0 _ _).trans (feq (by decide : ¬ ((1 : Int32) = (0 : Int32)))).1) k)
    show own_Goes p.tables e below P (T152.setTop (mkF m 151 #[.val (.int p0), .val (.int p1), .val (.int p2), .val (.int (1 : Int32)), .val (.ref a77), .val (.ref a97), .val (.ref r113), .val (.ref r126), .val (.int (1 : Int32)), .val (.int (1 : Int32)), .val (.int (1 : Int32))] []))
    refine own_Goes.st ?_ (fun _ k => XS.iload X152.here hx rfl (hb hby at_151) rfl k)
    show own_Goes p.tables e below P (T152.setTop (mkF m 153 #[.val (.int p0), .val (.int p1), .val (.int p2), .val (.int (1 : Int32)), .val (.ref a77), .val (.ref a97), .val (.ref r113), .val (.ref r126), .val (.int (1 : Int32)), .val (.int (1 : Int32)), .val (.int (1 : Int32))] [(.int (1 : Int32))]))
    refine own_Goes.st ?_ (fun _ k => XS.ifNo X152.here hx rfl (hb hby at_153) rfl ((if0 _ _).trans (feq (by decide : ¬ ((1 : Int32) = (0 : Int32)))).1) k)
    show own_Goes p.tables e below P (T152.setTop (mkF m 156 #[.val (.int p0), .val (.int p1), .val (.int p2), .val (.int (1 : Int32)), .val (.ref a77), .val (.ref a97), .val (.ref r113), .val (.ref r126), .val (.int (1 : Int32)), .val (.int (1 : Int32)), .val (.int (1 : Int32))] []))
    refine own_Goes.st ?_ (fun _ k => XS.iload X152.here hx rfl (hb hby at_156) rfl k)
    show own_Goes p.tables e below P (T152.setTop (mkF m 158 #[.val (.int p0), .val (.int p1), .val (.int p2), .val (.int (1 : Int32)), .val (.ref a77), .val (.ref a97), .val (.ref r113), .val (.ref r126), .val (.int (1 : Int32)), .val (.int (1 : Int32)), .val (.int (1 : Int32))] [(.int (1 : Int32))]))
    refine own_Goes.st ?_ (fun _ k => XS.ifNo X152.here hx rfl (hb hby at_158) rfl ((if0 _ _).trans (feq (by decide : ¬ ((1 : Int32) = (0 : Int32)))).1) k)
    show own_Goes p.tables e below P (T152.setTop (mkF m 161 #[.val (.int p0), .val (.int p1), .val (.int p2), .val (.int (1 : Int32)), .val (.ref a77), .val (.ref a97), .val (.ref r113), .val (.ref r126), .val (.int (1 : Int32)), .val (.int (1 : Int32)), .val (.int (1 : Int32))] []))
    refine own_Goes.st ?_ (fun _ k => XS.iconst X152.here hx rfl (hb hby at_161) k)
    show own_Goes p.tables e below P (T152.setTop (mkF m 162 #[.val (.int p0), .val (.int p1), .val (.int p2), .val (.int (1 : Int32)), .val (.ref a77), .val (.ref a97), .val (.ref r113), .val (.ref r126), .val (.int (1 : Int32)), .val (.int (1 : Int32)), .val (.int (1 : Int32))] [(.int (1 : Int32))]))
    refine own_Goes.st ?_ (fun _ k => XS.goto X152.here hx rfl (pc0 := 162) (pc' := 166) rfl (hb hby at_162) (by decide) (by decide) k)
    show own_Goes p.tables e below P (T152.setTop (mkF m 166 #[.val (.int p0), .val (.int p1), .val (.int p2), .val (.int (1 : Int32)), .val (.ref a77), .val (.ref a97), .val (.ref r113), .val (.ref r126), .val (.int (1 : Int32)), .val (.int (1 : Int32)), .val (.int (1 : Int32))] [(.int (1 : Int32))]))
    obtain ⟨fs, hr, hrun, hended, -, hW, hI, hsame⟩ := X152.leaveW hS93 (by rw [e152]; exact hk138) (v := some (.int (1 : Int32))) (fun h => by rw [Bd.returns] at h; cases h)
    exact own_Goes.fin _ _ (retOut X152 hx (t := .boolean) Bd.returns rfl (Or.inl ⟨rfl, Or.inr (Or.inl rfl), _, rfl⟩) (hb hby at_166) hr) (hPP _ _ ⟨hrun, hended, _, _, rfl, (by show Q_law n0 _ _; exact ⟨rfl, N152⟩), ⟨_, rfl⟩, hW, hI, hsame.mono (by decide) (by decide)⟩)
set_option maxRecDepth 65536 in
set_option maxHeartbeats 40000000 in
theorem comes_1 {Post : Tables → Env → Array Value → State → Outcome → State → Prop} (hpost : ∀ tb e args s v u, (limb_1_1.after args s (.returned v) u = true ∧ limb_1_2.after args s (.returned v) u = true ∧ True) → ReturnedEndW s (.returned v) u (Jvm.fieldLocs frame_1_writes args s ++ Jvm.arrayLocs frame_1_arrays args s ++ Jvm.staticLocs frame_1_statics s) 24 1152 → Post tb e args s (.returned v) u) :
    ArmFor flags0 classFile x code maxLocals ret World_1 tables_1 room_1 Calls_1 rest_1 Pre_1 Post := by
  intro l hfl _ _ p e ha hc hk s m args below hf hA hF happ hP
  obtain ⟨hcalls, hrest, hpre⟩ := hP
  obtain ⟨-, -, -, hnamed, -, -, -, hat⟩ := (Spec.applies_iff hf).mp happ
  obtain ⟨hg, hn⟩ := and_e (Cond.before_iff.mp (show (Jvm.Cond.and given_1 narrow_1).before args s = true from hpre))
  obtain ⟨hg0, hg1⟩ := and_e hg
  obtain ⟨hv0, hr0⟩ := and_e hg1
  obtain ⟨hv1, hr1⟩ := and_e hr0
  obtain ⟨w0, w1, w2, rfl⟩ : ∃ w0 w1 w2 : Value, args = #[w0, w1, w2] := by
    have hs : args.size = 3 := by simpa [Cond.value, given_1] using hg0
    obtain ⟨L⟩ := args
    match L, hs with
    | [w0, w1, w2], _ => exact ⟨w0, w1, w2, rfl⟩
  have hw := fun d (hd : d ∈ tables_1) => atoms_spec (ws := Jvm.Cond.code x code maxLocals ret :: tables_1) hat d (List.mem_cons_of_mem _ hd)
  have hfit : Fit s := fun {y c} hc i hi => by
    obtain ⟨ha, rfl⟩ := Array.getElem?_eq_some_iff.mp hc
    have q := List.all_eq_true.mp ((Array.all_eq_true_iff_forall_mem.mp hF) _ (Array.getElem_mem ha)) i (List.mem_range.mpr hi)
    simpa [Array.getElem?_eq_getElem hi] using q
  obtain ⟨hsets, hown0⟩ := atoms_of _ (rest_1_c_eq ▸ (show rest_1_c.before _ s = true from hrest))
  obtain ⟨i0, ei0⟩ := is_v hv0
  obtain rfl : w0 = (.int i0) := Option.some.inj ei0
  obtain ⟨i1, ei1⟩ := is_v hv1
  obtain rfl : w1 = (.int i1) := Option.some.inj ei1
  obtain ⟨i2, ei2⟩ := is_v hr1
  obtain rfl : w2 = (.int i2) := Option.some.inj ei2
  have ncs := not_v (Cond.before_iff.mp (hsets _ (List.mem_of_getElem? (i := 2) rfl)))
  obtain ⟨cs, ecs⟩ := is_v (Cond.before_iff.mp (hsets _ (List.mem_of_getElem? (i := 1) rfl)))
  have Scs : Sta s s.heap "java/lang/String" "COMPACT_STRINGS" "Z" (.int cs) := Sta.start ecs (Or.inl (hsets _ (List.mem_of_getElem? (i := 0) rfl)))
  have hcs : ¬ (cs = (0 : Int32)) := gotF (Cond.eq_ints ecs (Term.int_eval (0))) ncs
  obtain ⟨n, o, h1, h2, h3, _, L, rfl, ⟨rfl, N⟩, hq⟩ := rm_law l s _ hw tables_1 i0 i1 i2 cs s.heap s.heap.size (Nat.le_refl _) Scs (Old.start s) hcs p e ha hc hk s m _ below hf ((Spec.applies_iff_loose hf).mp happ).1 ⟨rfl, State.Warmed39.refl s, rfl⟩ trivial
  refine ⟨n, _, h1, h2, h3, hpost _ _ _ _ _ _ ⟨Cond.after_iff.mpr rfl, Cond.after_iff.mpr (eq_i res_at (Term.int_eval (1)) rfl), trivial⟩ ⟨hq.1, hq.2.1, hq.2.2.1, (hq.2.2.2.sift fun y hy => Or.inr (N y hy)).mono (by decide) (by decide)⟩⟩
theorem main_1_1 : Claimed_1_1 := comes_1 fun _ _ _ _ _ _ h hF => ⟨h.1, hF⟩
theorem main_1_2 : Claimed_1_2 := comes_1 fun _ _ _ _ _ _ h hF => ⟨h.2.1, hF⟩
end Jvm.Pilot.@@N@@
namespace Jvm.Pilot.@@N@@
open Jvm Jvm.ClassFile Sem Op Lib Jvm.Free Jvm.Stand Jvm.Pilot.@@N@@.Jvm.D
/-! MADE BY PROGRAM (witnessworld.py) out of the Statement's table words and the real class files: 20 classes; the members and pool entries that the words name. The judged class is class 1, her method 1. -/
namespace start1
open Jvm.ClassFile
def u (s : String) : CpInfo := .utf8 (stringToUtf16 s)
/-- a pool by its gaps: so many unusable entries, then the entry; so many at the end -/
def gap : Nat → List CpInfo → List CpInfo
  | 0, r => r
  | n + 1, r => .unusable :: gap n r
def poolList (es : List (Nat × CpInfo)) (last : Nat) : List CpInfo := es.foldr (fun e r => gap e.1 (e.2 :: r)) (gap last [])
def pool (es : List (Nat × CpInfo)) (last : Nat) : Array CpInfo := ⟨poolList es last⟩
def fileOf (pool : Array CpInfo) (this : Nat) (attrs : Array Attribute := #[]) (ms : Array MethodInfo := #[]) (fl : Nat := 33) (sup : Nat := 0) (ifs : Array Nat := #[]) (fds : Array FieldInfo := #[]) : ClassFile where
  minorVersion := 0
  majorVersion := 65
  constantPool := pool
  accessFlags := fl
  thisClass := this
  superClass := sup
  interfaces := ifs
  fields := fds
  methods := ms
  attributes := attrs
def plain (name : String) (sup : Option ClassId) : Class where
  name := name
  kind := .ordinary
  loader := none
  accessFlags := 33
  super := sup
  interfaces := #[]
  cf := none
  fields := #[]
  methods := #[]
  instanceTypes := #[]
  staticTypes := #[]
  resolved := #[]
  callSites := []
  init := .initialized
  statics := none
  mirror := none

def pool0 : Array CpInfo := pool [(5, u "<init>"), (0, u "()V"), (1, .class_ 10), (1, u "java/lang/Object")] 113

def k0c0 : Code := { maxStack := 0, maxLocals := 1, code := object_method_1_code, exceptionTable := #[], attributes := #[] }
def k0m0 : Method := { name := "<init>", desc := "()V", sig := { parameters := [], returnType := none }, accessFlags := 1, code := some k0c0 }
/-- java/lang/Object -/
def k0 : Class := { plain "java/lang/Object" none with
  accessFlags := 33
  interfaces := #[]
  cf := some (fileOf pool0 8 #[] #[{ accessFlags := 1, nameIndex := 5, descriptorIndex := 6, attributes := #[] }] 33 0 #[] #[])
  fields := #[]
  methods := #[k0m0]
  instanceTypes := #[]
  staticTypes := #[]
  resolved := Array.replicate 124 none
  statics := none }

def pool1 : Array CpInfo := pool [(2, .class_ 4), (1, u "java/lang/Object"), (0, u "<init>"), (0, u "()V"), (0, .class_ 8), (0, u "com/example/usnea/usnea/datalog/Predicate"), (0, .methodref 10 11), (0, .class_ 12), (0, .nameAndType 13 14), (0, u "java/lang/String"), (0, u "valueOf"), (0, u "(C)Ljava/lang/String;"), (0, .integer 2147483647), (0, .methodref 7 17), (0, .nameAndType 5 18), (0, u "(Ljava/lang/String;I)V"), (0, .class_ 20), (0, u "com/example/usnea/usnea/reduction/Role"), (0, .methodref 19 22), (0, .nameAndType 5 23), (0, u "(Lcom/example/usnea/usnea/datalog/Predicate;Z)V"), (0, .methodref 19 25), (0, .nameAndType 26 27), (0, u "inverted"), (0, u "()Lcom/example/usnea/usnea/reduction/Role;"), (0, .methodref 19 29), (0, .nameAndType 30 31), (0, u "predicate"), (0, u "()Lcom/example/usnea/usnea/datalog/Predicate;"), (0, .methodref 19 33), (0, .nameAndType 34 35), (0, u "inverse"), (0, u "()Z"), (0, .class_ 37), (0, u "com/example/usnea/usnea/reduction/RoleInvertedPinLaw"), (2, u "law"), (0, u "(III)Z")] 3

def k1m0 : Method := { name := "<init>", desc := "()V", sig := { parameters := [], returnType := none }, accessFlags := 1, code := none }
def k1c1 : Code := { maxStack := 5, maxLocals := 11, code := code, exceptionTable := #[], attributes := #[] }
def k1m1 : Method := { name := "law", desc := "(III)Z", sig := { parameters := [.int, .int, .int], returnType := some .boolean }, accessFlags := 9, code := some k1c1 }
/-- com/example/usnea/usnea/reduction/RoleInvertedPinLaw -/
def k1 : Class := { plain "com/example/usnea/usnea/reduction/RoleInvertedPinLaw" (some 0) with
  accessFlags := 49
  interfaces := #[]
  cf := some (fileOf pool1 36 #[] #[{ accessFlags := 1, nameIndex := 5, descriptorIndex := 6, attributes := #[] }, { accessFlags := 9, nameIndex := 40, descriptorIndex := 41, attributes := #[] }] 49 2 #[] #[])
  fields := #[]
  methods := #[k1m0, k1m1]
  instanceTypes := #[]
  staticTypes := #[]
  resolved := Array.replicate 45 none
  statics := none }

def pool2 : Array CpInfo := pool [(1, .methodref 2 3), (0, .class_ 4), (0, .nameAndType 5 6), (0, u "java/lang/Object"), (0, u "<init>"), (0, u "()V"), (9, .string 17), (0, u "name"), (0, .methodref 19 20), (0, .class_ 21), (0, .nameAndType 22 23), (0, u "java/util/Objects"), (0, u "requireNonNull"), (0, u "(Ljava/lang/Object;Ljava/lang/String;)Ljava/lang/Object;"), (0, .class_ 25), (0, u "java/lang/String"), (0, .fieldref 27 28), (0, .class_ 29), (0, .nameAndType 17 30), (0, u "com/example/usnea/usnea/datalog/Predicate"), (0, u "Ljava/lang/String;"), (0, .fieldref 27 32), (0, .nameAndType 33 34), (0, u "arity"), (0, u "I"), (4, u "(Ljava/lang/String;I)V"), (2, u "EQUALITY"), (0, u "Lcom/example/usnea/usnea/datalog/Predicate;")] 24

def k2c0 : Code := { maxStack := 3, maxLocals := 3, code := prog_13_method_1_code, exceptionTable := #[], attributes := #[] }
def k2m0 : Method := { name := "<init>", desc := "(Ljava/lang/String;I)V", sig := { parameters := [(.object "java/lang/String"), .int], returnType := none }, accessFlags := 1, code := some k2c0 }
/-- com/example/usnea/usnea/datalog/Predicate -/
def k2 : Class := { plain "com/example/usnea/usnea/datalog/Predicate" (some 0) with
  accessFlags := 49
  interfaces := #[]
  cf := some (fileOf pool2 27 #[] #[{ accessFlags := 1, nameIndex := 5, descriptorIndex := 39, attributes := #[] }] 49 2 #[] #[{ accessFlags := 25, nameIndex := 42, descriptorIndex := 43, attributes := #[] }, { accessFlags := 18, nameIndex := 17, descriptorIndex := 30, attributes := #[] }, { accessFlags := 18, nameIndex := 33, descriptorIndex := 34, attributes := #[] }])
  fields := #[{ name := "EQUALITY", type := (.object "com/example/usnea/usnea/datalog/Predicate"), accessFlags := 25, slot := 0, constantValue := 0 }, { name := "name", type := (.object "java/lang/String"), accessFlags := 18, slot := 0, constantValue := 0 }, { name := "arity", type := .int, accessFlags := 18, slot := 1, constantValue := 0 }]
  methods := #[k2m0]
  instanceTypes := #[(.object "java/lang/String"), .int]
  staticTypes := #[(.object "com/example/usnea/usnea/datalog/Predicate")]
  resolved := Array.replicate 68 none
  statics := none }

def pool3 : Array CpInfo := pool [(1, .class_ 2), (0, u "java/io/Serializable"), (0, .class_ 4), (0, u "java/lang/Object")] 2

/-- java/io/Serializable -/
def k3 : Class := { plain "java/io/Serializable" (some 0) with
  accessFlags := 1537
  interfaces := #[]
  cf := some (fileOf pool3 1 #[] #[] 1537 3 #[] #[])
  fields := #[]
  methods := #[]
  instanceTypes := #[]
  staticTypes := #[]
  resolved := Array.replicate 7 none
  statics := none }

def pool4 : Array CpInfo := pool [(1, .class_ 2), (0, u "java/lang/Comparable"), (0, .class_ 4), (0, u "java/lang/Object")] 7

/-- java/lang/Comparable -/
def k4 : Class := { plain "java/lang/Comparable" (some 0) with
  accessFlags := 1537
  interfaces := #[]
  cf := some (fileOf pool4 1 #[] #[] 1537 3 #[] #[])
  fields := #[]
  methods := #[]
  instanceTypes := #[]
  staticTypes := #[]
  resolved := Array.replicate 12 none
  statics := none }

def pool5 : Array CpInfo := pool [(2, .class_ 4), (1, u "java/lang/CharSequence"), (42, .class_ 48), (0, u "java/lang/CharSequence$1CodePointIterator"), (10, .class_ 60), (0, u "java/lang/CharSequence$1CharIterator"), (5, .class_ 67), (0, u "java/lang/Object")] 63

/-- java/lang/CharSequence -/
def k5 : Class := { plain "java/lang/CharSequence" (some 0) with
  accessFlags := 1537
  interfaces := #[]
  cf := some (fileOf pool5 2 #[.nestMembers #[47, 59]] #[] 1537 66 #[] #[])
  fields := #[]
  methods := #[]
  instanceTypes := #[]
  staticTypes := #[]
  resolved := Array.replicate 131 none
  statics := none }

def pool6 : Array CpInfo := pool [(1, .class_ 2), (0, u "java/lang/constant/Constable"), (0, .class_ 4), (0, u "java/lang/Object")] 6

/-- java/lang/constant/Constable -/
def k6 : Class := { plain "java/lang/constant/Constable" (some 0) with
  accessFlags := 1537
  interfaces := #[]
  cf := some (fileOf pool6 1 #[] #[] 1537 3 #[] #[])
  fields := #[]
  methods := #[]
  instanceTypes := #[]
  staticTypes := #[]
  resolved := Array.replicate 11 none
  statics := none }

def pool7 : Array CpInfo := pool [(1, .class_ 2), (0, u "java/lang/constant/ConstantDesc"), (0, .class_ 4), (0, u "java/lang/Object")] 32

/-- java/lang/constant/ConstantDesc -/
def k7 : Class := { plain "java/lang/constant/ConstantDesc" (some 0) with
  accessFlags := 1537
  interfaces := #[]
  cf := some (fileOf pool7 1 #[] #[] 1537 3 #[] #[])
  fields := #[]
  methods := #[]
  instanceTypes := #[]
  staticTypes := #[]
  resolved := Array.replicate 37 none
  statics := none }

def pool8 : Array CpInfo := pool [(1, .methodref 2 3), (0, .class_ 4), (0, .nameAndType 5 6), (0, u "java/lang/Object"), (0, u "<init>"), (0, u "()V"), (2, .fieldref 10 11), (0, .class_ 12), (0, .nameAndType 13 14), (0, u "java/lang/String"), (0, u "value"), (0, u "[B"), (0, .fieldref 10 16), (0, .nameAndType 17 18), (0, u "coder"), (0, u "B"), (2, u "hash"), (0, u "I"), (2, u "hashIsZero"), (0, u "Z"), (11, .fieldref 10 39), (0, .nameAndType 40 26), (0, u "COMPACT_STRINGS"), (12, u "toBytes"), (53, .class_ 109), (1, u "java/lang/StringLatin1"), (99, .methodref 10 210), (0, .nameAndType 5 211), (0, u "([BB)V"), (157, u "(C)Z"), (205, .class_ 576), (0, u "java/lang/CharSequence"), (22, u "CASE_INSENSITIVE_ORDER"), (0, u "Ljava/util/Comparator;"), (181, u "valueOf"), (0, u "(C)Ljava/lang/String;"), (231, .methodref 107 1016), (0, .nameAndType 1017 369), (0, u "canEncode"), (0, .methodref 107 1019), (0, .nameAndType 53 1020), (0, u "(C)[B"), (80, u "serialPersistentFields"), (0, u "[Ljava/io/ObjectStreamField;"), (0, .class_ 1104), (0, u "java/lang/String$CaseInsensitiveComparator"), (1, .class_ 1107), (0, u "java/io/Serializable"), (0, .class_ 1109), (0, u "java/lang/Comparable"), (0, .class_ 1111), (0, u "java/lang/constant/Constable"), (0, .class_ 1113), (0, u "java/lang/constant/ConstantDesc"), (2, u "serialVersionUID"), (0, u "J"), (3, u "REPL"), (0, u "C"), (2, u "LATIN1"), (1, u "UTF16")] 323

def k8m0 : Method := { name := "<init>", desc := "()V", sig := { parameters := [], returnType := none }, accessFlags := 1, code := none }
def k8c1 : Code := { maxStack := 4, maxLocals := 1, code := jdk_42_method_139_code, exceptionTable := #[], attributes := #[] }
def k8m1 : Method := { name := "valueOf", desc := "(C)Ljava/lang/String;", sig := { parameters := [.char], returnType := some (.object "java/lang/String") }, accessFlags := 9, code := some k8c1 }
def k8c2 : Code := { maxStack := 2, maxLocals := 3, code := jdk_42_method_151_code, exceptionTable := #[], attributes := #[] }
def k8m2 : Method := { name := "<init>", desc := "([BB)V", sig := { parameters := [(.array .byte), .byte], returnType := none }, accessFlags := 0, code := some k8c2 }
/-- java/lang/String -/
def k8 : Class := { plain "java/lang/String" (some 0) with
  accessFlags := 49
  interfaces := #[3, 4, 5, 6, 7]
  cf := some (fileOf pool8 10 #[.nestMembers #[1103]] #[{ accessFlags := 1, nameIndex := 5, descriptorIndex := 6, attributes := #[] }, { accessFlags := 9, nameIndex := 782, descriptorIndex := 783, attributes := #[] }, { accessFlags := 0, nameIndex := 5, descriptorIndex := 211, attributes := #[] }] 49 2 #[1106, 1108, 575, 1110, 1112] #[{ accessFlags := 18, nameIndex := 13, descriptorIndex := 14, attributes := #[] }, { accessFlags := 18, nameIndex := 17, descriptorIndex := 18, attributes := #[] }, { accessFlags := 2, nameIndex := 21, descriptorIndex := 22, attributes := #[] }, { accessFlags := 2, nameIndex := 25, descriptorIndex := 26, attributes := #[] }, { accessFlags := 26, nameIndex := 1116, descriptorIndex := 1117, attributes := #[] }, { accessFlags := 24, nameIndex := 40, descriptorIndex := 26, attributes := #[] }, { accessFlags := 26, nameIndex := 1101, descriptorIndex := 1102, attributes := #[] }, { accessFlags := 26, nameIndex := 1121, descriptorIndex := 1122, attributes := #[] }, { accessFlags := 25, nameIndex := 599, descriptorIndex := 600, attributes := #[] }, { accessFlags := 24, nameIndex := 1125, descriptorIndex := 18, attributes := #[] }, { accessFlags := 24, nameIndex := 1127, descriptorIndex := 18, attributes := #[] }])
  fields := #[{ name := "value", type := (.array .byte), accessFlags := 18, slot := 0, constantValue := 0 }, { name := "coder", type := .byte, accessFlags := 18, slot := 1, constantValue := 0 }, { name := "hash", type := .int, accessFlags := 2, slot := 2, constantValue := 0 }, { name := "hashIsZero", type := .boolean, accessFlags := 2, slot := 3, constantValue := 0 }, { name := "serialVersionUID", type := .long, accessFlags := 26, slot := 0, constantValue := 0 }, { name := "COMPACT_STRINGS", type := .boolean, accessFlags := 24, slot := 1, constantValue := 0 }, { name := "serialPersistentFields", type := (.array (.object "java/io/ObjectStreamField")), accessFlags := 26, slot := 2, constantValue := 0 }, { name := "REPL", type := .char, accessFlags := 26, slot := 3, constantValue := 0 }, { name := "CASE_INSENSITIVE_ORDER", type := (.object "java/util/Comparator"), accessFlags := 25, slot := 4, constantValue := 0 }, { name := "LATIN1", type := .byte, accessFlags := 24, slot := 5, constantValue := 0 }, { name := "UTF16", type := .byte, accessFlags := 24, slot := 6, constantValue := 0 }]
  methods := #[k8m0, k8m1, k8m2]
  instanceTypes := #[(.array .byte), .byte, .int, .boolean]
  staticTypes := #[.long, .boolean, (.array (.object "java/io/ObjectStreamField")), .char, (.object "java/util/Comparator"), .byte, .byte]
  resolved := Array.replicate 1451 none
  statics := some 0 }

def pool9 : Array CpInfo := pool [(4, .class_ 6), (1, u "java/lang/Object"), (0, u "<init>"), (0, u "()V"), (5, .class_ 16), (1, u "java/lang/StringLatin1"), (73, u "canEncode"), (14, u "(C)Z"), (15, u "$assertionsDisabled"), (0, u "Z"), (98, .class_ 223), (1, u "java/lang/StringLatin1$LinesSpliterator"), (156, u "toBytes"), (1, u "(C)[B"), (7, .class_ 391), (0, u "java/lang/StringLatin1$CharsSpliterator")] 3

def k9m0 : Method := { name := "<init>", desc := "()V", sig := { parameters := [], returnType := none }, accessFlags := 0, code := none }
def k9c1 : Code := { maxStack := 2, maxLocals := 1, code := jdk_43_method_3_code, exceptionTable := #[], attributes := #[] }
def k9m1 : Method := { name := "canEncode", desc := "(C)Z", sig := { parameters := [.char], returnType := some .boolean }, accessFlags := 9, code := some k9c1 }
def k9c2 : Code := { maxStack := 4, maxLocals := 1, code := jdk_43_method_46_code, exceptionTable := #[], attributes := #[] }
def k9m2 : Method := { name := "toBytes", desc := "(C)[B", sig := { parameters := [.char], returnType := some (.array .byte) }, accessFlags := 9, code := some k9c2 }
/-- java/lang/StringLatin1 -/
def k9 : Class := { plain "java/lang/StringLatin1" (some 0) with
  accessFlags := 48
  interfaces := #[]
  cf := some (fileOf pool9 14 #[.nestMembers #[390, 221]] #[{ accessFlags := 0, nameIndex := 7, descriptorIndex := 8, attributes := #[] }, { accessFlags := 9, nameIndex := 90, descriptorIndex := 105, attributes := #[] }, { accessFlags := 9, nameIndex := 380, descriptorIndex := 382, attributes := #[] }] 48 4 #[] #[{ accessFlags := 4120, nameIndex := 121, descriptorIndex := 122, attributes := #[] }])
  fields := #[{ name := "$assertionsDisabled", type := .boolean, accessFlags := 4120, slot := 0, constantValue := 0 }]
  methods := #[k9m0, k9m1, k9m2]
  instanceTypes := #[]
  staticTypes := #[.boolean]
  resolved := Array.replicate 395 none
  statics := none }

def pool10 : Array CpInfo := pool [(2, .class_ 4), (1, u "java/lang/Object"), (0, u "<init>"), (0, u "()V"), (35, .class_ 44), (1, u "java/util/Objects"), (0, u "requireNonNull"), (48, u "(Ljava/lang/Object;Ljava/lang/String;)Ljava/lang/Object;")] 89

def k10m0 : Method := { name := "<init>", desc := "()V", sig := { parameters := [], returnType := none }, accessFlags := 2, code := none }
def k10c1 : Code := { maxStack := 3, maxLocals := 2, code := jdk_31_method_11_code, exceptionTable := #[], attributes := #[] }
def k10m1 : Method := { name := "requireNonNull", desc := "(Ljava/lang/Object;Ljava/lang/String;)Ljava/lang/Object;", sig := { parameters := [(.object "java/lang/Object"), (.object "java/lang/String")], returnType := some (.object "java/lang/Object") }, accessFlags := 9, code := some k10c1 }
/-- java/util/Objects -/
def k10 : Class := { plain "java/util/Objects" (some 0) with
  accessFlags := 49
  interfaces := #[]
  cf := some (fileOf pool10 42 #[] #[{ accessFlags := 2, nameIndex := 5, descriptorIndex := 6, attributes := #[] }, { accessFlags := 9, nameIndex := 45, descriptorIndex := 94, attributes := #[] }] 49 2 #[] #[])
  fields := #[]
  methods := #[k10m0, k10m1]
  instanceTypes := #[]
  staticTypes := #[]
  resolved := Array.replicate 184 none
  statics := none }

def pool11 : Array CpInfo := pool [(1, .methodref 2 3), (0, .class_ 4), (0, .nameAndType 5 6), (0, u "java/lang/Object"), (0, u "<init>"), (0, u "()V"), (0, .class_ 8), (0, u "java/lang/Record")] 13

def k11c0 : Code := { maxStack := 1, maxLocals := 1, code := jdk_30_method_1_code, exceptionTable := #[], attributes := #[] }
def k11m0 : Method := { name := "<init>", desc := "()V", sig := { parameters := [], returnType := none }, accessFlags := 4, code := some k11c0 }
/-- java/lang/Record -/
def k11 : Class := { plain "java/lang/Record" (some 0) with
  accessFlags := 1057
  interfaces := #[]
  cf := some (fileOf pool11 7 #[] #[{ accessFlags := 4, nameIndex := 5, descriptorIndex := 6, attributes := #[] }] 1057 2 #[] #[])
  fields := #[]
  methods := #[k11m0]
  instanceTypes := #[]
  staticTypes := #[]
  resolved := Array.replicate 22 none
  statics := none }

def pool12 : Array CpInfo := pool [(1, .methodref 2 3), (0, .class_ 4), (0, .nameAndType 5 6), (0, u "java/lang/Record"), (0, u "<init>"), (0, u "()V"), (0, .fieldref 8 9), (0, .class_ 10), (0, .nameAndType 11 12), (0, u "com/example/usnea/usnea/reduction/Role"), (0, u "predicate"), (0, u "Lcom/example/usnea/usnea/datalog/Predicate;"), (0, .fieldref 8 14), (0, .nameAndType 15 16), (0, u "inverse"), (0, u "Z"), (0, .methodref 8 18), (0, .nameAndType 5 19), (0, u "(Lcom/example/usnea/usnea/datalog/Predicate;Z)V"), (10, u "()Lcom/example/usnea/usnea/datalog/Predicate;"), (28, u "inverted"), (0, u "()Lcom/example/usnea/usnea/reduction/Role;"), (8, u "()Z")] 21

def k12c0 : Code := { maxStack := 2, maxLocals := 3, code := prog_29_method_1_code, exceptionTable := #[], attributes := #[] }
def k12m0 : Method := { name := "<init>", desc := "(Lcom/example/usnea/usnea/datalog/Predicate;Z)V", sig := { parameters := [(.object "com/example/usnea/usnea/datalog/Predicate"), .boolean], returnType := none }, accessFlags := 1, code := some k12c0 }
def k12c1 : Code := { maxStack := 4, maxLocals := 1, code := prog_29_method_2_code, exceptionTable := #[], attributes := #[] }
def k12m1 : Method := { name := "inverted", desc := "()Lcom/example/usnea/usnea/reduction/Role;", sig := { parameters := [], returnType := some (.object "com/example/usnea/usnea/reduction/Role") }, accessFlags := 1, code := some k12c1 }
def k12c2 : Code := { maxStack := 1, maxLocals := 1, code := prog_29_method_8_code, exceptionTable := #[], attributes := #[] }
def k12m2 : Method := { name := "predicate", desc := "()Lcom/example/usnea/usnea/datalog/Predicate;", sig := { parameters := [], returnType := some (.object "com/example/usnea/usnea/datalog/Predicate") }, accessFlags := 1, code := some k12c2 }
def k12c3 : Code := { maxStack := 1, maxLocals := 1, code := prog_29_method_9_code, exceptionTable := #[], attributes := #[] }
def k12m3 : Method := { name := "inverse", desc := "()Z", sig := { parameters := [], returnType := some .boolean }, accessFlags := 1, code := some k12c3 }
/-- com/example/usnea/usnea/reduction/Role -/
def k12 : Class := { plain "com/example/usnea/usnea/reduction/Role" (some 11) with
  accessFlags := 49
  interfaces := #[]
  cf := some (fileOf pool12 8 #[] #[{ accessFlags := 1, nameIndex := 5, descriptorIndex := 19, attributes := #[] }, { accessFlags := 1, nameIndex := 59, descriptorIndex := 60, attributes := #[] }, { accessFlags := 1, nameIndex := 11, descriptorIndex := 30, attributes := #[] }, { accessFlags := 1, nameIndex := 15, descriptorIndex := 69, attributes := #[] }] 49 2 #[] #[{ accessFlags := 18, nameIndex := 11, descriptorIndex := 12, attributes := #[] }, { accessFlags := 18, nameIndex := 15, descriptorIndex := 16, attributes := #[] }])
  fields := #[{ name := "predicate", type := (.object "com/example/usnea/usnea/datalog/Predicate"), accessFlags := 18, slot := 0, constantValue := 0 }, { name := "inverse", type := .boolean, accessFlags := 18, slot := 1, constantValue := 0 }]
  methods := #[k12m0, k12m1, k12m2, k12m3]
  instanceTypes := #[(.object "com/example/usnea/usnea/datalog/Predicate"), .boolean]
  staticTypes := #[]
  resolved := Array.replicate 91 none
  statics := none }

def pool13 : Array CpInfo := pool [(2, .class_ 4), (1, u "java/lang/Object"), (0, u "<init>"), (0, u "()V"), (17, .class_ 26), (1, u "jdk/internal/util/Preconditions"), (28, .class_ 56), (0, u "jdk/internal/util/Preconditions$4"), (57, .class_ 115), (0, u "jdk/internal/util/Preconditions$1"), (7, u "SIOOBE_FORMATTER"), (0, u "Ljava/util/function/BiFunction;"), (0, .class_ 126), (0, u "jdk/internal/util/Preconditions$2"), (3, u "AIOOBE_FORMATTER"), (0, .class_ 132), (0, u "jdk/internal/util/Preconditions$3"), (3, u "IOOBE_FORMATTER")] 57

def k13m0 : Method := { name := "<init>", desc := "()V", sig := { parameters := [], returnType := none }, accessFlags := 1, code := none }
/-- jdk/internal/util/Preconditions -/
def k13 : Class := { plain "jdk/internal/util/Preconditions" (some 0) with
  accessFlags := 33
  interfaces := #[]
  cf := some (fileOf pool13 24 #[.nestMembers #[55, 131, 125, 114]] #[{ accessFlags := 1, nameIndex := 5, descriptorIndex := 6, attributes := #[] }] 33 2 #[] #[{ accessFlags := 25, nameIndex := 123, descriptorIndex := 124, attributes := #[] }, { accessFlags := 25, nameIndex := 130, descriptorIndex := 124, attributes := #[] }, { accessFlags := 25, nameIndex := 136, descriptorIndex := 124, attributes := #[] }])
  fields := #[{ name := "SIOOBE_FORMATTER", type := (.object "java/util/function/BiFunction"), accessFlags := 25, slot := 0, constantValue := 0 }, { name := "AIOOBE_FORMATTER", type := (.object "java/util/function/BiFunction"), accessFlags := 25, slot := 1, constantValue := 0 }, { name := "IOOBE_FORMATTER", type := (.object "java/util/function/BiFunction"), accessFlags := 25, slot := 2, constantValue := 0 }]
  methods := #[k13m0]
  instanceTypes := #[]
  staticTypes := #[(.object "java/util/function/BiFunction"), (.object "java/util/function/BiFunction"), (.object "java/util/function/BiFunction")]
  resolved := Array.replicate 194 none
  statics := some 1 }

def pool14 : Array CpInfo := pool [(9, u "<init>"), (6, .class_ 18), (1, u "java/lang/Object"), (0, u "()V"), (1, .class_ 23), (1, u "jdk/internal/util/ArraysSupport"), (0, u "LOG2_ARRAY_LONG_INDEX_SCALE"), (0, u "I"), (2, u "U"), (0, u "Ljdk/internal/misc/Unsafe;"), (8, u "BIG_ENDIAN"), (0, u "Z"), (8, u "LOG2_BYTE_BIT_SIZE"), (4, u "LOG2_ARRAY_INT_INDEX_SCALE"), (54, u "JLA"), (0, u "Ljdk/internal/access/JavaLangAccess;"), (11, u "LOG2_ARRAY_BOOLEAN_INDEX_SCALE"), (9, u "LOG2_ARRAY_BYTE_INDEX_SCALE"), (5, u "LOG2_ARRAY_CHAR_INDEX_SCALE"), (5, u "LOG2_ARRAY_SHORT_INDEX_SCALE"), (18, u "LOG2_ARRAY_FLOAT_INDEX_SCALE"), (24, u "LOG2_ARRAY_DOUBLE_INDEX_SCALE"), (89, u "T_BOOLEAN"), (2, u "T_CHAR"), (1, u "T_FLOAT"), (1, u "T_DOUBLE"), (1, u "T_BYTE"), (1, u "T_SHORT"), (1, u "T_INT"), (1, u "T_LONG"), (1, u "SOFT_MAX_ARRAY_LENGTH")] 83

def k14m0 : Method := { name := "<init>", desc := "()V", sig := { parameters := [], returnType := none }, accessFlags := 2, code := none }
/-- jdk/internal/util/ArraysSupport -/
def k14 : Class := { plain "jdk/internal/util/ArraysSupport" (some 0) with
  accessFlags := 33
  interfaces := #[]
  cf := some (fileOf pool14 21 #[] #[{ accessFlags := 2, nameIndex := 9, descriptorIndex := 19, attributes := #[] }] 33 16 #[] #[{ accessFlags := 24, nameIndex := 28, descriptorIndex := 29, attributes := #[] }, { accessFlags := 26, nameIndex := 38, descriptorIndex := 39, attributes := #[] }, { accessFlags := 25, nameIndex := 121, descriptorIndex := 25, attributes := #[] }, { accessFlags := 25, nameIndex := 131, descriptorIndex := 25, attributes := #[] }, { accessFlags := 25, nameIndex := 137, descriptorIndex := 25, attributes := #[] }, { accessFlags := 25, nameIndex := 143, descriptorIndex := 25, attributes := #[] }, { accessFlags := 25, nameIndex := 53, descriptorIndex := 25, attributes := #[] }, { accessFlags := 25, nameIndex := 24, descriptorIndex := 25, attributes := #[] }, { accessFlags := 25, nameIndex := 162, descriptorIndex := 25, attributes := #[] }, { accessFlags := 25, nameIndex := 187, descriptorIndex := 25, attributes := #[] }, { accessFlags := 26, nameIndex := 48, descriptorIndex := 25, attributes := #[] }, { accessFlags := 25, nameIndex := 277, descriptorIndex := 25, attributes := #[] }, { accessFlags := 25, nameIndex := 280, descriptorIndex := 25, attributes := #[] }, { accessFlags := 25, nameIndex := 282, descriptorIndex := 25, attributes := #[] }, { accessFlags := 25, nameIndex := 284, descriptorIndex := 25, attributes := #[] }, { accessFlags := 25, nameIndex := 286, descriptorIndex := 25, attributes := #[] }, { accessFlags := 25, nameIndex := 288, descriptorIndex := 25, attributes := #[] }, { accessFlags := 25, nameIndex := 290, descriptorIndex := 25, attributes := #[] }, { accessFlags := 25, nameIndex := 292, descriptorIndex := 25, attributes := #[] }, { accessFlags := 26, nameIndex := 108, descriptorIndex := 109, attributes := #[] }, { accessFlags := 25, nameIndex := 294, descriptorIndex := 25, attributes := #[] }])
  fields := #[{ name := "U", type := (.object "jdk/internal/misc/Unsafe"), accessFlags := 24, slot := 0, constantValue := 0 }, { name := "BIG_ENDIAN", type := .boolean, accessFlags := 26, slot := 1, constantValue := 0 }, { name := "LOG2_ARRAY_BOOLEAN_INDEX_SCALE", type := .int, accessFlags := 25, slot := 2, constantValue := 0 }, { name := "LOG2_ARRAY_BYTE_INDEX_SCALE", type := .int, accessFlags := 25, slot := 3, constantValue := 0 }, { name := "LOG2_ARRAY_CHAR_INDEX_SCALE", type := .int, accessFlags := 25, slot := 4, constantValue := 0 }, { name := "LOG2_ARRAY_SHORT_INDEX_SCALE", type := .int, accessFlags := 25, slot := 5, constantValue := 0 }, { name := "LOG2_ARRAY_INT_INDEX_SCALE", type := .int, accessFlags := 25, slot := 6, constantValue := 0 }, { name := "LOG2_ARRAY_LONG_INDEX_SCALE", type := .int, accessFlags := 25, slot := 7, constantValue := 0 }, { name := "LOG2_ARRAY_FLOAT_INDEX_SCALE", type := .int, accessFlags := 25, slot := 8, constantValue := 0 }, { name := "LOG2_ARRAY_DOUBLE_INDEX_SCALE", type := .int, accessFlags := 25, slot := 9, constantValue := 0 }, { name := "LOG2_BYTE_BIT_SIZE", type := .int, accessFlags := 26, slot := 10, constantValue := 0 }, { name := "T_BOOLEAN", type := .int, accessFlags := 25, slot := 11, constantValue := 0 }, { name := "T_CHAR", type := .int, accessFlags := 25, slot := 12, constantValue := 0 }, { name := "T_FLOAT", type := .int, accessFlags := 25, slot := 13, constantValue := 0 }, { name := "T_DOUBLE", type := .int, accessFlags := 25, slot := 14, constantValue := 0 }, { name := "T_BYTE", type := .int, accessFlags := 25, slot := 15, constantValue := 0 }, { name := "T_SHORT", type := .int, accessFlags := 25, slot := 16, constantValue := 0 }, { name := "T_INT", type := .int, accessFlags := 25, slot := 17, constantValue := 0 }, { name := "T_LONG", type := .int, accessFlags := 25, slot := 18, constantValue := 0 }, { name := "JLA", type := (.object "jdk/internal/access/JavaLangAccess"), accessFlags := 26, slot := 19, constantValue := 0 }, { name := "SOFT_MAX_ARRAY_LENGTH", type := .int, accessFlags := 25, slot := 20, constantValue := 0 }]
  methods := #[k14m0]
  instanceTypes := #[]
  staticTypes := #[(.object "jdk/internal/misc/Unsafe"), .boolean, .int, .int, .int, .int, .int, .int, .int, .int, .int, .int, .int, .int, .int, .int, .int, .int, .int, (.object "jdk/internal/access/JavaLangAccess"), .int]
  resolved := Array.replicate 378 none
  statics := none }

def pool15 : Array CpInfo := pool [(1, u "java/lang/Cloneable"), (0, .class_ 1), (0, u "java/lang/Object"), (0, .class_ 3)] 3

/-- java/lang/Cloneable -/
def k15 : Class := { plain "java/lang/Cloneable" (some 0) with
  accessFlags := 1537
  interfaces := #[]
  cf := some (fileOf pool15 2 #[] #[] 1537 4 #[] #[])
  fields := #[]
  methods := #[]
  instanceTypes := #[]
  staticTypes := #[]
  resolved := Array.replicate 8 none
  statics := none }

/-- the primitive byte -/
def k16 : Class := { plain "byte" none with kind := .primitive 'B', accessFlags := 0x411 }
/-- [B -/
def k17 : Class := { plain "[B" (some 0) with kind := .array 16 .byte, interfaces := #[15, 3], accessFlags := 1041 }

/-- the primitive int -/
def k18 : Class := { plain "int" none with kind := .primitive 'I', accessFlags := 0x411 }
/-- [I -/
def k19 : Class := { plain "[I" (some 0) with kind := .array 18 .int, interfaces := #[15, 3], accessFlags := 1041 }

def heap : Heap := #[{ cls := 8, slots := #[.long 0, .int 1, .null, .int 0, .null, .int 0, .int 0], vm := .statics 8 },
  { cls := 13, slots := #[.null, .null, .null], vm := .statics 13 }]
def classes : Array Class := #[k0, k1, k2, k3, k4, k5, k6, k7, k8, k9, k10, k11, k12, k13, k14, k15, k16, k17, k18, k19]
def interned : List (Array UInt16 × Addr) := []
def slotsUsed : Nat := 10
def theMethod : MethodId := ⟨1, 1⟩
def args0 : Array Value := #[.int 3, .int 65, .int 2]
def aboutOver (below : List Frame) : State where
  vm := { classes := classes, interned := interned.toArray }
  heap := heap
  slotsUsed := slotsUsed
  threads := #[{ frames := .invoking theMethod args0 :: below }]
def below0 : List Frame := [.native { method := ⟨0, 0⟩, args := #[] }]
def about1 : State := aboutOver below0
def p0 : Program := .bare "" "" ""
def e0 : Env := launch0.env 0 0 0
theorem w_frames : about1.frames = Frame.invoking theMethod args0 :: below0 := rfl
set_option maxRecDepth 65536 in
theorem w_args : argsFit about1.vm theMethod args0 = true := by decide +kernel
set_option maxRecDepth 65536 in
theorem w_heap : heapFits about1 = true := by decide +kernel
set_option maxRecDepth 65536 in
theorem w_runnable : about1.curStatus? = some .runnable := by decide +kernel
set_option maxRecDepth 65536 in
theorem w_alone : about1.alone = true := by decide +kernel
set_option maxRecDepth 65536 in
theorem w_named : about1.methodNamed? x = some theMethod := by decide +kernel
set_option maxRecDepth 65536 in
theorem w_hears : about1.hears theMethod below0 = true := by decide +kernel
set_option maxRecDepth 65536 in
theorem w_ripe : about1.ripe theMethod args0 below0 = true := by decide +kernel
theorem w_running : about1.status = .running := rfl
set_option maxRecDepth 65536 in
theorem w_room : about1.hasRoom e0.platform room_1 = true :=
  launch0.hasRoom_least _ room_1 (by decide +kernel) (by decide +kernel) (by decide +kernel) (by decide +kernel) (by decide +kernel) (by decide +kernel)
theorem allAtoms_all (ts : List Jvm.Cond) (a : Array Jvm.Value) (st : Jvm.State) : (allAtoms ts).before a st = ts.all (fun c => c.before a st) := by
  induction ts with
  | nil => rfl
  | cons c t ih =>
    show (Jvm.Cond.and c (allAtoms t)).before a st = _
    rw [Jvm.Cond.before_and, ih, List.all_cons]
def words1 : List Jvm.Cond := Jvm.Cond.code x code maxLocals ret :: tables_1
/-- a 'code' word, met by the world's own term for the bytes: nothing is compared byte by byte -/
theorem code_word {y : MethodName} {bytes : ByteArray} {mx : Nat} {rt : Option FieldType} {a : Array Value} {s : State} {m : MethodId} {meth : Method} {c : Code} (h1 : s.methodNamed? y = some m) (h2 : s.vm.method? m = some meth) (h3 : meth.code = some c) (h4 : c.code = bytes)
    (h5 : (c.maxLocals == mx && c.exceptionTable.isEmpty && decide (c.maxStack ≤ mostOperands) && decide (meth.sig.returnType = rt) && !meth.locks && decide (parseMethodDescriptor y.desc = some meth.sig)) = true) : (Jvm.Cond.code y bytes mx rt).before a s = true := by
  simp only [Bool.and_eq_true, beq_iff_eq, Bool.not_eq_true', decide_eq_true_eq] at h5
  obtain ⟨⟨⟨⟨⟨g1, g2⟩, g3⟩, g4⟩, g5⟩, g6⟩ := h5
  simp [Cond.before, Cond.holds, Cond.value, h1, h2, h3, h4, g1, g2, g3, g4, g5, g6]
def isCode : Jvm.Cond → Bool
  | .code _ _ _ _ => true
  | _ => false
theorem all_split {L : List Jvm.Cond} {P : Jvm.Cond → Bool} (h1 : L.all (fun c => isCode c || P c) = true) (h2 : ∀ c ∈ L.filter isCode, P c = true) : L.all P = true := by
  refine List.all_eq_true.mpr fun c hc => ?_
  have h := List.all_eq_true.mp h1 c hc
  rcases Bool.eq_false_or_eq_true (isCode c) with hi | hi
  · exact h2 c (List.mem_filter.mpr ⟨hc, hi⟩)
  · simpa [hi] using h
set_option maxRecDepth 65536 in
theorem w_c0 : (Jvm.Cond.code x code maxLocals ret).before args0 about1 = true := code_word (m := ⟨1, 1⟩) (meth := k1m1) (c := k1c1) (by decide +kernel) rfl rfl rfl (by decide +kernel)
set_option maxRecDepth 65536 in
theorem w_c1 : (Jvm.Cond.code ({ cls := "java/lang/String", name := "valueOf", desc := "(C)Ljava/lang/String;" } : Jvm.MethodName) jdk_42_method_139_code (1 : Nat) (Option.some (Jvm.ClassFile.FieldType.object "java/lang/String"))).before args0 about1 = true := code_word (m := ⟨8, 1⟩) (meth := k8m1) (c := k8c1) (by decide +kernel) rfl rfl rfl (by decide +kernel)
set_option maxRecDepth 65536 in
theorem w_c2 : (Jvm.Cond.code ({ cls := "java/lang/StringLatin1", name := "canEncode", desc := "(C)Z" } : Jvm.MethodName) jdk_43_method_3_code (1 : Nat) (Option.some Jvm.ClassFile.FieldType.boolean)).before args0 about1 = true := code_word (m := ⟨9, 1⟩) (meth := k9m1) (c := k9c1) (by decide +kernel) rfl rfl rfl (by decide +kernel)
set_option maxRecDepth 65536 in
theorem w_c3 : (Jvm.Cond.code ({ cls := "java/lang/StringLatin1", name := "toBytes", desc := "(C)[B" } : Jvm.MethodName) jdk_43_method_46_code (1 : Nat) (Option.some (Jvm.ClassFile.FieldType.array Jvm.ClassFile.FieldType.byte))).before args0 about1 = true := code_word (m := ⟨9, 2⟩) (meth := k9m2) (c := k9c2) (by decide +kernel) rfl rfl rfl (by decide +kernel)
set_option maxRecDepth 65536 in
theorem w_c4 : (Jvm.Cond.code ({ cls := "java/lang/String", name := "<init>", desc := "([BB)V" } : Jvm.MethodName) jdk_42_method_151_code (3 : Nat) (Option.none : Option Jvm.ClassFile.FieldType)).before args0 about1 = true := code_word (m := ⟨8, 2⟩) (meth := k8m2) (c := k8c2) (by decide +kernel) rfl rfl rfl (by decide +kernel)
set_option maxRecDepth 65536 in
theorem w_c5 : (Jvm.Cond.code ({ cls := "java/lang/Object", name := "<init>", desc := "()V" } : Jvm.MethodName) object_method_1_code (1 : Nat) (Option.none : Option Jvm.ClassFile.FieldType)).before args0 about1 = true := code_word (m := ⟨0, 0⟩) (meth := k0m0) (c := k0c0) (by decide +kernel) rfl rfl rfl (by decide +kernel)
set_option maxRecDepth 65536 in
theorem w_c6 : (Jvm.Cond.code ({ cls := "com/example/usnea/usnea/datalog/Predicate", name := "<init>", desc := "(Ljava/lang/String;I)V" } : Jvm.MethodName) prog_13_method_1_code (3 : Nat) (Option.none : Option Jvm.ClassFile.FieldType)).before args0 about1 = true := code_word (m := ⟨2, 0⟩) (meth := k2m0) (c := k2c0) (by decide +kernel) rfl rfl rfl (by decide +kernel)
set_option maxRecDepth 65536 in
theorem w_c7 : (Jvm.Cond.code ({ cls := "java/util/Objects", name := "requireNonNull", desc := "(Ljava/lang/Object;Ljava/lang/String;)Ljava/lang/Object;" } : Jvm.MethodName) jdk_31_method_11_code (2 : Nat) (Option.some (Jvm.ClassFile.FieldType.object "java/lang/Object"))).before args0 about1 = true := code_word (m := ⟨10, 1⟩) (meth := k10m1) (c := k10c1) (by decide +kernel) rfl rfl rfl (by decide +kernel)
set_option maxRecDepth 65536 in
theorem w_c8 : (Jvm.Cond.code ({ cls := "com/example/usnea/usnea/reduction/Role", name := "<init>", desc := "(Lcom/example/usnea/usnea/datalog/Predicate;Z)V" } : Jvm.MethodName) prog_29_method_1_code (3 : Nat) (Option.none : Option Jvm.ClassFile.FieldType)).before args0 about1 = true := code_word (m := ⟨12, 0⟩) (meth := k12m0) (c := k12c0) (by decide +kernel) rfl rfl rfl (by decide +kernel)
set_option maxRecDepth 65536 in
theorem w_c9 : (Jvm.Cond.code ({ cls := "java/lang/Record", name := "<init>", desc := "()V" } : Jvm.MethodName) jdk_30_method_1_code (1 : Nat) (Option.none : Option Jvm.ClassFile.FieldType)).before args0 about1 = true := code_word (m := ⟨11, 0⟩) (meth := k11m0) (c := k11c0) (by decide +kernel) rfl rfl rfl (by decide +kernel)
set_option maxRecDepth 65536 in
theorem w_c10 : (Jvm.Cond.code ({ cls := "com/example/usnea/usnea/reduction/Role", name := "inverted", desc := "()Lcom/example/usnea/usnea/reduction/Role;" } : Jvm.MethodName) prog_29_method_2_code (1 : Nat) (Option.some (Jvm.ClassFile.FieldType.object "com/example/usnea/usnea/reduction/Role"))).before args0 about1 = true := code_word (m := ⟨12, 1⟩) (meth := k12m1) (c := k12c1) (by decide +kernel) rfl rfl rfl (by decide +kernel)
set_option maxRecDepth 65536 in
theorem w_c11 : (Jvm.Cond.code ({ cls := "com/example/usnea/usnea/reduction/Role", name := "predicate", desc := "()Lcom/example/usnea/usnea/datalog/Predicate;" } : Jvm.MethodName) prog_29_method_8_code (1 : Nat) (Option.some (Jvm.ClassFile.FieldType.object "com/example/usnea/usnea/datalog/Predicate"))).before args0 about1 = true := code_word (m := ⟨12, 2⟩) (meth := k12m2) (c := k12c2) (by decide +kernel) rfl rfl rfl (by decide +kernel)
set_option maxRecDepth 65536 in
theorem w_c12 : (Jvm.Cond.code ({ cls := "com/example/usnea/usnea/reduction/Role", name := "inverse", desc := "()Z" } : Jvm.MethodName) prog_29_method_9_code (1 : Nat) (Option.some Jvm.ClassFile.FieldType.boolean)).before args0 about1 = true := code_word (m := ⟨12, 3⟩) (meth := k12m3) (c := k12c3) (by decide +kernel) rfl rfl rfl (by decide +kernel)
def codes1 : List Jvm.Cond := [Jvm.Cond.code x code maxLocals ret, Jvm.Cond.code ({ cls := "java/lang/String", name := "valueOf", desc := "(C)Ljava/lang/String;" } : Jvm.MethodName) jdk_42_method_139_code (1 : Nat) (Option.some (Jvm.ClassFile.FieldType.object "java/lang/String")), Jvm.Cond.code ({ cls := "java/lang/StringLatin1", name := "canEncode", desc := "(C)Z" } : Jvm.MethodName) jdk_43_method_3_code (1 : Nat) (Option.some Jvm.ClassFile.FieldType.boolean), Jvm.Cond.code ({ cls := "java/lang/StringLatin1", name := "toBytes", desc := "(C)[B" } : Jvm.MethodName) jdk_43_method_46_code (1 : Nat) (Option.some (Jvm.ClassFile.FieldType.array Jvm.ClassFile.FieldType.byte)), Jvm.Cond.code ({ cls := "java/lang/String", name := "<init>", desc := "([BB)V" } : Jvm.MethodName) jdk_42_method_151_code (3 : Nat) (Option.none : Option Jvm.ClassFile.FieldType), Jvm.Cond.code ({ cls := "java/lang/Object", name := "<init>", desc := "()V" } : Jvm.MethodName) object_method_1_code (1 : Nat) (Option.none : Option Jvm.ClassFile.FieldType), Jvm.Cond.code ({ cls := "com/example/usnea/usnea/datalog/Predicate", name := "<init>", desc := "(Ljava/lang/String;I)V" } : Jvm.MethodName) prog_13_method_1_code (3 : Nat) (Option.none : Option Jvm.ClassFile.FieldType), Jvm.Cond.code ({ cls := "java/util/Objects", name := "requireNonNull", desc := "(Ljava/lang/Object;Ljava/lang/String;)Ljava/lang/Object;" } : Jvm.MethodName) jdk_31_method_11_code (2 : Nat) (Option.some (Jvm.ClassFile.FieldType.object "java/lang/Object")), Jvm.Cond.code ({ cls := "com/example/usnea/usnea/reduction/Role", name := "<init>", desc := "(Lcom/example/usnea/usnea/datalog/Predicate;Z)V" } : Jvm.MethodName) prog_29_method_1_code (3 : Nat) (Option.none : Option Jvm.ClassFile.FieldType), Jvm.Cond.code ({ cls := "java/lang/Record", name := "<init>", desc := "()V" } : Jvm.MethodName) jdk_30_method_1_code (1 : Nat) (Option.none : Option Jvm.ClassFile.FieldType), Jvm.Cond.code ({ cls := "com/example/usnea/usnea/reduction/Role", name := "inverted", desc := "()Lcom/example/usnea/usnea/reduction/Role;" } : Jvm.MethodName) prog_29_method_2_code (1 : Nat) (Option.some (Jvm.ClassFile.FieldType.object "com/example/usnea/usnea/reduction/Role")), Jvm.Cond.code ({ cls := "com/example/usnea/usnea/reduction/Role", name := "predicate", desc := "()Lcom/example/usnea/usnea/datalog/Predicate;" } : Jvm.MethodName) prog_29_method_8_code (1 : Nat) (Option.some (Jvm.ClassFile.FieldType.object "com/example/usnea/usnea/datalog/Predicate")), Jvm.Cond.code ({ cls := "com/example/usnea/usnea/reduction/Role", name := "inverse", desc := "()Z" } : Jvm.MethodName) prog_29_method_9_code (1 : Nat) (Option.some Jvm.ClassFile.FieldType.boolean)]
set_option maxRecDepth 65536 in
theorem codes_eq : words1.filter isCode = codes1 := rfl
theorem w_codes : ∀ c ∈ words1.filter isCode, c.before args0 about1 = true := by
  rw [codes_eq]
  intro c hc
  simp only [codes1, List.mem_cons, List.not_mem_nil, or_false] at hc
  rcases hc with rfl | rfl | rfl | rfl | rfl | rfl | rfl | rfl | rfl | rfl | rfl | rfl | rfl
  · exact w_c0
  · exact w_c1
  · exact w_c2
  · exact w_c3
  · exact w_c4
  · exact w_c5
  · exact w_c6
  · exact w_c7
  · exact w_c8
  · exact w_c9
  · exact w_c10
  · exact w_c11
  · exact w_c12
set_option maxRecDepth 65536 in
theorem w_t1 : (words1.take 24).all (fun c => isCode c || c.before args0 about1) = true := by decide +kernel
set_option maxRecDepth 65536 in
theorem w_t2 : ((words1.drop 24).take 24).all (fun c => isCode c || c.before args0 about1) = true := by decide +kernel
set_option maxRecDepth 65536 in
theorem w_t3 : (((words1.drop 24).drop 24).take 24).all (fun c => isCode c || c.before args0 about1) = true := by decide +kernel
set_option maxRecDepth 65536 in
theorem w_t4 : (((words1.drop 24).drop 24).drop 24).all (fun c => isCode c || c.before args0 about1) = true := by decide +kernel
theorem w_tables : (allAtoms (Jvm.Cond.code x code maxLocals ret :: tables_1)).before args0 about1 = true := by
  rw [allAtoms_all]
  show words1.all (fun c => c.before args0 about1) = true
  refine all_split ?_ w_codes
  rw [← List.take_append_drop 24 words1, List.all_append, w_t1, ← List.take_append_drop 24 (words1.drop 24), List.all_append, w_t2, ← List.take_append_drop 24 ((words1.drop 24).drop 24), List.all_append, w_t3, w_t4]
  rfl
set_option maxRecDepth 65536 in
theorem w_rest : rest_1_c.before args0 about1 = true := by decide +kernel
set_option maxRecDepth 65536 in
theorem w_case : (Jvm.Cond.and given_1 narrow_1).before args0 about1 = true := by decide +kernel
theorem w_applies : (headSpec (Jvm.Cond.code x code maxLocals ret :: tables_1) room_1).applies x e0.platform about1 = true :=
  (Spec.applies_iff w_frames).mpr ⟨w_running, w_runnable, w_alone, w_named, w_hears, w_ripe, w_room, w_tables⟩
theorem atStart : AtStart classFile x code maxLocals ret World_1 tables_1 room_1 Calls_1 rest_1 Pre_1 launch0 p0 e0 about1 theMethod args0 below0 :=
  ⟨lists_1, trivial, launch0.admits_env _ _ _, launch0.least_env, fairChoices_fair.cas, fairChoices_fair.clock, w_frames, w_args, w_heap, w_applies, trivial, w_rest, w_case⟩
end start1
theorem witness_1 : WitnessClaimed_1 := ⟨start1.p0, start1.e0, start1.about1, start1.theMethod, start1.args0, start1.below0, start1.atStart⟩
end Jvm.Pilot.@@N@@
