import JvmDerived
import JvmDerived.Pilot.@@N@@Statement
import JvmDerived.Pilot.@@N@@Code
set_option linter.unusedVariables false
set_option linter.unusedSimpArgs false
namespace Jvm.RoadKit
open Sem ClassFile Op Lib Jvm.Stand Jvm.Free Jvm.LawKit
/-- the walk that stands at S comes to an end of which P holds -/
def own_Goes (tb : Tables) (e : Env) (below : List Frame) (P : State → Outcome → Prop) (S : State) : Prop := ∃ t o, Steps tb e below S t ∧ P t o
theorem own_Goes.of {tb : Tables} {e : Env} {below : List Frame} {P : State → Outcome → Prop} {S : State} (k : own_Goes tb e below P S) : ∃ t o, Steps tb e below S t ∧ P t o := k
theorem own_Goes.nm {tb : Tables} {e : Env} {below : List Frame} {P : State → Outcome → Prop} {S : State} (k : ∀ P' : State → Outcome → Prop, (∀ t o, P t o → P' t o) → own_Goes tb e below P' S) : own_Goes tb e below P S := k P fun _ _ q => q
theorem own_Goes.st {tb : Tables} {e : Env} {below : List Frame} {P : State → Outcome → Prop} {S S' : State} (k : own_Goes tb e below P S') (h : ∀ t, Steps tb e below S' t → Steps tb e below S t) : own_Goes tb e below P S := by
  obtain ⟨t, o, h1, h2⟩ := k; exact ⟨t, o, h t h1, h2⟩
theorem own_Goes.tr {tb : Tables} {e : Env} {below : List Frame} {P : State → Outcome → Prop} {S S' : State} (h : Steps tb e below S S') (k : own_Goes tb e below P S') : own_Goes tb e below P S := by
  obtain ⟨t, o, h1, h2⟩ := k; exact ⟨t, o, h.trans h1, h2⟩
theorem own_Goes.fin {tb : Tables} {e : Env} {below : List Frame} {P : State → Outcome → Prop} {S : State} (t : State) (o : Outcome) (h : Steps tb e below S t) (k : P t o) : own_Goes tb e below P S := ⟨t, o, h, k⟩
end Jvm.RoadKit
namespace Jvm.Pilot.@@N@@
open Jvm Jvm.ClassFile Sem Op Lib Jvm.Free Jvm.Stand Jvm.LawKit Jvm.RoadKit Bundle Jvm.Pilot.@@N@@.Jvm.D
def own_imin (i j : Int32) : Int32 := if j < i then j else i
def own_imax (i j : Int32) : Int32 := if i < j then j else i
def own_rel (r : Int32) : Int32 := if r < 1 then 0 else 1
theorem own_mono {i j : Int32} (h : ¬ own_rel (own_imin i j) = 0) : ¬ own_rel (own_imax i j) = 0 := by
  intro q; apply h
  have h2 : own_imax i j < 1 := by
    by_cases c : own_imax i j < 1
    · exact c
    · rw [own_rel, if_neg c] at q; exact absurd q (by decide)
  rw [own_rel, if_pos]
  rw [own_imax] at h2; rw [own_imin]
  rw [Int32.lt_iff_toInt_lt] at h2 ⊢
  by_cases a : i < j <;> by_cases b : j < i
  · rw [if_pos a] at h2; rw [if_pos b]; exact h2
  · rw [if_pos a] at h2; rw [if_neg b]; rw [Int32.lt_iff_toInt_lt] at a; omega
  · rw [if_neg a] at h2; rw [if_pos b]; rw [Int32.lt_iff_toInt_lt] at b; omega
  · rw [if_neg a] at h2; rw [if_neg b]; exact h2
def own_ce (z : Int32) : Int32 := if 255 < z then 0 else 1
theorem own_chr (y : Int32) : ¬ (255 : Int32) < ((y &&& (255 : Int32)).toUInt32.toUInt16.toUInt32.toInt32) := by
  rw [i2c_mask]
  have m := c_mask y 255 8 (by decide) (by decide)
  have c1 : (255 : Int32).toInt = 255 := by decide
  rw [Int32.lt_iff_toInt_lt, m, c1]; omega
theorem own_ef_ce (m : MethodId) (x0 : Int32) : entryFrame m #[(.int x0)] 1 = mkF m 0 #[.val (.int x0)] [] := by first | (simp [entryFrame, mkF, argsToLocals, Value.category]; done) | rfl
theorem own_pn_java_lang_StringLatin1 : plainName "java/lang/StringLatin1" = true := by first | (simp [plainName, overriddenIn]; done) | decide +kernel
theorem own_d_jdk_43_method_3_0 : decode jdk_43_method_3_code 0 = .ok (.iload_n 0, 1) := by decide +kernel
theorem own_d_jdk_43_method_3_1 : decode jdk_43_method_3_code 1 = .ok (.sipush 255, 3) := by decide +kernel
theorem own_d_jdk_43_method_3_4 : decode jdk_43_method_3_code 4 = .ok (.if_icmp .gt 7, 3) := by decide +kernel
theorem own_d_jdk_43_method_3_11 : decode jdk_43_method_3_code 11 = .ok (.iconst 0, 1) := by decide +kernel
theorem own_d_jdk_43_method_3_12 : decode jdk_43_method_3_code 12 = .ok (.ireturn, 1) := by decide +kernel
theorem own_d_jdk_43_method_3_7 : decode jdk_43_method_3_code 7 = .ok (.iconst 1, 1) := by decide +kernel
theorem own_d_jdk_43_method_3_8 : decode jdk_43_method_3_code 8 = .ok (.goto 4, 3) := by decide +kernel
def Q_ce (Z : State) (z : Int32) (h0 : Heap) (n0 : Nat) (v : Option Value) (h : Heap) (L : List Loc) : Prop := v = some (.int (own_ce z)) ∧ Fr n0 L ∧ h = h0
set_option maxRecDepth 65536 in
set_option maxHeartbeats 40000000 in
theorem rm_ce (l : Launch) (Z : State) (a0 : Array Value) (hw : ∀ d ∈ tables_1, d.before a0 Z = true) (ws : List Jvm.Cond) (z : Int32) (h0 : Heap) (n0 : Nat) (Z0 : n0 ≤ h0.size) :
    MetFree l (⟨"java/lang/StringLatin1", "canEncode", "(C)Z"⟩ : MethodName) (head1 (Jvm.Cond.code (⟨"java/lang/StringLatin1", "canEncode", "(C)Z"⟩ : MethodName) jdk_43_method_3_code 1 (some .boolean) :: ws) ({ frames := 0, cells := 0, slots := 0, locals := 0 } : Room)) (fun as_ U => as_ = #[(.int z)] ∧ Z.Warmed39 U.vm ∧ U.heap = h0) (fun _ _ _ _ _ => True) (fun _ U o U' => ∃ v L, o = .returned v ∧ Q_ce Z z h0 n0 v U'.heap L ∧ FrameEnd U o U' L ({ frames := 0, cells := 0, slots := 0, locals := 0 } : Room).cells ({ frames := 0, cells := 0, slots := 0, locals := 0 } : Room).slots) := by
  refine MetFree.of_bodySF (plainFor_of_name own_pn_java_lang_StringLatin1) hisR ?_
  intro p e s m args below meth c s₁ Bd hml0 hP hK
  obtain ⟨rfl, hZ, hh⟩ := hP
  have hx := Bd.exec
  have hby := Bd.bytes
  have hml : c.maxLocals = 1 := hml0
  have hown : s.vm.findClass "java/lang/StringLatin1" = some m.cls := findClass_of_methodNamed Bd.named
  have hnm := (name_of_methodNamed Bd.named Bd.method).1
  have X0 : Stand p l e ({ frames := 0, cells := 0, slots := 0, locals := 0 } : Room) s m #[(.int z)] below meth c s₁ [] 0 0 := Stand.of_body Bd
  have e0 : s₁.heap = h0 := by rw [← hh, Bd.state]; rfl
  have N0 := Fr.nil n0
  refine own_Goes.of ?_
  refine own_Goes.nm (fun P hPP => ?_)
  refine own_Goes.st ?_ (fun _ k => castTop (own_ef_ce m z) k)
  show own_Goes p.tables e below P (s₁.setTop (mkF m 0 #[.val (.int z)] []))
  refine own_Goes.st ?_ (fun _ k => XS.iloadN X0.here hx rfl (hb hby own_d_jdk_43_method_3_0) rfl k)
  show own_Goes p.tables e below P (s₁.setTop (mkF m 1 #[.val (.int z)] [(.int z)]))
  refine own_Goes.st ?_ (fun _ k => XS.sipush X0.here hx rfl (hb hby own_d_jdk_43_method_3_1) k)
  show own_Goes p.tables e below P (s₁.setTop (mkF m 4 #[.val (.int z)] [(.int (255 : Int32)), (.int z)]))
  by_cases h1 : (255 : Int32) < z
  · skip
    refine own_Goes.st ?_ (fun _ k => XS.icmpYes X0.here hx rfl (pc0 := 4) (pc' := 11) rfl (hb hby own_d_jdk_43_method_3_4) rfl (tlt h1).2.2.1 (by decide) (by decide) k)
    show own_Goes p.tables e below P (s₁.setTop (mkF m 11 #[.val (.int z)] []))
    refine own_Goes.st ?_ (fun _ k => XS.iconst X0.here hx rfl (hb hby own_d_jdk_43_method_3_11) k)
    show own_Goes p.tables e below P (s₁.setTop (mkF m 12 #[.val (.int z)] [(.int (0 : Int32))]))
    obtain ⟨fs, hr, hrun, hended, hW, hsame⟩ := X0.leave (v := some (.int (0 : Int32))) (fun h => by rw [Bd.returns] at h; cases h)
    exact own_Goes.fin _ _ (retOut X0 hx (t := .boolean) Bd.returns rfl (Or.inl ⟨rfl, Or.inr (Or.inl rfl), _, rfl⟩) (hb hby own_d_jdk_43_method_3_12) hr) (hPP _ _ ⟨hrun, hended, _, _, rfl, (by show Q_ce Z z h0 n0 _ s₁.heap _; rw [e0]; exact ⟨(by rw [own_ce, if_pos h1]), N0, rfl⟩), ⟨_, rfl⟩, hW, hsame.mono (by decide) (by decide)⟩)
  · skip
    refine own_Goes.st ?_ (fun _ k => XS.icmpNo X0.here hx rfl (hb hby own_d_jdk_43_method_3_4) rfl (flt h1).2.2.1 k)
    show own_Goes p.tables e below P (s₁.setTop (mkF m 7 #[.val (.int z)] []))
    refine own_Goes.st ?_ (fun _ k => XS.iconst X0.here hx rfl (hb hby own_d_jdk_43_method_3_7) k)
    show own_Goes p.tables e below P (s₁.setTop (mkF m 8 #[.val (.int z)] [(.int (1 : Int32))]))
    refine own_Goes.st ?_ (fun _ k => XS.goto X0.here hx rfl (pc0 := 8) (pc' := 12) rfl (hb hby own_d_jdk_43_method_3_8) (by decide) (by decide) k)
    show own_Goes p.tables e below P (s₁.setTop (mkF m 12 #[.val (.int z)] [(.int (1 : Int32))]))
    obtain ⟨fs, hr, hrun, hended, hW, hsame⟩ := X0.leave (v := some (.int (1 : Int32))) (fun h => by rw [Bd.returns] at h; cases h)
    exact own_Goes.fin _ _ (retOut X0 hx (t := .boolean) Bd.returns rfl (Or.inl ⟨rfl, Or.inr (Or.inl rfl), _, rfl⟩) (hb hby own_d_jdk_43_method_3_12) hr) (hPP _ _ ⟨hrun, hended, _, _, rfl, (by show Q_ce Z z h0 n0 _ s₁.heap _; rw [e0]; exact ⟨(by rw [own_ce, if_neg h1]), N0, rfl⟩), ⟨_, rfl⟩, hW, hsame.mono (by decide) (by decide)⟩)
theorem own_ef_tob (m : MethodId) (x0 : Int32) : entryFrame m #[(.int x0)] 1 = mkF m 0 #[.val (.int x0)] [] := by first | (simp [entryFrame, mkF, argsToLocals, Value.category]; done) | rfl
theorem own_d_jdk_43_method_46_0 : decode jdk_43_method_46_code 0 = .ok (.iconst 1, 1) := by decide +kernel
theorem own_d_jdk_43_method_46_1 : decode jdk_43_method_46_code 1 = .ok (.newarray .byte, 2) := by decide +kernel
theorem own_d_jdk_43_method_46_3 : decode jdk_43_method_46_code 3 = .ok (.dup, 1) := by decide +kernel
theorem own_d_jdk_43_method_46_4 : decode jdk_43_method_46_code 4 = .ok (.iconst 0, 1) := by decide +kernel
theorem own_d_jdk_43_method_46_5 : decode jdk_43_method_46_code 5 = .ok (.iload_n 0, 1) := by decide +kernel
theorem own_d_jdk_43_method_46_6 : decode jdk_43_method_46_code 6 = .ok (.i2b, 1) := by decide +kernel
theorem own_d_jdk_43_method_46_7 : decode jdk_43_method_46_code 7 = .ok (.bastore, 1) := by decide +kernel
theorem own_d_jdk_43_method_46_8 : decode jdk_43_method_46_code 8 = .ok (.areturn, 1) := by decide +kernel
def Q_tob (Z : State) (z : Int32) (h0 : Heap) (n0 : Nat) (v : Option Value) (h : Heap) (L : List Loc) : Prop := ∃ (r : Addr), v = some (.ref r) ∧ Fr n0 L ∧ Keep h0 h [] ∧ (h0.size ≤ r) ∧ (Exa Z h r "[B")
set_option maxRecDepth 65536 in
set_option maxHeartbeats 40000000 in
theorem rm_tob (l : Launch) (Z : State) (a0 : Array Value) (hw : ∀ d ∈ tables_1, d.before a0 Z = true) (ws : List Jvm.Cond) (z : Int32) (h0 : Heap) (n0 : Nat) (Z0 : n0 ≤ h0.size) :
    MetFree l (⟨"java/lang/StringLatin1", "toBytes", "(C)[B"⟩ : MethodName) (head1 (Jvm.Cond.code (⟨"java/lang/StringLatin1", "toBytes", "(C)[B"⟩ : MethodName) jdk_43_method_46_code 1 (some (.array .byte)) :: ws) ({ frames := 0, cells := 1, slots := 1, locals := 0 } : Room)) (fun as_ U => as_ = #[(.int z)] ∧ Z.Warmed39 U.vm ∧ U.heap = h0) (fun _ _ _ _ _ => True) (fun _ U o U' => ∃ v L, o = .returned v ∧ Q_tob Z z h0 n0 v U'.heap L ∧ FrameEnd U o U' L ({ frames := 0, cells := 1, slots := 1, locals := 0 } : Room).cells ({ frames := 0, cells := 1, slots := 1, locals := 0 } : Room).slots) := by
  refine MetFree.of_bodySF (plainFor_of_name own_pn_java_lang_StringLatin1) hisR ?_
  intro p e s m args below meth c s₁ Bd hml0 hP hK
  obtain ⟨rfl, hZ, hh⟩ := hP
  have hx := Bd.exec
  have hby := Bd.bytes
  have hml : c.maxLocals = 1 := hml0
  have hown : s.vm.findClass "java/lang/StringLatin1" = some m.cls := findClass_of_methodNamed Bd.named
  have hnm := (name_of_methodNamed Bd.named Bd.method).1
  have X0 : Stand p l e ({ frames := 0, cells := 1, slots := 1, locals := 0 } : Room) s m #[(.int z)] below meth c s₁ [] 0 0 := Stand.of_body Bd
  have e0 : s₁.heap = h0 := by rw [← hh, Bd.state]; rfl
  have N0 := Fr.nil n0
  refine own_Goes.of ?_
  refine own_Goes.nm (fun P hPP => ?_)
  refine own_Goes.st ?_ (fun _ k => castTop (own_ef_tob m z) k)
  have K0 : Keep h0 h0 [] := Keep.refl _ _
  show own_Goes p.tables e below P (s₁.setTop (mkF m 0 #[.val (.int z)] []))
  refine own_Goes.st ?_ (fun _ k => XS.iconst X0.here hx rfl (hb hby own_d_jdk_43_method_46_0) k)
  show own_Goes p.tables e below P (s₁.setTop (mkF m 1 #[.val (.int z)] [(.int (1 : Int32))]))
  obtain ⟨T1, h1, k1, X1, e1, E1, A1, J1, st1⟩ := newPE X0 hx hZ (hw _ (List.mem_of_getElem? (i := 14) rfl)) e0 (g := (mkF m 1 #[.val (.int z)] [(.int (1 : Int32))])) rfl (hb hby own_d_jdk_43_method_46_1) rfl (by decide) (cap := 1) (by decide) (by decide) (by decide) (by decide) (ad := "[B") rfl
  obtain ⟨b1, g1⟩ : ∃ z, z = h0.size := ⟨_, rfl⟩
  rw [← g1] at A1 J1 st1
  have ge_b1 : n0 ≤ b1 := Nat.le_trans Z0 (Nat.le_of_eq g1.symm)
  have sz_b1 : h0.size ≤ b1 := Nat.le_trans K0.1 (Nat.le_of_eq g1.symm)
  refine own_Goes.st ?_ st1
  have Z2 : n0 ≤ h1.size := Nat.le_trans Z0 E1.1
  have K3 := K0.ext E1
  have V4 : Arv Z h1 b1 k1 .byte (1 : Int32) [(.int (0 : Int32))] (.int 0) := (Arv.new A1 (by decide)).pad (pad_rep [] _ 1)
  show own_Goes p.tables e below P (T1.setTop (mkF m 3 #[.val (.int z)] [(.ref b1)]))
  refine own_Goes.st ?_ (fun _ k => XS.dup X1.here hx rfl (hb hby own_d_jdk_43_method_46_3) rfl rfl k)
  show own_Goes p.tables e below P (T1.setTop (mkF m 4 #[.val (.int z)] [(.ref b1), (.ref b1)]))
  refine own_Goes.st ?_ (fun _ k => XS.iconst X1.here hx rfl (hb hby own_d_jdk_43_method_46_4) k)
  show own_Goes p.tables e below P (T1.setTop (mkF m 5 #[.val (.int z)] [(.int (0 : Int32)), (.ref b1), (.ref b1)]))
  refine own_Goes.st ?_ (fun _ k => XS.iloadN X1.here hx rfl (hb hby own_d_jdk_43_method_46_5) rfl k)
  show own_Goes p.tables e below P (T1.setTop (mkF m 6 #[.val (.int z)] [(.int z), (.int (0 : Int32)), (.ref b1), (.ref b1)]))
  refine own_Goes.st ?_ (fun _ k => XS.i2b X1.here hx rfl (hb hby own_d_jdk_43_method_46_6) rfl k)
  show own_Goes p.tables e below P (T1.setTop (mkF m 7 #[.val (.int z)] [(.int ((z).toInt8.toInt32)), (.int (0 : Int32)), (.ref b1), (.ref b1)]))
  obtain ⟨cl5, Ar5, q5, S5, Nn5, Hs5, Gs5⟩ := V4
  have hin6 : ¬ ((0 : Int32) < 0 ∨ cl5.slots.size ≤ ((0 : Int32)).toNatClampNeg) := inb_of S5 ⟨by decide, by decide⟩
  obtain ⟨T6, h6, X6, e6, W6, st6⟩ := stB X1 hx hZ e1 Ar5 (j := (0 : Int32)) hin6 (g := (mkF m 7 #[.val (.int z)] [(.int ((z).toInt8.toInt32)), (.int (0 : Int32)), (.ref b1), (.ref b1)])) rfl rfl (hb hby own_d_jdk_43_method_46_7)
  refine own_Goes.st ?_ st6
  have V7 : Arv Z h6 b1 k1 .byte (1 : Int32) [(.int (nar .byte ((z).toInt8.toInt32)))] (.int 0) := Arv.set Ar5 q5 S5 Nn5 Hs5 Gs5 (fits_nar_byte _) W6 0 rfl (Nat.le_of_ble_eq_true rfl)
  have Z8 : n0 ≤ h6.size := by rw [W6.size]; exact Z2
  have K9 := K3.wr W6 (Or.inr sz_b1)
  have N10 := Fr.snoc X6 N0 ge_b1
  show own_Goes p.tables e below P (T6.setTop (mkF m 8 #[.val (.int z)] [(.ref b1)]))
  obtain ⟨fs, hr, hrun, hended, hW, hsame⟩ := X6.leave (v := some (.ref b1)) (fun h => by rw [Bd.returns] at h; cases h)
  have F11 : Exa Z h6 b1 "[B" := (J1.wr W6)
  exact own_Goes.fin _ _ (retOut X6 hx (t := (.array .byte)) Bd.returns rfl (Or.inr (Or.inr (Or.inr (Or.inr ⟨rfl, rfl, rfl⟩)))) (hb hby own_d_jdk_43_method_46_8) hr) (hPP _ _ ⟨hrun, hended, _, _, rfl, (by show Q_tob Z z h0 n0 _ T6.heap _; rw [e6]; exact ⟨b1, rfl, N10, K9, sz_b1, F11⟩), ⟨_, rfl⟩, hW, hsame.mono (by decide) (by decide)⟩)
theorem own_ef_snew (m : MethodId) (x0 : Addr) (x1 : Addr) : entryFrame m #[(.ref x0), (.ref x1), (.int (0 : Int32))] 3 = mkF m 0 #[.val (.ref x0), .val (.ref x1), .val (.int (0 : Int32))] [] := by first | (simp [entryFrame, mkF, argsToLocals, Value.category]; done) | rfl
theorem own_pn_java_lang_String : plainName "java/lang/String" = true := by first | (simp [plainName, overriddenIn]; done) | decide +kernel
theorem own_d_jdk_42_method_151_0 : decode jdk_42_method_151_code 0 = .ok (.aload_n 0, 1) := by decide +kernel
theorem own_d_jdk_42_method_151_1 : decode jdk_42_method_151_code 1 = .ok (.invokespecial 1, 3) := by decide +kernel
theorem own_d_jdk_42_method_151_4 : decode jdk_42_method_151_code 4 = .ok (.aload_n 0, 1) := by decide +kernel
theorem own_d_jdk_42_method_151_5 : decode jdk_42_method_151_code 5 = .ok (.aload_n 1, 1) := by decide +kernel
theorem own_d_jdk_42_method_151_6 : decode jdk_42_method_151_code 6 = .ok (.putfield 9, 3) := by decide +kernel
theorem own_d_jdk_42_method_151_9 : decode jdk_42_method_151_code 9 = .ok (.aload_n 0, 1) := by decide +kernel
theorem own_d_jdk_42_method_151_10 : decode jdk_42_method_151_code 10 = .ok (.iload_n 2, 1) := by decide +kernel
theorem own_d_jdk_42_method_151_11 : decode jdk_42_method_151_code 11 = .ok (.putfield 15, 3) := by decide +kernel
theorem own_d_jdk_42_method_151_14 : decode jdk_42_method_151_code 14 = .ok (.return_, 1) := by decide +kernel
def Q_snew (Z : State) (a : Addr) (b : Addr) (u1 : Value) (u2 : Value) (h0 : Heap) (n0 : Nat) (v : Option Value) (h : Heap) (L : List Loc) : Prop := v = none ∧ Fr n0 L ∧ Keep h0 h [a] ∧ (Exa Z h a "java/lang/String")
set_option maxRecDepth 65536 in
set_option maxHeartbeats 40000000 in
theorem rm_snew (l : Launch) (Z : State) (a0 : Array Value) (hw : ∀ d ∈ tables_1, d.before a0 Z = true) (ws : List Jvm.Cond) (a : Addr) (b : Addr) (u1 : Value) (u2 : Value) (h0 : Heap) (n0 : Nat) (Z0 : n0 ≤ h0.size) (pr0 : Exa Z h0 a "java/lang/String") (pr1 : Fld Z h0 a "java/lang/String" "value" "[B" u1) (pr2 : Fld Z h0 a "java/lang/String" "coder" "B" u2) (pr3 : n0 ≤ a) :
    MetFree l (⟨"java/lang/String", "<init>", "([BB)V"⟩ : MethodName) (head1 (Jvm.Cond.code (⟨"java/lang/String", "<init>", "([BB)V"⟩ : MethodName) jdk_42_method_151_code 3 none :: ws) ({ frames := 1, cells := 0, slots := 0, locals := 12 } : Room)) (fun as_ U => as_ = #[(.ref a), (.ref b), (.int (0 : Int32))] ∧ Z.Warmed39 U.vm ∧ U.heap = h0) (fun _ _ _ _ _ => True) (fun _ U o U' => ∃ v L, o = .returned v ∧ Q_snew Z a b u1 u2 h0 n0 v U'.heap L ∧ FrameEnd U o U' L ({ frames := 1, cells := 0, slots := 0, locals := 12 } : Room).cells ({ frames := 1, cells := 0, slots := 0, locals := 12 } : Room).slots) := by
  refine MetFree.of_bodySF (plainFor_of_name own_pn_java_lang_String) hisR ?_
  intro p e s m args below meth c s₁ Bd hml0 hP hK
  obtain ⟨rfl, hZ, hh⟩ := hP
  have hx := Bd.exec
  have hby := Bd.bytes
  have hml : c.maxLocals = 3 := hml0
  have hown : s.vm.findClass "java/lang/String" = some m.cls := findClass_of_methodNamed Bd.named
  have hnm := (name_of_methodNamed Bd.named Bd.method).1
  have X0 : Stand p l e ({ frames := 1, cells := 0, slots := 0, locals := 12 } : Room) s m #[(.ref a), (.ref b), (.int (0 : Int32))] below meth c s₁ [] 0 0 := Stand.of_body Bd
  have e0 : s₁.heap = h0 := by rw [← hh, Bd.state]; rfl
  have N0 := Fr.nil n0
  refine own_Goes.of ?_
  refine own_Goes.nm (fun P hPP => ?_)
  refine own_Goes.st ?_ (fun _ k => castTop (own_ef_snew m a b) k)
  have K0 : Keep h0 h0 [a] := Keep.refl _ _
  show own_Goes p.tables e below P (s₁.setTop (mkF m 0 #[.val (.ref a), .val (.ref b), .val (.int (0 : Int32))] []))
  refine own_Goes.st ?_ (fun _ k => XS.aloadN X0.here hx rfl (hb hby own_d_jdk_42_method_151_0) rfl rfl k)
  show own_Goes p.tables e below P (s₁.setTop (mkF m 1 #[.val (.ref a), .val (.ref b), .val (.int (0 : Int32))] [(.ref a)]))
  obtain ⟨T1, X1, e1, st1⟩ := initO X0 hx hZ hown (hw _ (List.mem_of_getElem? (i := 19) rfl)) (hw _ (List.mem_of_getElem? (i := 20) rfl)) (hw _ (List.mem_of_getElem? (i := 21) rfl)) e0 (g := (mkF m 1 #[.val (.ref a), .val (.ref b), .val (.int (0 : Int32))] [(.ref a)])) rfl (by rw [hml]; rfl) rfl (hb hby own_d_jdk_42_method_151_1) (by decide) (W := 0) (by show 2 * 0 + _ ≤ _; exact Nat.le_of_eq rfl) (by decide)
  refine own_Goes.st ?_ st1
  show own_Goes p.tables e below P (T1.setTop (mkF m 4 #[.val (.ref a), .val (.ref b), .val (.int (0 : Int32))] []))
  refine own_Goes.st ?_ (fun _ k => XS.aloadN X1.here hx rfl (hb hby own_d_jdk_42_method_151_4) rfl rfl k)
  show own_Goes p.tables e below P (T1.setTop (mkF m 5 #[.val (.ref a), .val (.ref b), .val (.int (0 : Int32))] [(.ref a)]))
  refine own_Goes.st ?_ (fun _ k => XS.aloadN X1.here hx rfl (hb hby own_d_jdk_42_method_151_5) rfl rfl k)
  show own_Goes p.tables e below P (T1.setTop (mkF m 6 #[.val (.ref a), .val (.ref b), .val (.int (0 : Int32))] [(.ref b), (.ref a)]))
  obtain ⟨T2, h2, X2, e2, W2, st2⟩ := putF X1 hx hZ hown (host := "") (Or.inl (hw _ (List.mem_of_getElem? (i := 22) rfl))) Via.refl e1 pr1 pr0 (Or.inr ⟨(hw _ (List.mem_of_getElem? (i := 23) rfl)), rfl, hnm⟩) (hw _ (List.mem_of_getElem? (i := 10) rfl)) (ty := (.array .byte)) (by decide) rfl rfl (g := (mkF m 6 #[.val (.ref a), .val (.ref b), .val (.int (0 : Int32))] [(.ref b), (.ref a)])) rfl rfl (hb hby own_d_jdk_42_method_151_6)
  refine own_Goes.st ?_ st2
  have F3 : Fld Z h2 a "java/lang/String" "value" "[B" (.ref b) := pr1.same W2
  have Z4 : n0 ≤ h2.size := by rw [W2.size]; exact Z0
  have K5 := K0.wr W2 (Or.inl (List.mem_of_getElem? (i := 0) rfl))
  have N6 := Fr.snoc X2 N0 pr3
  show own_Goes p.tables e below P (T2.setTop (mkF m 9 #[.val (.ref a), .val (.ref b), .val (.int (0 : Int32))] []))
  refine own_Goes.st ?_ (fun _ k => XS.aloadN X2.here hx rfl (hb hby own_d_jdk_42_method_151_9) rfl rfl k)
  show own_Goes p.tables e below P (T2.setTop (mkF m 10 #[.val (.ref a), .val (.ref b), .val (.int (0 : Int32))] [(.ref a)]))
  refine own_Goes.st ?_ (fun _ k => XS.iloadN X2.here hx rfl (hb hby own_d_jdk_42_method_151_10) rfl k)
  show own_Goes p.tables e below P (T2.setTop (mkF m 11 #[.val (.ref a), .val (.ref b), .val (.int (0 : Int32))] [(.int (0 : Int32)), (.ref a)]))
  have F7 : Fld Z h2 a "java/lang/String" "coder" "B" u2 := (pr2.other W2 (Or.inr (slot_ne (Or.inr (hw _ (List.mem_of_getElem? (i := 25) rfl))) (Or.inr (hw _ (List.mem_of_getElem? (i := 23) rfl))) (by decide) (t := .byte) (t' := (.array .byte)) (by decide) (by decide))))
  have F8 : Exa Z h2 a "java/lang/String" := (pr0.wr W2)
  obtain ⟨T9, h9, X9, e9, W9, st9⟩ := putF X2 hx hZ hown (host := "") (Or.inl (hw _ (List.mem_of_getElem? (i := 24) rfl))) Via.refl e2 F7 F8 (Or.inr ⟨(hw _ (List.mem_of_getElem? (i := 25) rfl)), rfl, hnm⟩) (hw _ (List.mem_of_getElem? (i := 10) rfl)) (ty := .byte) (by decide) rfl rfl (g := (mkF m 11 #[.val (.ref a), .val (.ref b), .val (.int (0 : Int32))] [(.int (0 : Int32)), (.ref a)])) rfl rfl (hb hby own_d_jdk_42_method_151_11)
  refine own_Goes.st ?_ st9
  have F10 : Fld Z h9 a "java/lang/String" "coder" "B" (.int (0 : Int32)) := F7.same W9
  have Z11 : n0 ≤ h9.size := by rw [W9.size]; exact Z4
  have K12 := K5.wr W9 (Or.inl (List.mem_of_getElem? (i := 0) rfl))
  have N13 := Fr.snoc X9 N6 pr3
  show own_Goes p.tables e below P (T9.setTop (mkF m 14 #[.val (.ref a), .val (.ref b), .val (.int (0 : Int32))] []))
  obtain ⟨fs, hr, hrun, hended, hW, hsame⟩ := X9.leave (v := none) (fun _ => rfl)
  have F14 : Exa Z h9 a "java/lang/String" := (F8.wr W9)
  exact own_Goes.fin _ _ (X9.returnOut hx Bd.returns (hb hby own_d_jdk_42_method_151_14) hr) (hPP _ _ ⟨hrun, hended, _, _, rfl, (by show Q_snew Z a b u1 u2 h0 n0 _ T9.heap _; rw [e9]; exact ⟨rfl, N13, K12, F14⟩), ⟨_, rfl⟩, hW, hsame.mono (by decide) (by decide)⟩)
theorem own_ef_vof (m : MethodId) (x0 : Int32) : entryFrame m #[(.int x0)] 1 = mkF m 0 #[.val (.int x0)] [] := by first | (simp [entryFrame, mkF, argsToLocals, Value.category]; done) | rfl
theorem own_d_jdk_42_method_139_0 : decode jdk_42_method_139_code 0 = .ok (.getstatic 38, 3) := by decide +kernel
theorem own_d_jdk_42_method_139_3 : decode jdk_42_method_139_code 3 = .ok (.ifCond .eq 23, 3) := by decide +kernel
theorem own_d_jdk_42_method_139_6 : decode jdk_42_method_139_code 6 = .ok (.iload_n 0, 1) := by decide +kernel
theorem own_pd__28_C_29_Z : parseMethodDescriptor "(C)Z" = some ⟨[.char], some .boolean⟩ := by decide +kernel
theorem own_d_jdk_42_method_139_7 : decode jdk_42_method_139_code 7 = .ok (.invokestatic 1015, 3) := by decide +kernel
theorem own_d_jdk_42_method_139_10 : decode jdk_42_method_139_code 10 = .ok (.ifCond .eq 16, 3) := by decide +kernel
theorem own_d_jdk_42_method_139_13 : decode jdk_42_method_139_code 13 = .ok (.new 10, 3) := by decide +kernel
theorem own_d_jdk_42_method_139_16 : decode jdk_42_method_139_code 16 = .ok (.dup, 1) := by decide +kernel
theorem own_d_jdk_42_method_139_17 : decode jdk_42_method_139_code 17 = .ok (.iload_n 0, 1) := by decide +kernel
theorem own_pd__28_C_29__5b_B : parseMethodDescriptor "(C)[B" = some ⟨[.char], some (.array .byte)⟩ := by decide +kernel
theorem own_d_jdk_42_method_139_18 : decode jdk_42_method_139_code 18 = .ok (.invokestatic 1018, 3) := by decide +kernel
theorem own_d_jdk_42_method_139_21 : decode jdk_42_method_139_code 21 = .ok (.iconst 0, 1) := by decide +kernel
theorem own_pd__28__5b_BB_29_V : parseMethodDescriptor "([BB)V" = some ⟨[(.array .byte), .byte], none⟩ := by decide +kernel
theorem own_d_jdk_42_method_139_22 : decode jdk_42_method_139_code 22 = .ok (.invokespecial 209, 3) := by decide +kernel
theorem own_d_jdk_42_method_139_25 : decode jdk_42_method_139_code 25 = .ok (.areturn, 1) := by decide +kernel
def Q_vof (Z : State) (z : Int32) (cs : Int32) (h0 : Heap) (n0 : Nat) (v : Option Value) (h : Heap) (L : List Loc) : Prop := ∃ (r : Addr), v = some (.ref r) ∧ Fr n0 L ∧ Keep h0 h [] ∧ (h0.size ≤ r) ∧ (Exa Z h r "java/lang/String")
set_option maxRecDepth 65536 in
set_option maxHeartbeats 40000000 in
theorem rm_vof (l : Launch) (Z : State) (a0 : Array Value) (hw : ∀ d ∈ tables_1, d.before a0 Z = true) (ws : List Jvm.Cond) (z : Int32) (cs : Int32) (h0 : Heap) (n0 : Nat) (Z0 : n0 ≤ h0.size) (pr0 : Sta Z Z.heap "java/lang/String" "COMPACT_STRINGS" "Z" (.int cs)) (pr1 : Old Z n0 h0) (hcs : ¬ (cs = (0 : Int32))) (hz : ¬ (255 : Int32) < z) :
    MetFree l (⟨"java/lang/String", "valueOf", "(C)Ljava/lang/String;"⟩ : MethodName) (head1 (Jvm.Cond.code (⟨"java/lang/String", "valueOf", "(C)Ljava/lang/String;"⟩ : MethodName) jdk_42_method_139_code 1 (some (.object "java/lang/String")) :: ws) ({ frames := 2, cells := 2, slots := 5, locals := 27 } : Room)) (fun as_ U => as_ = #[(.int z)] ∧ Z.Warmed39 U.vm ∧ U.heap = h0) (fun _ _ _ _ _ => True) (fun _ U o U' => ∃ v L, o = .returned v ∧ Q_vof Z z cs h0 n0 v U'.heap L ∧ FrameEnd U o U' L ({ frames := 2, cells := 2, slots := 5, locals := 27 } : Room).cells ({ frames := 2, cells := 2, slots := 5, locals := 27 } : Room).slots) := by
  refine MetFree.of_bodySF (plainFor_of_name own_pn_java_lang_String) hisR ?_
  intro p e s m args below meth c s₁ Bd hml0 hP hK
  obtain ⟨rfl, hZ, hh⟩ := hP
  have hx := Bd.exec
  have hby := Bd.bytes
  have hml : c.maxLocals = 1 := hml0
  have hown : s.vm.findClass "java/lang/String" = some m.cls := findClass_of_methodNamed Bd.named
  have hnm := (name_of_methodNamed Bd.named Bd.method).1
  have X0 : Stand p l e ({ frames := 2, cells := 2, slots := 5, locals := 27 } : Room) s m #[(.int z)] below meth c s₁ [] 0 0 := Stand.of_body Bd
  have e0 : s₁.heap = h0 := by rw [← hh, Bd.state]; rfl
  have N0 := Fr.nil n0
  refine own_Goes.of ?_
  refine own_Goes.nm (fun P hPP => ?_)
  refine own_Goes.st ?_ (fun _ k => castTop (own_ef_vof m z) k)
  have K0 : Keep h0 h0 [] := Keep.refl _ _
  show own_Goes p.tables e below P (s₁.setTop (mkF m 0 #[.val (.int z)] []))
  obtain ⟨T1, X1, e1, st1⟩ := getS2 X0 hx hZ hown (host := "") (Or.inl (hw _ (List.mem_of_getElem? (i := 4) rfl))) Via.refl e0 (pr0.ext pr1.2) (g := (mkF m 0 #[.val (.int z)] [])) rfl (hb hby own_d_jdk_42_method_139_0)
  refine own_Goes.st ?_ st1
  show own_Goes p.tables e below P (T1.setTop (mkF m 3 #[.val (.int z)] [(.int cs)]))
  refine own_Goes.st ?_ (fun _ k => XS.ifNo X1.here hx rfl (hb hby own_d_jdk_42_method_139_3) rfl ((if0 _ _).trans (feq hcs).1) k)
  show own_Goes p.tables e below P (T1.setTop (mkF m 6 #[.val (.int z)] []))
  refine own_Goes.st ?_ (fun _ k => XS.iloadN X1.here hx rfl (hb hby own_d_jdk_42_method_139_6) rfl k)
  show own_Goes p.tables e below P (T1.setTop (mkF m 7 #[.val (.int z)] [(.int z)]))
  obtain ⟨_, _, ⟨T2, L2, k2, n2⟩, -, X2, ⟨Lc2, hQ2, l2, y2, z2⟩, st2⟩ := Jvm.LawKit.callS X1 hx (y := (⟨"java/lang/StringLatin1", "canEncode", "(C)Z"⟩ : MethodName)) hown (mvT hZ (hw _ (List.mem_of_getElem? (i := 5) rfl))) (mvT hZ (hw _ (List.mem_of_getElem? (i := 6) rfl))) (mvT hZ (hw _ (List.mem_of_getElem? (i := 7) rfl))) (mvT hZ (hw _ (List.mem_of_getElem? (i := 8) rfl))) (by decide) (backOf (W := 0) (rm_ce l Z a0 hw [] z h0 n0 Z0) hZ (hw _ (List.mem_of_getElem? (i := 8) rfl)) (hw _ (List.mem_of_getElem? (i := 7) rfl)) (by decide) (by decide)) (g := (mkF m 7 #[.val (.int z)] [(.int z)])) rfl (by rw [hml]; rfl) (argsL := [(.int z)]) (rest := []) (lenOf own_pd__28_C_29_Z rfl) rfl (by show 2 * 0 + _ ≤ _; exact Nat.le_of_eq rfl) (hb hby own_d_jdk_42_method_139_7) (fun _ _ => ⟨rfl, e1, (by decide : 0 + 0 ≤ _), (by decide : 0 + 0 ≤ _)⟩)
  dsimp only [Pt.U, Pt.locs, Pt.cells, Pt.slots] at X2 l2 y2 z2 st2 hQ2
  subst l2 y2 z2
  obtain ⟨rfl, Nq2, e2⟩ := hQ2
  have N2 := Fr.app N0 Nq2
  refine own_Goes.st ?_ st2
  show own_Goes p.tables e below P (T2.setTop (mkF m 10 #[.val (.int z)] [(.int (own_ce z))]))
  rw [(show own_ce z = 1 by rw [own_ce, if_neg hz])]
  show own_Goes p.tables e below P (T2.setTop (mkF m 10 #[.val (.int z)] [(.int (1 : Int32))]))
  refine own_Goes.st ?_ (fun _ k => XS.ifNo X2.here hx rfl (hb hby own_d_jdk_42_method_139_10) rfl ((if0 _ _).trans (feq (by decide : ¬ ((1 : Int32) = (0 : Int32)))).1) k)
  show own_Goes p.tables e below P (T2.setTop (mkF m 13 #[.val (.int z)] []))
  obtain ⟨T3, h3, X3, e3, E3, A3, D3, -, st3⟩ := newO X2 hx hZ hown (hw _ (List.mem_of_getElem? (i := 9) rfl)) (hw _ (List.mem_of_getElem? (i := 10) rfl)) (hw _ (List.mem_of_getElem? (i := 2) rfl)) e2 (g := (mkF m 13 #[.val (.int z)] [])) rfl (hb hby own_d_jdk_42_method_139_13) (by decide) (by decide)
  obtain ⟨a3, g3⟩ : ∃ z, z = h0.size := ⟨_, rfl⟩
  rw [← g3] at A3 D3 st3
  have ge_a3 : n0 ≤ a3 := Nat.le_trans Z0 (Nat.le_of_eq g3.symm)
  have sz_a3 : h0.size ≤ a3 := Nat.le_trans K0.1 (Nat.le_of_eq g3.symm)
  refine own_Goes.st ?_ st3
  have Z4 : n0 ≤ h3.size := Nat.le_trans Z0 E3.1
  have K5 := K0.ext E3
  have O6 := pr1.ext E3
  have F7 : Fld Z h3 a3 "java/lang/String" "value" "[B" .null := D3 (Or.inr (hw _ (List.mem_of_getElem? (i := 23) rfl))) (ty := (.array .byte)) (by decide)
  have F8 : Fld Z h3 a3 "java/lang/String" "coder" "B" (.int (0 : Int32)) := D3 (Or.inr (hw _ (List.mem_of_getElem? (i := 25) rfl))) (ty := .byte) (by decide)
  show own_Goes p.tables e below P (T3.setTop (mkF m 16 #[.val (.int z)] [(.ref a3)]))
  refine own_Goes.st ?_ (fun _ k => XS.dup X3.here hx rfl (hb hby own_d_jdk_42_method_139_16) rfl rfl k)
  show own_Goes p.tables e below P (T3.setTop (mkF m 17 #[.val (.int z)] [(.ref a3), (.ref a3)]))
  refine own_Goes.st ?_ (fun _ k => XS.iloadN X3.here hx rfl (hb hby own_d_jdk_42_method_139_17) rfl k)
  show own_Goes p.tables e below P (T3.setTop (mkF m 18 #[.val (.int z)] [(.int z), (.ref a3), (.ref a3)]))
  obtain ⟨_, _, ⟨T9, L9, k9, n9⟩, -, X9, ⟨Lc9, hQ9, l9, y9, z9⟩, st9⟩ := Jvm.LawKit.callS X3 hx (y := (⟨"java/lang/StringLatin1", "toBytes", "(C)[B"⟩ : MethodName)) hown (mvT hZ (hw _ (List.mem_of_getElem? (i := 11) rfl))) (mvT hZ (hw _ (List.mem_of_getElem? (i := 12) rfl))) (mvT hZ (hw _ (List.mem_of_getElem? (i := 7) rfl))) (mvT hZ (hw _ (List.mem_of_getElem? (i := 13) rfl))) (by decide) (backOf (W := 2) (rm_tob l Z a0 hw [] z h3 n0 Z4) hZ (hw _ (List.mem_of_getElem? (i := 13) rfl)) (hw _ (List.mem_of_getElem? (i := 7) rfl)) (by decide) (by decide)) (g := (mkF m 18 #[.val (.int z)] [(.int z), (.ref a3), (.ref a3)])) rfl (by rw [hml]; rfl) (argsL := [(.int z)]) (rest := [(.ref a3), (.ref a3)]) (lenOf own_pd__28_C_29__5b_B rfl) rfl (by show 2 * 0 + _ ≤ _; exact Nat.le_of_eq rfl) (hb hby own_d_jdk_42_method_139_18) (fun _ _ => ⟨rfl, e3, (by decide : 1 + 1 ≤ _), (by decide : 4 + 1 ≤ _)⟩)
  dsimp only [Pt.U, Pt.locs, Pt.cells, Pt.slots] at X9 l9 y9 z9 st9 hQ9
  subst l9 y9 z9
  obtain ⟨r9, rfl, Nq9, K9, f10, f11⟩ := hQ9
  have N9 := Fr.app N2 Nq9
  refine own_Goes.st ?_ st9
  have ne12 : a3 ≠ r9 := Nat.ne_of_lt (Nat.lt_of_lt_of_le A3.lt f10)
  have ge_r9 : n0 ≤ r9 := Nat.le_trans Z4 f10
  have sz_r9 : h0.size ≤ r9 := Nat.le_trans K5.1 f10
  have Z13 : n0 ≤ T9.heap.size := Nat.le_trans Z4 K9.1
  have K14 := K5.trans K9 all0
  have O15 := O6.keep K9 all0
  show own_Goes p.tables e below P (T9.setTop (mkF m 21 #[.val (.int z)] [(.ref r9), (.ref a3), (.ref a3)]))
  refine own_Goes.st ?_ (fun _ k => XS.iconst X9.here hx rfl (hb hby own_d_jdk_42_method_139_21) k)
  show own_Goes p.tables e below P (T9.setTop (mkF m 22 #[.val (.int z)] [(.int (0 : Int32)), (.ref r9), (.ref a3), (.ref a3)]))
  have F16 : Exa Z T9.heap a3 "java/lang/String" := (A3.keep K9)
  have F17 : Fld Z T9.heap a3 "java/lang/String" "value" "[B" .null := (F7.keep K9 nin0)
  have F18 : Fld Z T9.heap a3 "java/lang/String" "coder" "B" (.int (0 : Int32)) := (F8.keep K9 nin0)
  obtain ⟨_, _, ⟨T19, L19, k19, n19⟩, -, X19, ⟨Lc19, hQ19, l19, y19, z19⟩, st19⟩ := X9.specialBack hx (y := (⟨"java/lang/String", "<init>", "([BB)V"⟩ : MethodName)) rfl hown (mvT hZ (hw _ (List.mem_of_getElem? (i := 15) rfl))) (mvT hZ (hw _ (List.mem_of_getElem? (i := 16) rfl))) (mvT hZ (hw _ (List.mem_of_getElem? (i := 18) rfl))) (by decide) (backOf (W := 1) (rm_snew l Z a0 hw [] a3 r9 .null (.int (0 : Int32)) T9.heap n0 Z13 F16 F17 F18 ge_a3) hZ (hw _ (List.mem_of_getElem? (i := 18) rfl)) (hw _ (List.mem_of_getElem? (i := 2) rfl)) (by decide) (by decide)) (g := (mkF m 22 #[.val (.int z)] [(.int (0 : Int32)), (.ref r9), (.ref a3), (.ref a3)])) rfl (by rw [hml]; rfl) (Steps.refl _) (a := a3) (argsL := [(.ref r9), (.int (0 : Int32))]) (rest := [(.ref a3)]) (lenOf own_pd__28__5b_BB_29_V rfl) rfl (by show 2 * 0 + _ ≤ _; exact Nat.le_of_eq rfl) (hb hby own_d_jdk_42_method_139_22) (fun _ _ => ⟨rfl, rfl, (by decide : 2 + 0 ≤ _), (by decide : 5 + 0 ≤ _)⟩)
  dsimp only [Pt.U, Pt.locs, Pt.cells, Pt.slots] at X19 l19 y19 z19 st19 hQ19
  subst l19 y19 z19
  obtain ⟨rfl, Nq19, K19, f20⟩ := hQ19
  have N19 := Fr.app N9 Nq19
  refine own_Goes.tr st19 ?_
  have Z21 : n0 ≤ T19.heap.size := Nat.le_trans Z13 K19.1
  have K22 := K14.trans K19 (allS (Or.inr sz_a3) all0)
  have O23 := O15.keep K19 (allS ge_a3 all0)
  show own_Goes p.tables e below P (T19.setTop (mkF m 25 #[.val (.int z)] [(.ref a3)]))
  obtain ⟨fs, hr, hrun, hended, hW, hsame⟩ := X19.leave (v := some (.ref a3)) (fun h => by rw [Bd.returns] at h; cases h)
  exact own_Goes.fin _ _ (retOut X19 hx (t := (.object "java/lang/String")) Bd.returns rfl (Or.inr (Or.inr (Or.inr (Or.inr ⟨rfl, rfl, rfl⟩)))) (hb hby own_d_jdk_42_method_139_25) hr) (hPP _ _ ⟨hrun, hended, _, _, rfl, (by show Q_vof Z z cs h0 n0 _ T19.heap _; exact ⟨a3, rfl, N19, K22, sz_a3, f20⟩), ⟨_, rfl⟩, hW, hsame.mono (by decide) (by decide)⟩)
theorem own_ef_imin (m : MethodId) (x0 : Int32) (x1 : Int32) : entryFrame m #[(.int x0), (.int x1)] 2 = mkF m 0 #[.val (.int x0), .val (.int x1)] [] := by first | (simp [entryFrame, mkF, argsToLocals, Value.category]; done) | rfl
theorem own_d_jdk_29_method_69_0 : decode jdk_29_method_69_code 0 = .ok (.iload_n 0, 1) := by decide +kernel
theorem own_d_jdk_29_method_69_1 : decode jdk_29_method_69_code 1 = .ok (.iload_n 1, 1) := by decide +kernel
theorem own_d_jdk_29_method_69_2 : decode jdk_29_method_69_code 2 = .ok (.if_icmp .gt 7, 3) := by decide +kernel
theorem own_d_jdk_29_method_69_9 : decode jdk_29_method_69_code 9 = .ok (.iload_n 1, 1) := by decide +kernel
theorem own_d_jdk_29_method_69_10 : decode jdk_29_method_69_code 10 = .ok (.ireturn, 1) := by decide +kernel
theorem own_d_jdk_29_method_69_5 : decode jdk_29_method_69_code 5 = .ok (.iload_n 0, 1) := by decide +kernel
theorem own_d_jdk_29_method_69_6 : decode jdk_29_method_69_code 6 = .ok (.goto 4, 3) := by decide +kernel
def Q_imin (Z : State) (i : Int32) (j : Int32) (h0 : Heap) (n0 : Nat) (v : Option Value) (h : Heap) (L : List Loc) : Prop := v = some (.int (own_imin i j)) ∧ Fr n0 L ∧ h = h0
set_option maxRecDepth 65536 in
set_option maxHeartbeats 40000000 in
theorem rm_imin (l : Launch) (Z : State) (a0 : Array Value) (hw : ∀ d ∈ tables_1, d.before a0 Z = true) (ws : List Jvm.Cond) (i : Int32) (j : Int32) (h0 : Heap) (n0 : Nat) (Z0 : n0 ≤ h0.size) :
    MetFree l (⟨"java/lang/Math", "min", "(II)I"⟩ : MethodName) (head1 (Jvm.Cond.code (⟨"java/lang/Math", "min", "(II)I"⟩ : MethodName) jdk_29_method_69_code 2 (some .int) :: ws) ({ frames := 0, cells := 0, slots := 0, locals := 0 } : Room)) (fun as_ U => as_ = #[(.int i), (.int j)] ∧ Z.Warmed39 U.vm ∧ U.heap = h0) (fun _ _ _ _ _ => True) (fun _ U o U' => ∃ v L, o = .returned v ∧ Q_imin Z i j h0 n0 v U'.heap L ∧ FrameEnd U o U' L ({ frames := 0, cells := 0, slots := 0, locals := 0 } : Room).cells ({ frames := 0, cells := 0, slots := 0, locals := 0 } : Room).slots) := by
  refine MetFree.of_bodySF (by decide +kernel) hisR ?_
  intro p e s m args below meth c s₁ Bd hml0 hP hK
  obtain ⟨rfl, hZ, hh⟩ := hP
  have hx := Bd.exec
  have hby := Bd.bytes
  have hml : c.maxLocals = 2 := hml0
  have hown : s.vm.findClass "java/lang/Math" = some m.cls := findClass_of_methodNamed Bd.named
  have hnm := (name_of_methodNamed Bd.named Bd.method).1
  have X0 : Stand p l e ({ frames := 0, cells := 0, slots := 0, locals := 0 } : Room) s m #[(.int i), (.int j)] below meth c s₁ [] 0 0 := Stand.of_body Bd
  have e0 : s₁.heap = h0 := by rw [← hh, Bd.state]; rfl
  have N0 := Fr.nil n0
  refine own_Goes.of ?_
  refine own_Goes.nm (fun P hPP => ?_)
  refine own_Goes.st ?_ (fun _ k => castTop (own_ef_imin m i j) k)
  show own_Goes p.tables e below P (s₁.setTop (mkF m 0 #[.val (.int i), .val (.int j)] []))
  refine own_Goes.st ?_ (fun _ k => XS.iloadN X0.here hx rfl (hb hby own_d_jdk_29_method_69_0) rfl k)
  show own_Goes p.tables e below P (s₁.setTop (mkF m 1 #[.val (.int i), .val (.int j)] [(.int i)]))
  refine own_Goes.st ?_ (fun _ k => XS.iloadN X0.here hx rfl (hb hby own_d_jdk_29_method_69_1) rfl k)
  show own_Goes p.tables e below P (s₁.setTop (mkF m 2 #[.val (.int i), .val (.int j)] [(.int j), (.int i)]))
  by_cases h1 : j < i
  · skip
    refine own_Goes.st ?_ (fun _ k => XS.icmpYes X0.here hx rfl (pc0 := 2) (pc' := 9) rfl (hb hby own_d_jdk_29_method_69_2) rfl (tlt h1).2.2.1 (by decide) (by decide) k)
    show own_Goes p.tables e below P (s₁.setTop (mkF m 9 #[.val (.int i), .val (.int j)] []))
    refine own_Goes.st ?_ (fun _ k => XS.iloadN X0.here hx rfl (hb hby own_d_jdk_29_method_69_9) rfl k)
    show own_Goes p.tables e below P (s₁.setTop (mkF m 10 #[.val (.int i), .val (.int j)] [(.int j)]))
    obtain ⟨fs, hr, hrun, hended, hW, hsame⟩ := X0.leave (v := some (.int j)) (fun h => by rw [Bd.returns] at h; cases h)
    exact own_Goes.fin _ _ (retOut X0 hx (t := .int) Bd.returns rfl (Or.inl ⟨rfl, Or.inl rfl, _, rfl⟩) (hb hby own_d_jdk_29_method_69_10) hr) (hPP _ _ ⟨hrun, hended, _, _, rfl, (by show Q_imin Z i j h0 n0 _ s₁.heap _; rw [e0]; exact ⟨(by rw [own_imin, if_pos h1]), N0, rfl⟩), ⟨_, rfl⟩, hW, hsame.mono (by decide) (by decide)⟩)
  · skip
    refine own_Goes.st ?_ (fun _ k => XS.icmpNo X0.here hx rfl (hb hby own_d_jdk_29_method_69_2) rfl (flt h1).2.2.1 k)
    show own_Goes p.tables e below P (s₁.setTop (mkF m 5 #[.val (.int i), .val (.int j)] []))
    refine own_Goes.st ?_ (fun _ k => XS.iloadN X0.here hx rfl (hb hby own_d_jdk_29_method_69_5) rfl k)
    show own_Goes p.tables e below P (s₁.setTop (mkF m 6 #[.val (.int i), .val (.int j)] [(.int i)]))
    refine own_Goes.st ?_ (fun _ k => XS.goto X0.here hx rfl (pc0 := 6) (pc' := 10) rfl (hb hby own_d_jdk_29_method_69_6) (by decide) (by decide) k)
    show own_Goes p.tables e below P (s₁.setTop (mkF m 10 #[.val (.int i), .val (.int j)] [(.int i)]))
    obtain ⟨fs, hr, hrun, hended, hW, hsame⟩ := X0.leave (v := some (.int i)) (fun h => by rw [Bd.returns] at h; cases h)
    exact own_Goes.fin _ _ (retOut X0 hx (t := .int) Bd.returns rfl (Or.inl ⟨rfl, Or.inl rfl, _, rfl⟩) (hb hby own_d_jdk_29_method_69_10) hr) (hPP _ _ ⟨hrun, hended, _, _, rfl, (by show Q_imin Z i j h0 n0 _ s₁.heap _; rw [e0]; exact ⟨(by rw [own_imin, if_neg h1]), N0, rfl⟩), ⟨_, rfl⟩, hW, hsame.mono (by decide) (by decide)⟩)
theorem own_ef_imax (m : MethodId) (x0 : Int32) (x1 : Int32) : entryFrame m #[(.int x0), (.int x1)] 2 = mkF m 0 #[.val (.int x0), .val (.int x1)] [] := by first | (simp [entryFrame, mkF, argsToLocals, Value.category]; done) | rfl
theorem own_d_jdk_29_method_65_0 : decode jdk_29_method_65_code 0 = .ok (.iload_n 0, 1) := by decide +kernel
theorem own_d_jdk_29_method_65_1 : decode jdk_29_method_65_code 1 = .ok (.iload_n 1, 1) := by decide +kernel
theorem own_d_jdk_29_method_65_2 : decode jdk_29_method_65_code 2 = .ok (.if_icmp .lt 7, 3) := by decide +kernel
theorem own_d_jdk_29_method_65_9 : decode jdk_29_method_65_code 9 = .ok (.iload_n 1, 1) := by decide +kernel
theorem own_d_jdk_29_method_65_10 : decode jdk_29_method_65_code 10 = .ok (.ireturn, 1) := by decide +kernel
theorem own_d_jdk_29_method_65_5 : decode jdk_29_method_65_code 5 = .ok (.iload_n 0, 1) := by decide +kernel
theorem own_d_jdk_29_method_65_6 : decode jdk_29_method_65_code 6 = .ok (.goto 4, 3) := by decide +kernel
def Q_imax (Z : State) (i : Int32) (j : Int32) (h0 : Heap) (n0 : Nat) (v : Option Value) (h : Heap) (L : List Loc) : Prop := v = some (.int (own_imax i j)) ∧ Fr n0 L ∧ h = h0
set_option maxRecDepth 65536 in
set_option maxHeartbeats 40000000 in
theorem rm_imax (l : Launch) (Z : State) (a0 : Array Value) (hw : ∀ d ∈ tables_1, d.before a0 Z = true) (ws : List Jvm.Cond) (i : Int32) (j : Int32) (h0 : Heap) (n0 : Nat) (Z0 : n0 ≤ h0.size) :
    MetFree l (⟨"java/lang/Math", "max", "(II)I"⟩ : MethodName) (head1 (Jvm.Cond.code (⟨"java/lang/Math", "max", "(II)I"⟩ : MethodName) jdk_29_method_65_code 2 (some .int) :: ws) ({ frames := 0, cells := 0, slots := 0, locals := 0 } : Room)) (fun as_ U => as_ = #[(.int i), (.int j)] ∧ Z.Warmed39 U.vm ∧ U.heap = h0) (fun _ _ _ _ _ => True) (fun _ U o U' => ∃ v L, o = .returned v ∧ Q_imax Z i j h0 n0 v U'.heap L ∧ FrameEnd U o U' L ({ frames := 0, cells := 0, slots := 0, locals := 0 } : Room).cells ({ frames := 0, cells := 0, slots := 0, locals := 0 } : Room).slots) := by
  refine MetFree.of_bodySF (by decide +kernel) hisR ?_
  intro p e s m args below meth c s₁ Bd hml0 hP hK
  obtain ⟨rfl, hZ, hh⟩ := hP
  have hx := Bd.exec
  have hby := Bd.bytes
  have hml : c.maxLocals = 2 := hml0
  have hown : s.vm.findClass "java/lang/Math" = some m.cls := findClass_of_methodNamed Bd.named
  have hnm := (name_of_methodNamed Bd.named Bd.method).1
  have X0 : Stand p l e ({ frames := 0, cells := 0, slots := 0, locals := 0 } : Room) s m #[(.int i), (.int j)] below meth c s₁ [] 0 0 := Stand.of_body Bd
  have e0 : s₁.heap = h0 := by rw [← hh, Bd.state]; rfl
  have N0 := Fr.nil n0
  refine own_Goes.of ?_
  refine own_Goes.nm (fun P hPP => ?_)
  refine own_Goes.st ?_ (fun _ k => castTop (own_ef_imax m i j) k)
  show own_Goes p.tables e below P (s₁.setTop (mkF m 0 #[.val (.int i), .val (.int j)] []))
  refine own_Goes.st ?_ (fun _ k => XS.iloadN X0.here hx rfl (hb hby own_d_jdk_29_method_65_0) rfl k)
  show own_Goes p.tables e below P (s₁.setTop (mkF m 1 #[.val (.int i), .val (.int j)] [(.int i)]))
  refine own_Goes.st ?_ (fun _ k => XS.iloadN X0.here hx rfl (hb hby own_d_jdk_29_method_65_1) rfl k)
  show own_Goes p.tables e below P (s₁.setTop (mkF m 2 #[.val (.int i), .val (.int j)] [(.int j), (.int i)]))
  by_cases h1 : i < j
  · skip
    refine own_Goes.st ?_ (fun _ k => XS.icmpYes X0.here hx rfl (pc0 := 2) (pc' := 9) rfl (hb hby own_d_jdk_29_method_65_2) rfl (tlt h1).1 (by decide) (by decide) k)
    show own_Goes p.tables e below P (s₁.setTop (mkF m 9 #[.val (.int i), .val (.int j)] []))
    refine own_Goes.st ?_ (fun _ k => XS.iloadN X0.here hx rfl (hb hby own_d_jdk_29_method_65_9) rfl k)
    show own_Goes p.tables e below P (s₁.setTop (mkF m 10 #[.val (.int i), .val (.int j)] [(.int j)]))
    obtain ⟨fs, hr, hrun, hended, hW, hsame⟩ := X0.leave (v := some (.int j)) (fun h => by rw [Bd.returns] at h; cases h)
    exact own_Goes.fin _ _ (retOut X0 hx (t := .int) Bd.returns rfl (Or.inl ⟨rfl, Or.inl rfl, _, rfl⟩) (hb hby own_d_jdk_29_method_65_10) hr) (hPP _ _ ⟨hrun, hended, _, _, rfl, (by show Q_imax Z i j h0 n0 _ s₁.heap _; rw [e0]; exact ⟨(by rw [own_imax, if_pos h1]), N0, rfl⟩), ⟨_, rfl⟩, hW, hsame.mono (by decide) (by decide)⟩)
  · skip
    refine own_Goes.st ?_ (fun _ k => XS.icmpNo X0.here hx rfl (hb hby own_d_jdk_29_method_65_2) rfl (flt h1).1 k)
    show own_Goes p.tables e below P (s₁.setTop (mkF m 5 #[.val (.int i), .val (.int j)] []))
    refine own_Goes.st ?_ (fun _ k => XS.iloadN X0.here hx rfl (hb hby own_d_jdk_29_method_65_5) rfl k)
    show own_Goes p.tables e below P (s₁.setTop (mkF m 6 #[.val (.int i), .val (.int j)] [(.int i)]))
    refine own_Goes.st ?_ (fun _ k => XS.goto X0.here hx rfl (pc0 := 6) (pc' := 10) rfl (hb hby own_d_jdk_29_method_65_6) (by decide) (by decide) k)
    show own_Goes p.tables e below P (s₁.setTop (mkF m 10 #[.val (.int i), .val (.int j)] [(.int i)]))
    obtain ⟨fs, hr, hrun, hended, hW, hsame⟩ := X0.leave (v := some (.int i)) (fun h => by rw [Bd.returns] at h; cases h)
    exact own_Goes.fin _ _ (retOut X0 hx (t := .int) Bd.returns rfl (Or.inl ⟨rfl, Or.inl rfl, _, rfl⟩) (hb hby own_d_jdk_29_method_65_10) hr) (hPP _ _ ⟨hrun, hended, _, _, rfl, (by show Q_imax Z i j h0 n0 _ s₁.heap _; rw [e0]; exact ⟨(by rw [own_imax, if_neg h1]), N0, rfl⟩), ⟨_, rfl⟩, hW, hsame.mono (by decide) (by decide)⟩)
theorem own_ef_rec (m : MethodId) (x0 : Addr) : entryFrame m #[(.ref x0)] 1 = mkF m 0 #[.val (.ref x0)] [] := by first | (simp [entryFrame, mkF, argsToLocals, Value.category]; done) | rfl
theorem own_pn_java_lang_Record : plainName "java/lang/Record" = true := by first | (simp [plainName, overriddenIn]; done) | decide +kernel
theorem own_d_jdk_30_method_1_0 : decode jdk_30_method_1_code 0 = .ok (.aload_n 0, 1) := by decide +kernel
theorem own_d_jdk_30_method_1_1 : decode jdk_30_method_1_code 1 = .ok (.invokespecial 1, 3) := by decide +kernel
theorem own_d_jdk_30_method_1_4 : decode jdk_30_method_1_code 4 = .ok (.return_, 1) := by decide +kernel
def Q_rec (Z : State) (a : Addr) (h0 : Heap) (n0 : Nat) (v : Option Value) (h : Heap) (L : List Loc) : Prop := v = none ∧ Fr n0 L ∧ h = h0
set_option maxRecDepth 65536 in
set_option maxHeartbeats 40000000 in
theorem rm_rec (l : Launch) (Z : State) (a0 : Array Value) (hw : ∀ d ∈ tables_1, d.before a0 Z = true) (ws : List Jvm.Cond) (a : Addr) (h0 : Heap) (n0 : Nat) (Z0 : n0 ≤ h0.size) :
    MetFree l (⟨"java/lang/Record", "<init>", "()V"⟩ : MethodName) (head1 (Jvm.Cond.code (⟨"java/lang/Record", "<init>", "()V"⟩ : MethodName) jdk_30_method_1_code 1 none :: ws) ({ frames := 1, cells := 0, slots := 0, locals := 12 } : Room)) (fun as_ U => as_ = #[(.ref a)] ∧ Z.Warmed39 U.vm ∧ U.heap = h0) (fun _ _ _ _ _ => True) (fun _ U o U' => ∃ v L, o = .returned v ∧ Q_rec Z a h0 n0 v U'.heap L ∧ FrameEnd U o U' L ({ frames := 1, cells := 0, slots := 0, locals := 12 } : Room).cells ({ frames := 1, cells := 0, slots := 0, locals := 12 } : Room).slots) := by
  refine MetFree.of_bodySF (plainFor_of_name own_pn_java_lang_Record) hisR ?_
  intro p e s m args below meth c s₁ Bd hml0 hP hK
  obtain ⟨rfl, hZ, hh⟩ := hP
  have hx := Bd.exec
  have hby := Bd.bytes
  have hml : c.maxLocals = 1 := hml0
  have hown : s.vm.findClass "java/lang/Record" = some m.cls := findClass_of_methodNamed Bd.named
  have hnm := (name_of_methodNamed Bd.named Bd.method).1
  have X0 : Stand p l e ({ frames := 1, cells := 0, slots := 0, locals := 12 } : Room) s m #[(.ref a)] below meth c s₁ [] 0 0 := Stand.of_body Bd
  have e0 : s₁.heap = h0 := by rw [← hh, Bd.state]; rfl
  have N0 := Fr.nil n0
  refine own_Goes.of ?_
  refine own_Goes.nm (fun P hPP => ?_)
  refine own_Goes.st ?_ (fun _ k => castTop (own_ef_rec m a) k)
  show own_Goes p.tables e below P (s₁.setTop (mkF m 0 #[.val (.ref a)] []))
  refine own_Goes.st ?_ (fun _ k => XS.aloadN X0.here hx rfl (hb hby own_d_jdk_30_method_1_0) rfl rfl k)
  show own_Goes p.tables e below P (s₁.setTop (mkF m 1 #[.val (.ref a)] [(.ref a)]))
  obtain ⟨T1, X1, e1, st1⟩ := initO X0 hx hZ hown (hw _ (List.mem_of_getElem? (i := 44) rfl)) (hw _ (List.mem_of_getElem? (i := 20) rfl)) (hw _ (List.mem_of_getElem? (i := 21) rfl)) e0 (g := (mkF m 1 #[.val (.ref a)] [(.ref a)])) rfl (by rw [hml]; rfl) rfl (hb hby own_d_jdk_30_method_1_1) (by decide) (W := 0) (by show 2 * 0 + _ ≤ _; exact Nat.le_of_eq rfl) (by decide)
  refine own_Goes.st ?_ st1
  show own_Goes p.tables e below P (T1.setTop (mkF m 4 #[.val (.ref a)] []))
  obtain ⟨fs, hr, hrun, hended, hW, hsame⟩ := X1.leave (v := none) (fun _ => rfl)
  exact own_Goes.fin _ _ (X1.returnOut hx Bd.returns (hb hby own_d_jdk_30_method_1_4) hr) (hPP _ _ ⟨hrun, hended, _, _, rfl, (by show Q_rec Z a h0 n0 _ T1.heap _; rw [e1]; exact ⟨rfl, N0, rfl⟩), ⟨_, rfl⟩, hW, hsame.mono (by decide) (by decide)⟩)
theorem own_ef_new (m : MethodId) (x0 : Addr) (x1 : Addr) (x2 : Addr) (x3 : Int32) : entryFrame m #[(.ref x0), (.ref x1), (.ref x2), (.int x3)] 4 = mkF m 0 #[.val (.ref x0), .val (.ref x1), .val (.ref x2), .val (.int x3)] [] := by first | (simp [entryFrame, mkF, argsToLocals, Value.category]; done) | rfl
theorem own_pn_com_example_shrike_shrike_model_Judgment : plainName "com/example/shrike/shrike/model/Judgment" = true := by first | (simp [plainName, overriddenIn]; done) | decide +kernel
theorem own_d_prog_59_method_1_0 : decode prog_59_method_1_code 0 = .ok (.aload_n 0, 1) := by decide +kernel
theorem own_pd__28__29_V : parseMethodDescriptor "()V" = some ⟨[], none⟩ := by decide +kernel
theorem own_d_prog_59_method_1_1 : decode prog_59_method_1_code 1 = .ok (.invokespecial 1, 3) := by decide +kernel
theorem own_d_prog_59_method_1_4 : decode prog_59_method_1_code 4 = .ok (.aload_n 0, 1) := by decide +kernel
theorem own_d_prog_59_method_1_5 : decode prog_59_method_1_code 5 = .ok (.aload_n 1, 1) := by decide +kernel
theorem own_d_prog_59_method_1_6 : decode prog_59_method_1_code 6 = .ok (.putfield 7, 3) := by decide +kernel
theorem own_d_prog_59_method_1_9 : decode prog_59_method_1_code 9 = .ok (.aload_n 0, 1) := by decide +kernel
theorem own_d_prog_59_method_1_10 : decode prog_59_method_1_code 10 = .ok (.aload_n 2, 1) := by decide +kernel
theorem own_d_prog_59_method_1_11 : decode prog_59_method_1_code 11 = .ok (.putfield 13, 3) := by decide +kernel
theorem own_d_prog_59_method_1_14 : decode prog_59_method_1_code 14 = .ok (.aload_n 0, 1) := by decide +kernel
theorem own_d_prog_59_method_1_15 : decode prog_59_method_1_code 15 = .ok (.iload_n 3, 1) := by decide +kernel
theorem own_d_prog_59_method_1_16 : decode prog_59_method_1_code 16 = .ok (.putfield 16, 3) := by decide +kernel
theorem own_d_prog_59_method_1_19 : decode prog_59_method_1_code 19 = .ok (.return_, 1) := by decide +kernel
def Q_new (Z : State) (a : Addr) (t : Addr) (d : Addr) (r : Int32) (u1 : Value) (u2 : Value) (u3 : Value) (h0 : Heap) (n0 : Nat) (v : Option Value) (h : Heap) (L : List Loc) : Prop := v = none ∧ Fr n0 L ∧ Keep h0 h [a] ∧ (Exa Z h a "com/example/shrike/shrike/model/Judgment") ∧ (Fld Z h a "com/example/shrike/shrike/model/Judgment" "relevance" "I" (.int r))
set_option maxRecDepth 65536 in
set_option maxHeartbeats 40000000 in
theorem rm_new (l : Launch) (Z : State) (a0 : Array Value) (hw : ∀ d ∈ tables_1, d.before a0 Z = true) (ws : List Jvm.Cond) (a : Addr) (t : Addr) (d : Addr) (r : Int32) (u1 : Value) (u2 : Value) (u3 : Value) (h0 : Heap) (n0 : Nat) (Z0 : n0 ≤ h0.size) (pr0 : Exa Z h0 a "com/example/shrike/shrike/model/Judgment") (pr1 : Fld Z h0 a "com/example/shrike/shrike/model/Judgment" "topic" "Ljava/lang/String;" u1) (pr2 : Fld Z h0 a "com/example/shrike/shrike/model/Judgment" "docno" "Ljava/lang/String;" u2) (pr3 : Fld Z h0 a "com/example/shrike/shrike/model/Judgment" "relevance" "I" u3) (pr4 : n0 ≤ a) :
    MetFree l (⟨"com/example/shrike/shrike/model/Judgment", "<init>", "(Ljava/lang/String;Ljava/lang/String;I)V"⟩ : MethodName) (head1 (Jvm.Cond.code (⟨"com/example/shrike/shrike/model/Judgment", "<init>", "(Ljava/lang/String;Ljava/lang/String;I)V"⟩ : MethodName) prog_59_method_1_code 4 none :: ws) ({ frames := 2, cells := 0, slots := 0, locals := 24 } : Room)) (fun as_ U => as_ = #[(.ref a), (.ref t), (.ref d), (.int r)] ∧ Z.Warmed39 U.vm ∧ U.heap = h0) (fun _ _ _ _ _ => True) (fun _ U o U' => ∃ v L, o = .returned v ∧ Q_new Z a t d r u1 u2 u3 h0 n0 v U'.heap L ∧ FrameEnd U o U' L ({ frames := 2, cells := 0, slots := 0, locals := 24 } : Room).cells ({ frames := 2, cells := 0, slots := 0, locals := 24 } : Room).slots) := by
  refine MetFree.of_bodySF (plainFor_of_name own_pn_com_example_shrike_shrike_model_Judgment) hisR ?_
  intro p e s m args below meth c s₁ Bd hml0 hP hK
  obtain ⟨rfl, hZ, hh⟩ := hP
  have hx := Bd.exec
  have hby := Bd.bytes
  have hml : c.maxLocals = 4 := hml0
  have hown : s.vm.findClass "com/example/shrike/shrike/model/Judgment" = some m.cls := findClass_of_methodNamed Bd.named
  have hnm := (name_of_methodNamed Bd.named Bd.method).1
  have X0 : Stand p l e ({ frames := 2, cells := 0, slots := 0, locals := 24 } : Room) s m #[(.ref a), (.ref t), (.ref d), (.int r)] below meth c s₁ [] 0 0 := Stand.of_body Bd
  have e0 : s₁.heap = h0 := by rw [← hh, Bd.state]; rfl
  have N0 := Fr.nil n0
  refine own_Goes.of ?_
  refine own_Goes.nm (fun P hPP => ?_)
  refine own_Goes.st ?_ (fun _ k => castTop (own_ef_new m a t d r) k)
  have K0 : Keep h0 h0 [a] := Keep.refl _ _
  show own_Goes p.tables e below P (s₁.setTop (mkF m 0 #[.val (.ref a), .val (.ref t), .val (.ref d), .val (.int r)] []))
  refine own_Goes.st ?_ (fun _ k => XS.aloadN X0.here hx rfl (hb hby own_d_prog_59_method_1_0) rfl rfl k)
  show own_Goes p.tables e below P (s₁.setTop (mkF m 1 #[.val (.ref a), .val (.ref t), .val (.ref d), .val (.int r)] [(.ref a)]))
  obtain ⟨_, _, ⟨T1, L1, k1, n1⟩, -, X1, ⟨Lc1, hQ1, l1, y1, z1⟩, st1⟩ := X0.specialBack hx (y := (⟨"java/lang/Record", "<init>", "()V"⟩ : MethodName)) rfl hown (mvT hZ (hw _ (List.mem_of_getElem? (i := 39) rfl))) (mvT hZ (hw _ (List.mem_of_getElem? (i := 40) rfl))) (mvT hZ (hw _ (List.mem_of_getElem? (i := 43) rfl))) (by decide) (backOf (W := 0) (rm_rec l Z a0 hw [] a h0 n0 Z0) hZ (hw _ (List.mem_of_getElem? (i := 43) rfl)) (hw _ (List.mem_of_getElem? (i := 42) rfl)) (by decide) (by decide)) (g := (mkF m 1 #[.val (.ref a), .val (.ref t), .val (.ref d), .val (.int r)] [(.ref a)])) rfl (by rw [hml]; rfl) (Steps.refl _) (a := a) (argsL := []) (rest := []) (lenOf own_pd__28__29_V rfl) rfl (by show 2 * 0 + _ ≤ _; exact Nat.le_of_eq rfl) (hb hby own_d_prog_59_method_1_1) (fun _ _ => ⟨rfl, e0, (by decide : 0 + 0 ≤ _), (by decide : 0 + 0 ≤ _)⟩)
  dsimp only [Pt.U, Pt.locs, Pt.cells, Pt.slots] at X1 l1 y1 z1 st1 hQ1
  subst l1 y1 z1
  obtain ⟨rfl, Nq1, e1⟩ := hQ1
  have N1 := Fr.app N0 Nq1
  refine own_Goes.tr st1 ?_
  show own_Goes p.tables e below P (T1.setTop (mkF m 4 #[.val (.ref a), .val (.ref t), .val (.ref d), .val (.int r)] []))
  refine own_Goes.st ?_ (fun _ k => XS.aloadN X1.here hx rfl (hb hby own_d_prog_59_method_1_4) rfl rfl k)
  show own_Goes p.tables e below P (T1.setTop (mkF m 5 #[.val (.ref a), .val (.ref t), .val (.ref d), .val (.int r)] [(.ref a)]))
  refine own_Goes.st ?_ (fun _ k => XS.aloadN X1.here hx rfl (hb hby own_d_prog_59_method_1_5) rfl rfl k)
  show own_Goes p.tables e below P (T1.setTop (mkF m 6 #[.val (.ref a), .val (.ref t), .val (.ref d), .val (.int r)] [(.ref t), (.ref a)]))
  obtain ⟨T2, h2, X2, e2, W2, st2⟩ := putF X1 hx hZ hown (host := "") (Or.inl (hw _ (List.mem_of_getElem? (i := 45) rfl))) Via.refl e1 pr1 pr0 (Or.inr ⟨(hw _ (List.mem_of_getElem? (i := 46) rfl)), rfl, hnm⟩) (hw _ (List.mem_of_getElem? (i := 34) rfl)) (ty := (.object "java/lang/String")) (by decide) rfl rfl (g := (mkF m 6 #[.val (.ref a), .val (.ref t), .val (.ref d), .val (.int r)] [(.ref t), (.ref a)])) rfl rfl (hb hby own_d_prog_59_method_1_6)
  refine own_Goes.st ?_ st2
  have F3 : Fld Z h2 a "com/example/shrike/shrike/model/Judgment" "topic" "Ljava/lang/String;" (.ref t) := pr1.same W2
  have Z4 : n0 ≤ h2.size := by rw [W2.size]; exact Z0
  have K5 := K0.wr W2 (Or.inl (List.mem_of_getElem? (i := 0) rfl))
  have N6 := Fr.snoc X2 N1 pr4
  show own_Goes p.tables e below P (T2.setTop (mkF m 9 #[.val (.ref a), .val (.ref t), .val (.ref d), .val (.int r)] []))
  refine own_Goes.st ?_ (fun _ k => XS.aloadN X2.here hx rfl (hb hby own_d_prog_59_method_1_9) rfl rfl k)
  show own_Goes p.tables e below P (T2.setTop (mkF m 10 #[.val (.ref a), .val (.ref t), .val (.ref d), .val (.int r)] [(.ref a)]))
  refine own_Goes.st ?_ (fun _ k => XS.aloadN X2.here hx rfl (hb hby own_d_prog_59_method_1_10) rfl rfl k)
  show own_Goes p.tables e below P (T2.setTop (mkF m 11 #[.val (.ref a), .val (.ref t), .val (.ref d), .val (.int r)] [(.ref d), (.ref a)]))
  have F7 : Fld Z h2 a "com/example/shrike/shrike/model/Judgment" "docno" "Ljava/lang/String;" u2 := (pr2.other W2 (Or.inr (slot_ne (Or.inr (hw _ (List.mem_of_getElem? (i := 48) rfl))) (Or.inr (hw _ (List.mem_of_getElem? (i := 46) rfl))) (by decide) (t := (.object "java/lang/String")) (t' := (.object "java/lang/String")) (by decide) (by decide))))
  have F8 : Exa Z h2 a "com/example/shrike/shrike/model/Judgment" := (pr0.wr W2)
  obtain ⟨T9, h9, X9, e9, W9, st9⟩ := putF X2 hx hZ hown (host := "") (Or.inl (hw _ (List.mem_of_getElem? (i := 47) rfl))) Via.refl e2 F7 F8 (Or.inr ⟨(hw _ (List.mem_of_getElem? (i := 48) rfl)), rfl, hnm⟩) (hw _ (List.mem_of_getElem? (i := 34) rfl)) (ty := (.object "java/lang/String")) (by decide) rfl rfl (g := (mkF m 11 #[.val (.ref a), .val (.ref t), .val (.ref d), .val (.int r)] [(.ref d), (.ref a)])) rfl rfl (hb hby own_d_prog_59_method_1_11)
  refine own_Goes.st ?_ st9
  have F10 : Fld Z h9 a "com/example/shrike/shrike/model/Judgment" "docno" "Ljava/lang/String;" (.ref d) := F7.same W9
  have Z11 : n0 ≤ h9.size := by rw [W9.size]; exact Z4
  have K12 := K5.wr W9 (Or.inl (List.mem_of_getElem? (i := 0) rfl))
  have N13 := Fr.snoc X9 N6 pr4
  show own_Goes p.tables e below P (T9.setTop (mkF m 14 #[.val (.ref a), .val (.ref t), .val (.ref d), .val (.int r)] []))
  refine own_Goes.st ?_ (fun _ k => XS.aloadN X9.here hx rfl (hb hby own_d_prog_59_method_1_14) rfl rfl k)
  show own_Goes p.tables e below P (T9.setTop (mkF m 15 #[.val (.ref a), .val (.ref t), .val (.ref d), .val (.int r)] [(.ref a)]))
  refine own_Goes.st ?_ (fun _ k => XS.iloadN X9.here hx rfl (hb hby own_d_prog_59_method_1_15) rfl k)
  show own_Goes p.tables e below P (T9.setTop (mkF m 16 #[.val (.ref a), .val (.ref t), .val (.ref d), .val (.int r)] [(.int r), (.ref a)]))
  have F14 : Fld Z h9 a "com/example/shrike/shrike/model/Judgment" "relevance" "I" u3 := ((pr3.other W2 (Or.inr (slot_ne (Or.inr (hw _ (List.mem_of_getElem? (i := 50) rfl))) (Or.inr (hw _ (List.mem_of_getElem? (i := 46) rfl))) (by decide) (t := .int) (t' := (.object "java/lang/String")) (by decide) (by decide)))).other W9 (Or.inr (slot_ne (Or.inr (hw _ (List.mem_of_getElem? (i := 50) rfl))) (Or.inr (hw _ (List.mem_of_getElem? (i := 48) rfl))) (by decide) (t := .int) (t' := (.object "java/lang/String")) (by decide) (by decide))))
  have F15 : Exa Z h9 a "com/example/shrike/shrike/model/Judgment" := (F8.wr W9)
  obtain ⟨T16, h16, X16, e16, W16, st16⟩ := putF X9 hx hZ hown (host := "") (Or.inl (hw _ (List.mem_of_getElem? (i := 49) rfl))) Via.refl e9 F14 F15 (Or.inr ⟨(hw _ (List.mem_of_getElem? (i := 50) rfl)), rfl, hnm⟩) (hw _ (List.mem_of_getElem? (i := 34) rfl)) (ty := .int) (by decide) rfl rfl (g := (mkF m 16 #[.val (.ref a), .val (.ref t), .val (.ref d), .val (.int r)] [(.int r), (.ref a)])) rfl rfl (hb hby own_d_prog_59_method_1_16)
  refine own_Goes.st ?_ st16
  have F17 : Fld Z h16 a "com/example/shrike/shrike/model/Judgment" "relevance" "I" (.int r) := F14.same W16
  have Z18 : n0 ≤ h16.size := by rw [W16.size]; exact Z11
  have K19 := K12.wr W16 (Or.inl (List.mem_of_getElem? (i := 0) rfl))
  have N20 := Fr.snoc X16 N13 pr4
  show own_Goes p.tables e below P (T16.setTop (mkF m 19 #[.val (.ref a), .val (.ref t), .val (.ref d), .val (.int r)] []))
  obtain ⟨fs, hr, hrun, hended, hW, hsame⟩ := X16.leave (v := none) (fun _ => rfl)
  have F21 : Exa Z h16 a "com/example/shrike/shrike/model/Judgment" := (F15.wr W16)
  exact own_Goes.fin _ _ (X16.returnOut hx Bd.returns (hb hby own_d_prog_59_method_1_19) hr) (hPP _ _ ⟨hrun, hended, _, _, rfl, (by show Q_new Z a t d r u1 u2 u3 h0 n0 _ T16.heap _; rw [e16]; exact ⟨rfl, N20, K19, F21, F17⟩), ⟨_, rfl⟩, hW, hsame.mono (by decide) (by decide)⟩)
theorem own_ef_rel (m : MethodId) (x0 : Addr) : entryFrame m #[(.ref x0)] 1 = mkF m 0 #[.val (.ref x0)] [] := by first | (simp [entryFrame, mkF, argsToLocals, Value.category]; done) | rfl
theorem own_d_prog_59_method_2_0 : decode prog_59_method_2_code 0 = .ok (.aload_n 0, 1) := by decide +kernel
theorem own_d_prog_59_method_2_1 : decode prog_59_method_2_code 1 = .ok (.getfield 16, 3) := by decide +kernel
theorem own_d_prog_59_method_2_4 : decode prog_59_method_2_code 4 = .ok (.iconst 1, 1) := by decide +kernel
theorem own_d_prog_59_method_2_5 : decode prog_59_method_2_code 5 = .ok (.if_icmp .lt 7, 3) := by decide +kernel
theorem own_d_prog_59_method_2_12 : decode prog_59_method_2_code 12 = .ok (.iconst 0, 1) := by decide +kernel
theorem own_d_prog_59_method_2_13 : decode prog_59_method_2_code 13 = .ok (.ireturn, 1) := by decide +kernel
theorem own_d_prog_59_method_2_8 : decode prog_59_method_2_code 8 = .ok (.iconst 1, 1) := by decide +kernel
theorem own_d_prog_59_method_2_9 : decode prog_59_method_2_code 9 = .ok (.goto 4, 3) := by decide +kernel
def Q_rel (Z : State) (a : Addr) (r : Int32) (h0 : Heap) (n0 : Nat) (v : Option Value) (h : Heap) (L : List Loc) : Prop := v = some (.int (own_rel r)) ∧ Fr n0 L ∧ h = h0
set_option maxRecDepth 65536 in
set_option maxHeartbeats 40000000 in
theorem rm_rel (l : Launch) (Z : State) (a0 : Array Value) (hw : ∀ d ∈ tables_1, d.before a0 Z = true) (ws : List Jvm.Cond) (a : Addr) (r : Int32) (h0 : Heap) (n0 : Nat) (Z0 : n0 ≤ h0.size) (pr0 : Fld Z h0 a "com/example/shrike/shrike/model/Judgment" "relevance" "I" (.int r)) :
    MetFree l (⟨"com/example/shrike/shrike/model/Judgment", "isRelevant", "()Z"⟩ : MethodName) (head1 (Jvm.Cond.code (⟨"com/example/shrike/shrike/model/Judgment", "isRelevant", "()Z"⟩ : MethodName) prog_59_method_2_code 1 (some .boolean) :: ws) ({ frames := 0, cells := 0, slots := 0, locals := 0 } : Room)) (fun as_ U => as_ = #[(.ref a)] ∧ Z.Warmed39 U.vm ∧ U.heap = h0) (fun _ _ _ _ _ => True) (fun _ U o U' => ∃ v L, o = .returned v ∧ Q_rel Z a r h0 n0 v U'.heap L ∧ FrameEnd U o U' L ({ frames := 0, cells := 0, slots := 0, locals := 0 } : Room).cells ({ frames := 0, cells := 0, slots := 0, locals := 0 } : Room).slots) := by
  refine MetFree.of_bodySF (plainFor_of_name own_pn_com_example_shrike_shrike_model_Judgment) hisR ?_
  intro p e s m args below meth c s₁ Bd hml0 hP hK
  obtain ⟨rfl, hZ, hh⟩ := hP
  have hx := Bd.exec
  have hby := Bd.bytes
  have hml : c.maxLocals = 1 := hml0
  have hown : s.vm.findClass "com/example/shrike/shrike/model/Judgment" = some m.cls := findClass_of_methodNamed Bd.named
  have hnm := (name_of_methodNamed Bd.named Bd.method).1
  have X0 : Stand p l e ({ frames := 0, cells := 0, slots := 0, locals := 0 } : Room) s m #[(.ref a)] below meth c s₁ [] 0 0 := Stand.of_body Bd
  have e0 : s₁.heap = h0 := by rw [← hh, Bd.state]; rfl
  have N0 := Fr.nil n0
  refine own_Goes.of ?_
  refine own_Goes.nm (fun P hPP => ?_)
  refine own_Goes.st ?_ (fun _ k => castTop (own_ef_rel m a) k)
  show own_Goes p.tables e below P (s₁.setTop (mkF m 0 #[.val (.ref a)] []))
  refine own_Goes.st ?_ (fun _ k => XS.aloadN X0.here hx rfl (hb hby own_d_prog_59_method_2_0) rfl rfl k)
  show own_Goes p.tables e below P (s₁.setTop (mkF m 1 #[.val (.ref a)] [(.ref a)]))
  obtain ⟨T1, X1, e1, st1⟩ := getF X0 hx hZ hown (host := "") (Or.inl (hw _ (List.mem_of_getElem? (i := 49) rfl))) Via.refl e0 pr0 (g := (mkF m 1 #[.val (.ref a)] [(.ref a)])) rfl rfl (hb hby own_d_prog_59_method_2_1)
  refine own_Goes.st ?_ st1
  show own_Goes p.tables e below P (T1.setTop (mkF m 4 #[.val (.ref a)] [(.int r)]))
  refine own_Goes.st ?_ (fun _ k => XS.iconst X1.here hx rfl (hb hby own_d_prog_59_method_2_4) k)
  show own_Goes p.tables e below P (T1.setTop (mkF m 5 #[.val (.ref a)] [(.int (1 : Int32)), (.int r)]))
  by_cases h1 : r < (1 : Int32)
  · skip
    refine own_Goes.st ?_ (fun _ k => XS.icmpYes X1.here hx rfl (pc0 := 5) (pc' := 12) rfl (hb hby own_d_prog_59_method_2_5) rfl (tlt h1).1 (by decide) (by decide) k)
    show own_Goes p.tables e below P (T1.setTop (mkF m 12 #[.val (.ref a)] []))
    refine own_Goes.st ?_ (fun _ k => XS.iconst X1.here hx rfl (hb hby own_d_prog_59_method_2_12) k)
    show own_Goes p.tables e below P (T1.setTop (mkF m 13 #[.val (.ref a)] [(.int (0 : Int32))]))
    obtain ⟨fs, hr, hrun, hended, hW, hsame⟩ := X1.leave (v := some (.int (0 : Int32))) (fun h => by rw [Bd.returns] at h; cases h)
    exact own_Goes.fin _ _ (retOut X1 hx (t := .boolean) Bd.returns rfl (Or.inl ⟨rfl, Or.inr (Or.inl rfl), _, rfl⟩) (hb hby own_d_prog_59_method_2_13) hr) (hPP _ _ ⟨hrun, hended, _, _, rfl, (by show Q_rel Z a r h0 n0 _ T1.heap _; rw [e1]; exact ⟨(by rw [own_rel, if_pos h1]), N0, rfl⟩), ⟨_, rfl⟩, hW, hsame.mono (by decide) (by decide)⟩)
  · skip
    refine own_Goes.st ?_ (fun _ k => XS.icmpNo X1.here hx rfl (hb hby own_d_prog_59_method_2_5) rfl (flt h1).1 k)
    show own_Goes p.tables e below P (T1.setTop (mkF m 8 #[.val (.ref a)] []))
    refine own_Goes.st ?_ (fun _ k => XS.iconst X1.here hx rfl (hb hby own_d_prog_59_method_2_8) k)
    show own_Goes p.tables e below P (T1.setTop (mkF m 9 #[.val (.ref a)] [(.int (1 : Int32))]))
    refine own_Goes.st ?_ (fun _ k => XS.goto X1.here hx rfl (pc0 := 9) (pc' := 13) rfl (hb hby own_d_prog_59_method_2_9) (by decide) (by decide) k)
    show own_Goes p.tables e below P (T1.setTop (mkF m 13 #[.val (.ref a)] [(.int (1 : Int32))]))
    obtain ⟨fs, hr, hrun, hended, hW, hsame⟩ := X1.leave (v := some (.int (1 : Int32))) (fun h => by rw [Bd.returns] at h; cases h)
    exact own_Goes.fin _ _ (retOut X1 hx (t := .boolean) Bd.returns rfl (Or.inl ⟨rfl, Or.inr (Or.inl rfl), _, rfl⟩) (hb hby own_d_prog_59_method_2_13) hr) (hPP _ _ ⟨hrun, hended, _, _, rfl, (by show Q_rel Z a r h0 n0 _ T1.heap _; rw [e1]; exact ⟨(by rw [own_rel, if_neg h1]), N0, rfl⟩), ⟨_, rfl⟩, hW, hsame.mono (by decide) (by decide)⟩)
theorem own_ef_law (m : MethodId) (x0 : Int32) (x1 : Int32) (x2 : Int32) (x3 : Int32) : entryFrame m #[(.int x0), (.int x1), (.int x2), (.int x3)] maxLocals = mkF m 0 #[.val (.int x0), .val (.int x1), .val (.int x2), .val (.int x3), .unset, .unset, .unset, .unset, .unset, .unset, .unset, .unset, .unset, .unset, .unset] [] := by first | (simp [entryFrame, mkF, argsToLocals, Value.category, maxLocals]; done) | rfl
theorem own_pn_com_example_shrike_shrike_model_JudgmentIsRelevantPinLaw : plainName "com/example/shrike/shrike/model/JudgmentIsRelevantPinLaw" = true := by first | (simp [plainName, overriddenIn]; done) | decide +kernel
theorem own_pd__28_C_29_Ljava_2f_lang_2f_String_3b_ : parseMethodDescriptor "(C)Ljava/lang/String;" = some ⟨[.char], some (.object "java/lang/String")⟩ := by decide +kernel
theorem own_pd__28_II_29_I : parseMethodDescriptor "(II)I" = some ⟨[.int, .int], some .int⟩ := by decide +kernel
theorem own_pd__28_Ljava_2f_lang_2f_String_3b_Ljava_2f_lang_2f_String_3b_I_29_V : parseMethodDescriptor "(Ljava/lang/String;Ljava/lang/String;I)V" = some ⟨[(.object "java/lang/String"), (.object "java/lang/String"), .int], none⟩ := by decide +kernel
theorem own_pd__28__29_Z : parseMethodDescriptor "()Z" = some ⟨[], some .boolean⟩ := by decide +kernel
def Q_law (n0 : Nat) (v : Option Value) (L : List Loc) : Prop := v = some (.int 1) ∧ Fr n0 L
set_option maxRecDepth 65536 in
set_option maxHeartbeats 40000000 in
theorem rm_law (l : Launch) (Z : State) (a0 : Array Value) (hw : ∀ d ∈ tables_1, d.before a0 Z = true) (ws : List Jvm.Cond) (p0 : Int32) (p1 : Int32) (p2 : Int32) (p3 : Int32) (cs : Int32) (h0 : Heap) (n0 : Nat) (Z0 : n0 ≤ h0.size) (pr0 : Sta Z Z.heap "java/lang/String" "COMPACT_STRINGS" "Z" (.int cs)) (pr1 : Old Z n0 h0) (hcs : ¬ (cs = (0 : Int32))) :
    MetFree l x (head1 (Jvm.Cond.code x code maxLocals ret :: ws) room_1) (fun as_ U => as_ = #[(.int p0), (.int p1), (.int p2), (.int p3)] ∧ Z.Warmed39 U.vm ∧ U.heap = h0) (fun _ _ _ _ _ => True) (fun _ U o U' => ∃ v L, o = .returned v ∧ Q_law n0 v L ∧ FrameEnd U o U' L 24 128) := by
  refine MetFree.of_bodySF (plainFor_of_name own_pn_com_example_shrike_shrike_model_JudgmentIsRelevantPinLaw) hisR ?_
  intro p e s m args below meth c s₁ Bd hml0 hP hK
  obtain ⟨rfl, hZ, hh⟩ := hP
  have hx := Bd.exec
  have hby := Bd.bytes
  have hml : c.maxLocals = 15 := hml0
  have hown : s.vm.findClass "com/example/shrike/shrike/model/JudgmentIsRelevantPinLaw" = some m.cls := findClass_of_methodNamed Bd.named
  have hnm := (name_of_methodNamed Bd.named Bd.method).1
  have X0 : Stand p l e room_1 s m #[(.int p0), (.int p1), (.int p2), (.int p3)] below meth c s₁ [] 0 0 := Stand.of_body Bd
  have e0 : s₁.heap = h0 := by rw [← hh, Bd.state]; rfl
  have N0 := Fr.nil n0
  refine own_Goes.of ?_
  refine own_Goes.nm (fun P hPP => ?_)
  refine own_Goes.st ?_ (fun _ k => castTop (own_ef_law m p0 p1 p2 p3) k)
  show own_Goes p.tables e below P (s₁.setTop (mkF m 0 #[.val (.int p0), .val (.int p1), .val (.int p2), .val (.int p3), .unset, .unset, .unset, .unset, .unset, .unset, .unset, .unset, .unset, .unset, .unset] []))
  refine own_Goes.st ?_ (fun _ k => XS.iloadN X0.here hx rfl (hb hby at_0) rfl k)
  show own_Goes p.tables e below P (s₁.setTop (mkF m 1 #[.val (.int p0), .val (.int p1), .val (.int p2), .val (.int p3), .unset, .unset, .unset, .unset, .unset, .unset, .unset, .unset, .unset, .unset, .unset] [(.int p2)]))
  refine own_Goes.st ?_ (fun _ k => XS.sipush X0.here hx rfl (hb hby at_1) k)
  show own_Goes p.tables e below P (s₁.setTop (mkF m 4 #[.val (.int p0), .val (.int p1), .val (.int p2), .val (.int p3), .unset, .unset, .unset, .unset, .unset, .unset, .unset, .unset, .unset, .unset, .unset] [(.int (255 : Int32)), (.int p2)]))
  refine own_Goes.st ?_ (fun _ k => XS.iand X0.here hx rfl (hb hby at_4) rfl k)
  show own_Goes p.tables e below P (s₁.setTop (mkF m 5 #[.val (.int p0), .val (.int p1), .val (.int p2), .val (.int p3), .unset, .unset, .unset, .unset, .unset, .unset, .unset, .unset, .unset, .unset, .unset] [(.int (p2 &&& (255 : Int32)))]))
  refine own_Goes.st ?_ (fun _ k => XS.i2c X0.here hx rfl (hb hby at_5) rfl k)
  show own_Goes p.tables e below P (s₁.setTop (mkF m 6 #[.val (.int p0), .val (.int p1), .val (.int p2), .val (.int p3), .unset, .unset, .unset, .unset, .unset, .unset, .unset, .unset, .unset, .unset, .unset] [(.int (((p2 &&& (255 : Int32))).toUInt32.toUInt16.toUInt32.toInt32))]))
  obtain ⟨_, _, ⟨T1, L1, k1, n1⟩, -, X1, ⟨Lc1, hQ1, l1, y1, z1⟩, st1⟩ := Jvm.LawKit.callS X0 hx (y := (⟨"java/lang/String", "valueOf", "(C)Ljava/lang/String;"⟩ : MethodName)) hown (mvT hZ (hw _ (List.mem_of_getElem? (i := 0) rfl))) (mvT hZ (hw _ (List.mem_of_getElem? (i := 1) rfl))) (mvT hZ (hw _ (List.mem_of_getElem? (i := 2) rfl))) (mvT hZ (hw _ (List.mem_of_getElem? (i := 3) rfl))) (by decide) (backOf (W := 0) (rm_vof l Z a0 hw [] (((p2 &&& (255 : Int32))).toUInt32.toUInt16.toUInt32.toInt32) cs h0 n0 Z0 pr0 pr1 hcs (own_chr p2)) hZ (hw _ (List.mem_of_getElem? (i := 3) rfl)) (hw _ (List.mem_of_getElem? (i := 2) rfl)) (by decide) (by decide)) (g := (mkF m 6 #[.val (.int p0), .val (.int p1), .val (.int p2), .val (.int p3), .unset, .unset, .unset, .unset, .unset, .unset, .unset, .unset, .unset, .unset, .unset] [(.int (((p2 &&& (255 : Int32))).toUInt32.toUInt16.toUInt32.toInt32))])) rfl (by rw [hml]; rfl) (argsL := [(.int (((p2 &&& (255 : Int32))).toUInt32.toUInt16.toUInt32.toInt32))]) (rest := []) (lenOf own_pd__28_C_29_Ljava_2f_lang_2f_String_3b_ rfl) rfl (by show 2 * 0 + _ ≤ _; exact Nat.le_of_eq rfl) (hb hby at_6) (fun _ _ => ⟨rfl, e0, (by decide : 0 + 2 ≤ _), (by decide : 0 + 5 ≤ _)⟩)
  dsimp only [Pt.U, Pt.locs, Pt.cells, Pt.slots] at X1 l1 y1 z1 st1 hQ1
  subst l1 y1 z1
  obtain ⟨r1, rfl, Nq1, K1, f2, f3⟩ := hQ1
  have N1 := Fr.app N0 Nq1
  refine own_Goes.st ?_ st1
  have ge_r1 : n0 ≤ r1 := Nat.le_trans Z0 f2
  have Z4 : n0 ≤ T1.heap.size := Nat.le_trans Z0 K1.1
  have O5 := pr1.keep K1 all0
  show own_Goes p.tables e below P (T1.setTop (mkF m 9 #[.val (.int p0), .val (.int p1), .val (.int p2), .val (.int p3), .unset, .unset, .unset, .unset, .unset, .unset, .unset, .unset, .unset, .unset, .unset] [(.ref r1)]))
  refine own_Goes.st ?_ (fun _ k => XS.astore X1.here hx rfl (hb hby at_9) rfl rfl (l' := #[.val (.int p0), .val (.int p1), .val (.int p2), .val (.int p3), .val (.ref r1), .unset, .unset, .unset, .unset, .unset, .unset, .unset, .unset, .unset, .unset]) rfl k)
  show own_Goes p.tables e below P (T1.setTop (mkF m 11 #[.val (.int p0), .val (.int p1), .val (.int p2), .val (.int p3), .val (.ref r1), .unset, .unset, .unset, .unset, .unset, .unset, .unset, .unset, .unset, .unset] []))
  refine own_Goes.st ?_ (fun _ k => XS.iloadN X1.here hx rfl (hb hby at_11) rfl k)
  show own_Goes p.tables e below P (T1.setTop (mkF m 12 #[.val (.int p0), .val (.int p1), .val (.int p2), .val (.int p3), .val (.ref r1), .unset, .unset, .unset, .unset, .unset, .unset, .unset, .unset, .unset, .unset] [(.int p3)]))
  refine own_Goes.st ?_ (fun _ k => XS.sipush X1.here hx rfl (hb hby at_12) k)
  show own_Goes p.tables e below P (T1.setTop (mkF m 15 #[.val (.int p0), .val (.int p1), .val (.int p2), .val (.int p3), .val (.ref r1), .unset, .unset, .unset, .unset, .unset, .unset, .unset, .unset, .unset, .unset] [(.int (255 : Int32)), (.int p3)]))
  refine own_Goes.st ?_ (fun _ k => XS.iand X1.here hx rfl (hb hby at_15) rfl k)
  show own_Goes p.tables e below P (T1.setTop (mkF m 16 #[.val (.int p0), .val (.int p1), .val (.int p2), .val (.int p3), .val (.ref r1), .unset, .unset, .unset, .unset, .unset, .unset, .unset, .unset, .unset, .unset] [(.int (p3 &&& (255 : Int32)))]))
  refine own_Goes.st ?_ (fun _ k => XS.i2c X1.here hx rfl (hb hby at_16) rfl k)
  show own_Goes p.tables e below P (T1.setTop (mkF m 17 #[.val (.int p0), .val (.int p1), .val (.int p2), .val (.int p3), .val (.ref r1), .unset, .unset, .unset, .unset, .unset, .unset, .unset, .unset, .unset, .unset] [(.int (((p3 &&& (255 : Int32))).toUInt32.toUInt16.toUInt32.toInt32))]))
  obtain ⟨_, _, ⟨T6, L6, k6, n6⟩, -, X6, ⟨Lc6, hQ6, l6, y6, z6⟩, st6⟩ := Jvm.LawKit.callS X1 hx (y := (⟨"java/lang/String", "valueOf", "(C)Ljava/lang/String;"⟩ : MethodName)) hown (mvT hZ (hw _ (List.mem_of_getElem? (i := 0) rfl))) (mvT hZ (hw _ (List.mem_of_getElem? (i := 1) rfl))) (mvT hZ (hw _ (List.mem_of_getElem? (i := 2) rfl))) (mvT hZ (hw _ (List.mem_of_getElem? (i := 3) rfl))) (by decide) (backOf (W := 0) (rm_vof l Z a0 hw [] (((p3 &&& (255 : Int32))).toUInt32.toUInt16.toUInt32.toInt32) cs T1.heap n0 Z4 pr0 O5 hcs (own_chr p3)) hZ (hw _ (List.mem_of_getElem? (i := 3) rfl)) (hw _ (List.mem_of_getElem? (i := 2) rfl)) (by decide) (by decide)) (g := (mkF m 17 #[.val (.int p0), .val (.int p1), .val (.int p2), .val (.int p3), .val (.ref r1), .unset, .unset, .unset, .unset, .unset, .unset, .unset, .unset, .unset, .unset] [(.int (((p3 &&& (255 : Int32))).toUInt32.toUInt16.toUInt32.toInt32))])) rfl (by rw [hml]; rfl) (argsL := [(.int (((p3 &&& (255 : Int32))).toUInt32.toUInt16.toUInt32.toInt32))]) (rest := []) (lenOf own_pd__28_C_29_Ljava_2f_lang_2f_String_3b_ rfl) rfl (by show 2 * 0 + _ ≤ _; exact Nat.le_of_eq rfl) (hb hby at_17) (fun _ _ => ⟨rfl, rfl, (by decide : 2 + 2 ≤ _), (by decide : 5 + 5 ≤ _)⟩)
  dsimp only [Pt.U, Pt.locs, Pt.cells, Pt.slots] at X6 l6 y6 z6 st6 hQ6
  subst l6 y6 z6
  obtain ⟨r6, rfl, Nq6, K6, f7, f8⟩ := hQ6
  have N6 := Fr.app N1 Nq6
  refine own_Goes.st ?_ st6
  have ne9 : r1 ≠ r6 := Nat.ne_of_lt (Nat.lt_of_lt_of_le f3.lt f7)
  have ge_r6 : n0 ≤ r6 := Nat.le_trans Z4 f7
  have Z10 : n0 ≤ T6.heap.size := Nat.le_trans Z4 K6.1
  have O11 := O5.keep K6 all0
  show own_Goes p.tables e below P (T6.setTop (mkF m 20 #[.val (.int p0), .val (.int p1), .val (.int p2), .val (.int p3), .val (.ref r1), .unset, .unset, .unset, .unset, .unset, .unset, .unset, .unset, .unset, .unset] [(.ref r6)]))
  refine own_Goes.st ?_ (fun _ k => XS.astore X6.here hx rfl (hb hby at_20) rfl rfl (l' := #[.val (.int p0), .val (.int p1), .val (.int p2), .val (.int p3), .val (.ref r1), .val (.ref r6), .unset, .unset, .unset, .unset, .unset, .unset, .unset, .unset, .unset]) rfl k)
  show own_Goes p.tables e below P (T6.setTop (mkF m 22 #[.val (.int p0), .val (.int p1), .val (.int p2), .val (.int p3), .val (.ref r1), .val (.ref r6), .unset, .unset, .unset, .unset, .unset, .unset, .unset, .unset, .unset] []))
  refine own_Goes.st ?_ (fun _ k => XS.iloadN X6.here hx rfl (hb hby at_22) rfl k)
  show own_Goes p.tables e below P (T6.setTop (mkF m 23 #[.val (.int p0), .val (.int p1), .val (.int p2), .val (.int p3), .val (.ref r1), .val (.ref r6), .unset, .unset, .unset, .unset, .unset, .unset, .unset, .unset, .unset] [(.int p0)]))
  refine own_Goes.st ?_ (fun _ k => XS.iloadN X6.here hx rfl (hb hby at_23) rfl k)
  show own_Goes p.tables e below P (T6.setTop (mkF m 24 #[.val (.int p0), .val (.int p1), .val (.int p2), .val (.int p3), .val (.ref r1), .val (.ref r6), .unset, .unset, .unset, .unset, .unset, .unset, .unset, .unset, .unset] [(.int p1), (.int p0)]))
  obtain ⟨_, _, ⟨T12, L12, k12, n12⟩, -, X12, ⟨Lc12, hQ12, l12, y12, z12⟩, st12⟩ := Jvm.LawKit.callS X6 hx (y := (⟨"java/lang/Math", "min", "(II)I"⟩ : MethodName)) hown (mvT hZ (hw _ (List.mem_of_getElem? (i := 26) rfl))) (mvT hZ (hw _ (List.mem_of_getElem? (i := 27) rfl))) (mvT hZ (hw _ (List.mem_of_getElem? (i := 28) rfl))) (mvT hZ (hw _ (List.mem_of_getElem? (i := 29) rfl))) (by decide) (backOf (W := 0) (rm_imin l Z a0 hw [] p0 p1 T6.heap n0 Z10) hZ (hw _ (List.mem_of_getElem? (i := 29) rfl)) (hw _ (List.mem_of_getElem? (i := 28) rfl)) (by decide) (by decide)) (g := (mkF m 24 #[.val (.int p0), .val (.int p1), .val (.int p2), .val (.int p3), .val (.ref r1), .val (.ref r6), .unset, .unset, .unset, .unset, .unset, .unset, .unset, .unset, .unset] [(.int p1), (.int p0)])) rfl (by rw [hml]; rfl) (argsL := [(.int p0), (.int p1)]) (rest := []) (lenOf own_pd__28_II_29_I rfl) rfl (by show 2 * 0 + _ ≤ _; exact Nat.le_of_eq rfl) (hb hby at_24) (fun _ _ => ⟨rfl, rfl, (by decide : 4 + 0 ≤ _), (by decide : 10 + 0 ≤ _)⟩)
  dsimp only [Pt.U, Pt.locs, Pt.cells, Pt.slots] at X12 l12 y12 z12 st12 hQ12
  subst l12 y12 z12
  obtain ⟨rfl, Nq12, e12⟩ := hQ12
  have N12 := Fr.app N6 Nq12
  refine own_Goes.st ?_ st12
  show own_Goes p.tables e below P (T12.setTop (mkF m 27 #[.val (.int p0), .val (.int p1), .val (.int p2), .val (.int p3), .val (.ref r1), .val (.ref r6), .unset, .unset, .unset, .unset, .unset, .unset, .unset, .unset, .unset] [(.int (own_imin p0 p1))]))
  refine own_Goes.st ?_ (fun _ k => XS.istore X12.here hx rfl (hb hby at_27) rfl (l' := #[.val (.int p0), .val (.int p1), .val (.int p2), .val (.int p3), .val (.ref r1), .val (.ref r6), .val (.int (own_imin p0 p1)), .unset, .unset, .unset, .unset, .unset, .unset, .unset, .unset]) rfl k)
  show own_Goes p.tables e below P (T12.setTop (mkF m 29 #[.val (.int p0), .val (.int p1), .val (.int p2), .val (.int p3), .val (.ref r1), .val (.ref r6), .val (.int (own_imin p0 p1)), .unset, .unset, .unset, .unset, .unset, .unset, .unset, .unset] []))
  refine own_Goes.st ?_ (fun _ k => XS.iloadN X12.here hx rfl (hb hby at_29) rfl k)
  show own_Goes p.tables e below P (T12.setTop (mkF m 30 #[.val (.int p0), .val (.int p1), .val (.int p2), .val (.int p3), .val (.ref r1), .val (.ref r6), .val (.int (own_imin p0 p1)), .unset, .unset, .unset, .unset, .unset, .unset, .unset, .unset] [(.int p0)]))
  refine own_Goes.st ?_ (fun _ k => XS.iloadN X12.here hx rfl (hb hby at_30) rfl k)
  show own_Goes p.tables e below P (T12.setTop (mkF m 31 #[.val (.int p0), .val (.int p1), .val (.int p2), .val (.int p3), .val (.ref r1), .val (.ref r6), .val (.int (own_imin p0 p1)), .unset, .unset, .unset, .unset, .unset, .unset, .unset, .unset] [(.int p1), (.int p0)]))
  obtain ⟨_, _, ⟨T13, L13, k13, n13⟩, -, X13, ⟨Lc13, hQ13, l13, y13, z13⟩, st13⟩ := Jvm.LawKit.callS X12 hx (y := (⟨"java/lang/Math", "max", "(II)I"⟩ : MethodName)) hown (mvT hZ (hw _ (List.mem_of_getElem? (i := 30) rfl))) (mvT hZ (hw _ (List.mem_of_getElem? (i := 31) rfl))) (mvT hZ (hw _ (List.mem_of_getElem? (i := 28) rfl))) (mvT hZ (hw _ (List.mem_of_getElem? (i := 32) rfl))) (by decide) (backOf (W := 0) (rm_imax l Z a0 hw [] p0 p1 T6.heap n0 Z10) hZ (hw _ (List.mem_of_getElem? (i := 32) rfl)) (hw _ (List.mem_of_getElem? (i := 28) rfl)) (by decide) (by decide)) (g := (mkF m 31 #[.val (.int p0), .val (.int p1), .val (.int p2), .val (.int p3), .val (.ref r1), .val (.ref r6), .val (.int (own_imin p0 p1)), .unset, .unset, .unset, .unset, .unset, .unset, .unset, .unset] [(.int p1), (.int p0)])) rfl (by rw [hml]; rfl) (argsL := [(.int p0), (.int p1)]) (rest := []) (lenOf own_pd__28_II_29_I rfl) rfl (by show 2 * 0 + _ ≤ _; exact Nat.le_of_eq rfl) (hb hby at_31) (fun _ _ => ⟨rfl, e12, (by decide : 4 + 0 ≤ _), (by decide : 10 + 0 ≤ _)⟩)
  dsimp only [Pt.U, Pt.locs, Pt.cells, Pt.slots] at X13 l13 y13 z13 st13 hQ13
  subst l13 y13 z13
  obtain ⟨rfl, Nq13, e13⟩ := hQ13
  have N13 := Fr.app N12 Nq13
  refine own_Goes.st ?_ st13
  show own_Goes p.tables e below P (T13.setTop (mkF m 34 #[.val (.int p0), .val (.int p1), .val (.int p2), .val (.int p3), .val (.ref r1), .val (.ref r6), .val (.int (own_imin p0 p1)), .unset, .unset, .unset, .unset, .unset, .unset, .unset, .unset] [(.int (own_imax p0 p1))]))
  refine own_Goes.st ?_ (fun _ k => XS.istore X13.here hx rfl (hb hby at_34) rfl (l' := #[.val (.int p0), .val (.int p1), .val (.int p2), .val (.int p3), .val (.ref r1), .val (.ref r6), .val (.int (own_imin p0 p1)), .val (.int (own_imax p0 p1)), .unset, .unset, .unset, .unset, .unset, .unset, .unset]) rfl k)
  show own_Goes p.tables e below P (T13.setTop (mkF m 36 #[.val (.int p0), .val (.int p1), .val (.int p2), .val (.int p3), .val (.ref r1), .val (.ref r6), .val (.int (own_imin p0 p1)), .val (.int (own_imax p0 p1)), .unset, .unset, .unset, .unset, .unset, .unset, .unset] []))
  obtain ⟨T14, h14, X14, e14, E14, A14, D14, -, st14⟩ := newO X13 hx hZ hown (hw _ (List.mem_of_getElem? (i := 33) rfl)) (hw _ (List.mem_of_getElem? (i := 34) rfl)) (hw _ (List.mem_of_getElem? (i := 35) rfl)) e13 (g := (mkF m 36 #[.val (.int p0), .val (.int p1), .val (.int p2), .val (.int p3), .val (.ref r1), .val (.ref r6), .val (.int (own_imin p0 p1)), .val (.int (own_imax p0 p1)), .unset, .unset, .unset, .unset, .unset, .unset, .unset] [])) rfl (hb hby at_36) (by decide) (by decide)
  obtain ⟨a14, g14⟩ : ∃ z, z = T6.heap.size := ⟨_, rfl⟩
  rw [← g14] at A14 D14 st14
  have F15 : Exa Z T6.heap r1 "java/lang/String" := (f3.keep K6)
  have ne16 : r1 ≠ a14 := Nat.ne_of_lt (Nat.lt_of_lt_of_eq F15.lt g14.symm)
  have ne17 : r6 ≠ a14 := Nat.ne_of_lt (Nat.lt_of_lt_of_eq f8.lt g14.symm)
  have ge_a14 : n0 ≤ a14 := Nat.le_trans Z10 (Nat.le_of_eq g14.symm)
  refine own_Goes.st ?_ st14
  have Z18 : n0 ≤ h14.size := Nat.le_trans Z10 E14.1
  have O19 := O11.ext E14
  have F20 : Fld Z h14 a14 "com/example/shrike/shrike/model/Judgment" "topic" "Ljava/lang/String;" .null := D14 (Or.inr (hw _ (List.mem_of_getElem? (i := 46) rfl))) (ty := (.object "java/lang/String")) (by decide)
  have F21 : Fld Z h14 a14 "com/example/shrike/shrike/model/Judgment" "docno" "Ljava/lang/String;" .null := D14 (Or.inr (hw _ (List.mem_of_getElem? (i := 48) rfl))) (ty := (.object "java/lang/String")) (by decide)
  have F22 : Fld Z h14 a14 "com/example/shrike/shrike/model/Judgment" "relevance" "I" (.int (0 : Int32)) := D14 (Or.inr (hw _ (List.mem_of_getElem? (i := 50) rfl))) (ty := .int) (by decide)
  show own_Goes p.tables e below P (T14.setTop (mkF m 39 #[.val (.int p0), .val (.int p1), .val (.int p2), .val (.int p3), .val (.ref r1), .val (.ref r6), .val (.int (own_imin p0 p1)), .val (.int (own_imax p0 p1)), .unset, .unset, .unset, .unset, .unset, .unset, .unset] [(.ref a14)]))
  refine own_Goes.st ?_ (fun _ k => XS.dup X14.here hx rfl (hb hby at_39) rfl rfl k)
  show own_Goes p.tables e below P (T14.setTop (mkF m 40 #[.val (.int p0), .val (.int p1), .val (.int p2), .val (.int p3), .val (.ref r1), .val (.ref r6), .val (.int (own_imin p0 p1)), .val (.int (own_imax p0 p1)), .unset, .unset, .unset, .unset, .unset, .unset, .unset] [(.ref a14), (.ref a14)]))
  refine own_Goes.st ?_ (fun _ k => XS.aload X14.here hx rfl (hb hby at_40) rfl rfl k)
  show own_Goes p.tables e below P (T14.setTop (mkF m 42 #[.val (.int p0), .val (.int p1), .val (.int p2), .val (.int p3), .val (.ref r1), .val (.ref r6), .val (.int (own_imin p0 p1)), .val (.int (own_imax p0 p1)), .unset, .unset, .unset, .unset, .unset, .unset, .unset] [(.ref r1), (.ref a14), (.ref a14)]))
  refine own_Goes.st ?_ (fun _ k => XS.aload X14.here hx rfl (hb hby at_42) rfl rfl k)
  show own_Goes p.tables e below P (T14.setTop (mkF m 44 #[.val (.int p0), .val (.int p1), .val (.int p2), .val (.int p3), .val (.ref r1), .val (.ref r6), .val (.int (own_imin p0 p1)), .val (.int (own_imax p0 p1)), .unset, .unset, .unset, .unset, .unset, .unset, .unset] [(.ref r6), (.ref r1), (.ref a14), (.ref a14)]))
  refine own_Goes.st ?_ (fun _ k => XS.iload X14.here hx rfl (hb hby at_44) rfl k)
  show own_Goes p.tables e below P (T14.setTop (mkF m 46 #[.val (.int p0), .val (.int p1), .val (.int p2), .val (.int p3), .val (.ref r1), .val (.ref r6), .val (.int (own_imin p0 p1)), .val (.int (own_imax p0 p1)), .unset, .unset, .unset, .unset, .unset, .unset, .unset] [(.int (own_imin p0 p1)), (.ref r6), (.ref r1), (.ref a14), (.ref a14)]))
  obtain ⟨_, _, ⟨T23, L23, k23, n23⟩, -, X23, ⟨Lc23, hQ23, l23, y23, z23⟩, st23⟩ := X14.specialBack hx (y := (⟨"com/example/shrike/shrike/model/Judgment", "<init>", "(Ljava/lang/String;Ljava/lang/String;I)V"⟩ : MethodName)) rfl hown (mvT hZ (hw _ (List.mem_of_getElem? (i := 36) rfl))) (mvT hZ (hw _ (List.mem_of_getElem? (i := 37) rfl))) (mvT hZ (hw _ (List.mem_of_getElem? (i := 38) rfl))) (by decide) (backOf (W := 1) (rm_new l Z a0 hw [] a14 r1 r6 (own_imin p0 p1) .null .null (.int (0 : Int32)) h14 n0 Z18 A14 F20 F21 F22 ge_a14) hZ (hw _ (List.mem_of_getElem? (i := 38) rfl)) (hw _ (List.mem_of_getElem? (i := 35) rfl)) (by decide) (by decide)) (g := (mkF m 46 #[.val (.int p0), .val (.int p1), .val (.int p2), .val (.int p3), .val (.ref r1), .val (.ref r6), .val (.int (own_imin p0 p1)), .val (.int (own_imax p0 p1)), .unset, .unset, .unset, .unset, .unset, .unset, .unset] [(.int (own_imin p0 p1)), (.ref r6), (.ref r1), (.ref a14), (.ref a14)])) rfl (by rw [hml]; rfl) (Steps.refl _) (a := a14) (argsL := [(.ref r1), (.ref r6), (.int (own_imin p0 p1))]) (rest := [(.ref a14)]) (lenOf own_pd__28_Ljava_2f_lang_2f_String_3b_Ljava_2f_lang_2f_String_3b_I_29_V rfl) rfl (by show 2 * 0 + _ ≤ _; exact Nat.le_of_eq rfl) (hb hby at_46) (fun _ _ => ⟨rfl, e14, (by decide : 5 + 0 ≤ _), (by decide : 13 + 0 ≤ _)⟩)
  dsimp only [Pt.U, Pt.locs, Pt.cells, Pt.slots] at X23 l23 y23 z23 st23 hQ23
  subst l23 y23 z23
  obtain ⟨rfl, Nq23, K23, f24, f25⟩ := hQ23
  have N23 := Fr.app N13 Nq23
  refine own_Goes.tr st23 ?_
  have Z26 : n0 ≤ T23.heap.size := Nat.le_trans Z18 K23.1
  have O27 := O19.keep K23 (allS ge_a14 all0)
  show own_Goes p.tables e below P (T23.setTop (mkF m 49 #[.val (.int p0), .val (.int p1), .val (.int p2), .val (.int p3), .val (.ref r1), .val (.ref r6), .val (.int (own_imin p0 p1)), .val (.int (own_imax p0 p1)), .unset, .unset, .unset, .unset, .unset, .unset, .unset] [(.ref a14)]))
  refine own_Goes.st ?_ (fun _ k => XS.astore X23.here hx rfl (hb hby at_49) rfl rfl (l' := #[.val (.int p0), .val (.int p1), .val (.int p2), .val (.int p3), .val (.ref r1), .val (.ref r6), .val (.int (own_imin p0 p1)), .val (.int (own_imax p0 p1)), .val (.ref a14), .unset, .unset, .unset, .unset, .unset, .unset]) rfl k)
  show own_Goes p.tables e below P (T23.setTop (mkF m 51 #[.val (.int p0), .val (.int p1), .val (.int p2), .val (.int p3), .val (.ref r1), .val (.ref r6), .val (.int (own_imin p0 p1)), .val (.int (own_imax p0 p1)), .val (.ref a14), .unset, .unset, .unset, .unset, .unset, .unset] []))
  obtain ⟨T28, h28, X28, e28, E28, A28, D28, -, st28⟩ := newO X23 hx hZ hown (hw _ (List.mem_of_getElem? (i := 33) rfl)) (hw _ (List.mem_of_getElem? (i := 34) rfl)) (hw _ (List.mem_of_getElem? (i := 35) rfl)) rfl (g := (mkF m 51 #[.val (.int p0), .val (.int p1), .val (.int p2), .val (.int p3), .val (.ref r1), .val (.ref r6), .val (.int (own_imin p0 p1)), .val (.int (own_imax p0 p1)), .val (.ref a14), .unset, .unset, .unset, .unset, .unset, .unset] [])) rfl (hb hby at_51) (by decide) (by decide)
  obtain ⟨a28, g28⟩ : ∃ z, z = T23.heap.size := ⟨_, rfl⟩
  rw [← g28] at A28 D28 st28
  have F29 : Exa Z T23.heap r1 "java/lang/String" := ((F15.ext E14).keep K23)
  have ne30 : r1 ≠ a28 := Nat.ne_of_lt (Nat.lt_of_lt_of_eq F29.lt g28.symm)
  have F31 : Exa Z T23.heap r6 "java/lang/String" := ((f8.ext E14).keep K23)
  have ne32 : r6 ≠ a28 := Nat.ne_of_lt (Nat.lt_of_lt_of_eq F31.lt g28.symm)
  have ne33 : a14 ≠ a28 := Nat.ne_of_lt (Nat.lt_of_lt_of_eq f24.lt g28.symm)
  have ge_a28 : n0 ≤ a28 := Nat.le_trans Z26 (Nat.le_of_eq g28.symm)
  refine own_Goes.st ?_ st28
  have Z34 : n0 ≤ h28.size := Nat.le_trans Z26 E28.1
  have O35 := O27.ext E28
  have F36 : Fld Z h28 a28 "com/example/shrike/shrike/model/Judgment" "topic" "Ljava/lang/String;" .null := D28 (Or.inr (hw _ (List.mem_of_getElem? (i := 46) rfl))) (ty := (.object "java/lang/String")) (by decide)
  have F37 : Fld Z h28 a28 "com/example/shrike/shrike/model/Judgment" "docno" "Ljava/lang/String;" .null := D28 (Or.inr (hw _ (List.mem_of_getElem? (i := 48) rfl))) (ty := (.object "java/lang/String")) (by decide)
  have F38 : Fld Z h28 a28 "com/example/shrike/shrike/model/Judgment" "relevance" "I" (.int (0 : Int32)) := D28 (Or.inr (hw _ (List.mem_of_getElem? (i := 50) rfl))) (ty := .int) (by decide)
  show own_Goes p.tables e below P (T28.setTop (mkF m 54 #[.val (.int p0), .val (.int p1), .val (.int p2), .val (.int p3), .val (.ref r1), .val (.ref r6), .val (.int (own_imin p0 p1)), .val (.int (own_imax p0 p1)), .val (.ref a14), .unset, .unset, .unset, .unset, .unset, .unset] [(.ref a28)]))
  refine own_Goes.st ?_ (fun _ k => XS.dup X28.here hx rfl (hb hby at_54) rfl rfl k)
  show own_Goes p.tables e below P (T28.setTop (mkF m 55 #[.val (.int p0), .val (.int p1), .val (.int p2), .val (.int p3), .val (.ref r1), .val (.ref r6), .val (.int (own_imin p0 p1)), .val (.int (own_imax p0 p1)), .val (.ref a14), .unset, .unset, .unset, .unset, .unset, .unset] [(.ref a28), (.ref a28)]))
  refine own_Goes.st ?_ (fun _ k => XS.aload X28.here hx rfl (hb hby at_55) rfl rfl k)
  show own_Goes p.tables e below P (T28.setTop (mkF m 57 #[.val (.int p0), .val (.int p1), .val (.int p2), .val (.int p3), .val (.ref r1), .val (.ref r6), .val (.int (own_imin p0 p1)), .val (.int (own_imax p0 p1)), .val (.ref a14), .unset, .unset, .unset, .unset, .unset, .unset] [(.ref r1), (.ref a28), (.ref a28)]))
  refine own_Goes.st ?_ (fun _ k => XS.aload X28.here hx rfl (hb hby at_57) rfl rfl k)
  show own_Goes p.tables e below P (T28.setTop (mkF m 59 #[.val (.int p0), .val (.int p1), .val (.int p2), .val (.int p3), .val (.ref r1), .val (.ref r6), .val (.int (own_imin p0 p1)), .val (.int (own_imax p0 p1)), .val (.ref a14), .unset, .unset, .unset, .unset, .unset, .unset] [(.ref r6), (.ref r1), (.ref a28), (.ref a28)]))
  refine own_Goes.st ?_ (fun _ k => XS.iload X28.here hx rfl (hb hby at_59) rfl k)
  show own_Goes p.tables e below P (T28.setTop (mkF m 61 #[.val (.int p0), .val (.int p1), .val (.int p2), .val (.int p3), .val (.ref r1), .val (.ref r6), .val (.int (own_imin p0 p1)), .val (.int (own_imax p0 p1)), .val (.ref a14), .unset, .unset, .unset, .unset, .unset, .unset] [(.int (own_imax p0 p1)), (.ref r6), (.ref r1), (.ref a28), (.ref a28)]))
  obtain ⟨_, _, ⟨T39, L39, k39, n39⟩, -, X39, ⟨Lc39, hQ39, l39, y39, z39⟩, st39⟩ := X28.specialBack hx (y := (⟨"com/example/shrike/shrike/model/Judgment", "<init>", "(Ljava/lang/String;Ljava/lang/String;I)V"⟩ : MethodName)) rfl hown (mvT hZ (hw _ (List.mem_of_getElem? (i := 36) rfl))) (mvT hZ (hw _ (List.mem_of_getElem? (i := 37) rfl))) (mvT hZ (hw _ (List.mem_of_getElem? (i := 38) rfl))) (by decide) (backOf (W := 1) (rm_new l Z a0 hw [] a28 r1 r6 (own_imax p0 p1) .null .null (.int (0 : Int32)) h28 n0 Z34 A28 F36 F37 F38 ge_a28) hZ (hw _ (List.mem_of_getElem? (i := 38) rfl)) (hw _ (List.mem_of_getElem? (i := 35) rfl)) (by decide) (by decide)) (g := (mkF m 61 #[.val (.int p0), .val (.int p1), .val (.int p2), .val (.int p3), .val (.ref r1), .val (.ref r6), .val (.int (own_imin p0 p1)), .val (.int (own_imax p0 p1)), .val (.ref a14), .unset, .unset, .unset, .unset, .unset, .unset] [(.int (own_imax p0 p1)), (.ref r6), (.ref r1), (.ref a28), (.ref a28)])) rfl (by rw [hml]; rfl) (Steps.refl _) (a := a28) (argsL := [(.ref r1), (.ref r6), (.int (own_imax p0 p1))]) (rest := [(.ref a28)]) (lenOf own_pd__28_Ljava_2f_lang_2f_String_3b_Ljava_2f_lang_2f_String_3b_I_29_V rfl) rfl (by show 2 * 0 + _ ≤ _; exact Nat.le_of_eq rfl) (hb hby at_61) (fun _ _ => ⟨rfl, e28, (by decide : 6 + 0 ≤ _), (by decide : 16 + 0 ≤ _)⟩)
  dsimp only [Pt.U, Pt.locs, Pt.cells, Pt.slots] at X39 l39 y39 z39 st39 hQ39
  subst l39 y39 z39
  obtain ⟨rfl, Nq39, K39, f40, f41⟩ := hQ39
  have N39 := Fr.app N23 Nq39
  refine own_Goes.tr st39 ?_
  have Z42 : n0 ≤ T39.heap.size := Nat.le_trans Z34 K39.1
  have O43 := O35.keep K39 (allS ge_a28 all0)
  show own_Goes p.tables e below P (T39.setTop (mkF m 64 #[.val (.int p0), .val (.int p1), .val (.int p2), .val (.int p3), .val (.ref r1), .val (.ref r6), .val (.int (own_imin p0 p1)), .val (.int (own_imax p0 p1)), .val (.ref a14), .unset, .unset, .unset, .unset, .unset, .unset] [(.ref a28)]))
  refine own_Goes.st ?_ (fun _ k => XS.astore X39.here hx rfl (hb hby at_64) rfl rfl (l' := #[.val (.int p0), .val (.int p1), .val (.int p2), .val (.int p3), .val (.ref r1), .val (.ref r6), .val (.int (own_imin p0 p1)), .val (.int (own_imax p0 p1)), .val (.ref a14), .val (.ref a28), .unset, .unset, .unset, .unset, .unset]) rfl k)
  show own_Goes p.tables e below P (T39.setTop (mkF m 66 #[.val (.int p0), .val (.int p1), .val (.int p2), .val (.int p3), .val (.ref r1), .val (.ref r6), .val (.int (own_imin p0 p1)), .val (.int (own_imax p0 p1)), .val (.ref a14), .val (.ref a28), .unset, .unset, .unset, .unset, .unset] []))
  obtain ⟨T44, h44, X44, e44, E44, A44, D44, -, st44⟩ := newO X39 hx hZ hown (hw _ (List.mem_of_getElem? (i := 33) rfl)) (hw _ (List.mem_of_getElem? (i := 34) rfl)) (hw _ (List.mem_of_getElem? (i := 35) rfl)) rfl (g := (mkF m 66 #[.val (.int p0), .val (.int p1), .val (.int p2), .val (.int p3), .val (.ref r1), .val (.ref r6), .val (.int (own_imin p0 p1)), .val (.int (own_imax p0 p1)), .val (.ref a14), .val (.ref a28), .unset, .unset, .unset, .unset, .unset] [])) rfl (hb hby at_66) (by decide) (by decide)
  obtain ⟨a44, g44⟩ : ∃ z, z = T39.heap.size := ⟨_, rfl⟩
  rw [← g44] at A44 D44 st44
  have F45 : Exa Z T39.heap r1 "java/lang/String" := ((F29.ext E28).keep K39)
  have ne46 : r1 ≠ a44 := Nat.ne_of_lt (Nat.lt_of_lt_of_eq F45.lt g44.symm)
  have F47 : Exa Z T39.heap r6 "java/lang/String" := ((F31.ext E28).keep K39)
  have ne48 : r6 ≠ a44 := Nat.ne_of_lt (Nat.lt_of_lt_of_eq F47.lt g44.symm)
  have F49 : Exa Z T39.heap a14 "com/example/shrike/shrike/model/Judgment" := ((f24.ext E28).keep K39)
  have ne50 : a14 ≠ a44 := Nat.ne_of_lt (Nat.lt_of_lt_of_eq F49.lt g44.symm)
  have ne51 : a28 ≠ a44 := Nat.ne_of_lt (Nat.lt_of_lt_of_eq f40.lt g44.symm)
  have ge_a44 : n0 ≤ a44 := Nat.le_trans Z42 (Nat.le_of_eq g44.symm)
  refine own_Goes.st ?_ st44
  have Z52 : n0 ≤ h44.size := Nat.le_trans Z42 E44.1
  have O53 := O43.ext E44
  have F54 : Fld Z h44 a44 "com/example/shrike/shrike/model/Judgment" "topic" "Ljava/lang/String;" .null := D44 (Or.inr (hw _ (List.mem_of_getElem? (i := 46) rfl))) (ty := (.object "java/lang/String")) (by decide)
  have F55 : Fld Z h44 a44 "com/example/shrike/shrike/model/Judgment" "docno" "Ljava/lang/String;" .null := D44 (Or.inr (hw _ (List.mem_of_getElem? (i := 48) rfl))) (ty := (.object "java/lang/String")) (by decide)
  have F56 : Fld Z h44 a44 "com/example/shrike/shrike/model/Judgment" "relevance" "I" (.int (0 : Int32)) := D44 (Or.inr (hw _ (List.mem_of_getElem? (i := 50) rfl))) (ty := .int) (by decide)
  show own_Goes p.tables e below P (T44.setTop (mkF m 69 #[.val (.int p0), .val (.int p1), .val (.int p2), .val (.int p3), .val (.ref r1), .val (.ref r6), .val (.int (own_imin p0 p1)), .val (.int (own_imax p0 p1)), .val (.ref a14), .val (.ref a28), .unset, .unset, .unset, .unset, .unset] [(.ref a44)]))
  refine own_Goes.st ?_ (fun _ k => XS.dup X44.here hx rfl (hb hby at_69) rfl rfl k)
  show own_Goes p.tables e below P (T44.setTop (mkF m 70 #[.val (.int p0), .val (.int p1), .val (.int p2), .val (.int p3), .val (.ref r1), .val (.ref r6), .val (.int (own_imin p0 p1)), .val (.int (own_imax p0 p1)), .val (.ref a14), .val (.ref a28), .unset, .unset, .unset, .unset, .unset] [(.ref a44), (.ref a44)]))
  refine own_Goes.st ?_ (fun _ k => XS.aload X44.here hx rfl (hb hby at_70) rfl rfl k)
  show own_Goes p.tables e below P (T44.setTop (mkF m 72 #[.val (.int p0), .val (.int p1), .val (.int p2), .val (.int p3), .val (.ref r1), .val (.ref r6), .val (.int (own_imin p0 p1)), .val (.int (own_imax p0 p1)), .val (.ref a14), .val (.ref a28), .unset, .unset, .unset, .unset, .unset] [(.ref r1), (.ref a44), (.ref a44)]))
  refine own_Goes.st ?_ (fun _ k => XS.aload X44.here hx rfl (hb hby at_72) rfl rfl k)
  show own_Goes p.tables e below P (T44.setTop (mkF m 74 #[.val (.int p0), .val (.int p1), .val (.int p2), .val (.int p3), .val (.ref r1), .val (.ref r6), .val (.int (own_imin p0 p1)), .val (.int (own_imax p0 p1)), .val (.ref a14), .val (.ref a28), .unset, .unset, .unset, .unset, .unset] [(.ref r6), (.ref r1), (.ref a44), (.ref a44)]))
  refine own_Goes.st ?_ (fun _ k => XS.iconst X44.here hx rfl (hb hby at_74) k)
  show own_Goes p.tables e below P (T44.setTop (mkF m 75 #[.val (.int p0), .val (.int p1), .val (.int p2), .val (.int p3), .val (.ref r1), .val (.ref r6), .val (.int (own_imin p0 p1)), .val (.int (own_imax p0 p1)), .val (.ref a14), .val (.ref a28), .unset, .unset, .unset, .unset, .unset] [(.int (0 : Int32)), (.ref r6), (.ref r1), (.ref a44), (.ref a44)]))
  obtain ⟨_, _, ⟨T57, L57, k57, n57⟩, -, X57, ⟨Lc57, hQ57, l57, y57, z57⟩, st57⟩ := X44.specialBack hx (y := (⟨"com/example/shrike/shrike/model/Judgment", "<init>", "(Ljava/lang/String;Ljava/lang/String;I)V"⟩ : MethodName)) rfl hown (mvT hZ (hw _ (List.mem_of_getElem? (i := 36) rfl))) (mvT hZ (hw _ (List.mem_of_getElem? (i := 37) rfl))) (mvT hZ (hw _ (List.mem_of_getElem? (i := 38) rfl))) (by decide) (backOf (W := 1) (rm_new l Z a0 hw [] a44 r1 r6 (0 : Int32) .null .null (.int (0 : Int32)) h44 n0 Z52 A44 F54 F55 F56 ge_a44) hZ (hw _ (List.mem_of_getElem? (i := 38) rfl)) (hw _ (List.mem_of_getElem? (i := 35) rfl)) (by decide) (by decide)) (g := (mkF m 75 #[.val (.int p0), .val (.int p1), .val (.int p2), .val (.int p3), .val (.ref r1), .val (.ref r6), .val (.int (own_imin p0 p1)), .val (.int (own_imax p0 p1)), .val (.ref a14), .val (.ref a28), .unset, .unset, .unset, .unset, .unset] [(.int (0 : Int32)), (.ref r6), (.ref r1), (.ref a44), (.ref a44)])) rfl (by rw [hml]; rfl) (Steps.refl _) (a := a44) (argsL := [(.ref r1), (.ref r6), (.int (0 : Int32))]) (rest := [(.ref a44)]) (lenOf own_pd__28_Ljava_2f_lang_2f_String_3b_Ljava_2f_lang_2f_String_3b_I_29_V rfl) rfl (by show 2 * 0 + _ ≤ _; exact Nat.le_of_eq rfl) (hb hby at_75) (fun _ _ => ⟨rfl, e44, (by decide : 7 + 0 ≤ _), (by decide : 19 + 0 ≤ _)⟩)
  dsimp only [Pt.U, Pt.locs, Pt.cells, Pt.slots] at X57 l57 y57 z57 st57 hQ57
  subst l57 y57 z57
  obtain ⟨rfl, Nq57, K57, f58, f59⟩ := hQ57
  have N57 := Fr.app N39 Nq57
  refine own_Goes.tr st57 ?_
  have Z60 : n0 ≤ T57.heap.size := Nat.le_trans Z52 K57.1
  have O61 := O53.keep K57 (allS ge_a44 all0)
  show own_Goes p.tables e below P (T57.setTop (mkF m 78 #[.val (.int p0), .val (.int p1), .val (.int p2), .val (.int p3), .val (.ref r1), .val (.ref r6), .val (.int (own_imin p0 p1)), .val (.int (own_imax p0 p1)), .val (.ref a14), .val (.ref a28), .unset, .unset, .unset, .unset, .unset] [(.ref a44)]))
  refine own_Goes.st ?_ (fun _ k => XS.astore X57.here hx rfl (hb hby at_78) rfl rfl (l' := #[.val (.int p0), .val (.int p1), .val (.int p2), .val (.int p3), .val (.ref r1), .val (.ref r6), .val (.int (own_imin p0 p1)), .val (.int (own_imax p0 p1)), .val (.ref a14), .val (.ref a28), .val (.ref a44), .unset, .unset, .unset, .unset]) rfl k)
  show own_Goes p.tables e below P (T57.setTop (mkF m 80 #[.val (.int p0), .val (.int p1), .val (.int p2), .val (.int p3), .val (.ref r1), .val (.ref r6), .val (.int (own_imin p0 p1)), .val (.int (own_imax p0 p1)), .val (.ref a14), .val (.ref a28), .val (.ref a44), .unset, .unset, .unset, .unset] []))
  obtain ⟨T62, h62, X62, e62, E62, A62, D62, -, st62⟩ := newO X57 hx hZ hown (hw _ (List.mem_of_getElem? (i := 33) rfl)) (hw _ (List.mem_of_getElem? (i := 34) rfl)) (hw _ (List.mem_of_getElem? (i := 35) rfl)) rfl (g := (mkF m 80 #[.val (.int p0), .val (.int p1), .val (.int p2), .val (.int p3), .val (.ref r1), .val (.ref r6), .val (.int (own_imin p0 p1)), .val (.int (own_imax p0 p1)), .val (.ref a14), .val (.ref a28), .val (.ref a44), .unset, .unset, .unset, .unset] [])) rfl (hb hby at_80) (by decide) (by decide)
  obtain ⟨a62, g62⟩ : ∃ z, z = T57.heap.size := ⟨_, rfl⟩
  rw [← g62] at A62 D62 st62
  have F63 : Exa Z T57.heap r1 "java/lang/String" := ((F45.ext E44).keep K57)
  have ne64 : r1 ≠ a62 := Nat.ne_of_lt (Nat.lt_of_lt_of_eq F63.lt g62.symm)
  have F65 : Exa Z T57.heap r6 "java/lang/String" := ((F47.ext E44).keep K57)
  have ne66 : r6 ≠ a62 := Nat.ne_of_lt (Nat.lt_of_lt_of_eq F65.lt g62.symm)
  have F67 : Exa Z T57.heap a14 "com/example/shrike/shrike/model/Judgment" := ((F49.ext E44).keep K57)
  have ne68 : a14 ≠ a62 := Nat.ne_of_lt (Nat.lt_of_lt_of_eq F67.lt g62.symm)
  have F69 : Exa Z T57.heap a28 "com/example/shrike/shrike/model/Judgment" := ((f40.ext E44).keep K57)
  have ne70 : a28 ≠ a62 := Nat.ne_of_lt (Nat.lt_of_lt_of_eq F69.lt g62.symm)
  have ne71 : a44 ≠ a62 := Nat.ne_of_lt (Nat.lt_of_lt_of_eq f58.lt g62.symm)
  have ge_a62 : n0 ≤ a62 := Nat.le_trans Z60 (Nat.le_of_eq g62.symm)
  refine own_Goes.st ?_ st62
  have Z72 : n0 ≤ h62.size := Nat.le_trans Z60 E62.1
  have O73 := O61.ext E62
  have F74 : Fld Z h62 a62 "com/example/shrike/shrike/model/Judgment" "topic" "Ljava/lang/String;" .null := D62 (Or.inr (hw _ (List.mem_of_getElem? (i := 46) rfl))) (ty := (.object "java/lang/String")) (by decide)
  have F75 : Fld Z h62 a62 "com/example/shrike/shrike/model/Judgment" "docno" "Ljava/lang/String;" .null := D62 (Or.inr (hw _ (List.mem_of_getElem? (i := 48) rfl))) (ty := (.object "java/lang/String")) (by decide)
  have F76 : Fld Z h62 a62 "com/example/shrike/shrike/model/Judgment" "relevance" "I" (.int (0 : Int32)) := D62 (Or.inr (hw _ (List.mem_of_getElem? (i := 50) rfl))) (ty := .int) (by decide)
  show own_Goes p.tables e below P (T62.setTop (mkF m 83 #[.val (.int p0), .val (.int p1), .val (.int p2), .val (.int p3), .val (.ref r1), .val (.ref r6), .val (.int (own_imin p0 p1)), .val (.int (own_imax p0 p1)), .val (.ref a14), .val (.ref a28), .val (.ref a44), .unset, .unset, .unset, .unset] [(.ref a62)]))
  refine own_Goes.st ?_ (fun _ k => XS.dup X62.here hx rfl (hb hby at_83) rfl rfl k)
  show own_Goes p.tables e below P (T62.setTop (mkF m 84 #[.val (.int p0), .val (.int p1), .val (.int p2), .val (.int p3), .val (.ref r1), .val (.ref r6), .val (.int (own_imin p0 p1)), .val (.int (own_imax p0 p1)), .val (.ref a14), .val (.ref a28), .val (.ref a44), .unset, .unset, .unset, .unset] [(.ref a62), (.ref a62)]))
  refine own_Goes.st ?_ (fun _ k => XS.aload X62.here hx rfl (hb hby at_84) rfl rfl k)
  show own_Goes p.tables e below P (T62.setTop (mkF m 86 #[.val (.int p0), .val (.int p1), .val (.int p2), .val (.int p3), .val (.ref r1), .val (.ref r6), .val (.int (own_imin p0 p1)), .val (.int (own_imax p0 p1)), .val (.ref a14), .val (.ref a28), .val (.ref a44), .unset, .unset, .unset, .unset] [(.ref r1), (.ref a62), (.ref a62)]))
  refine own_Goes.st ?_ (fun _ k => XS.aload X62.here hx rfl (hb hby at_86) rfl rfl k)
  show own_Goes p.tables e below P (T62.setTop (mkF m 88 #[.val (.int p0), .val (.int p1), .val (.int p2), .val (.int p3), .val (.ref r1), .val (.ref r6), .val (.int (own_imin p0 p1)), .val (.int (own_imax p0 p1)), .val (.ref a14), .val (.ref a28), .val (.ref a44), .unset, .unset, .unset, .unset] [(.ref r6), (.ref r1), (.ref a62), (.ref a62)]))
  refine own_Goes.st ?_ (fun _ k => XS.iconst X62.here hx rfl (hb hby at_88) k)
  show own_Goes p.tables e below P (T62.setTop (mkF m 89 #[.val (.int p0), .val (.int p1), .val (.int p2), .val (.int p3), .val (.ref r1), .val (.ref r6), .val (.int (own_imin p0 p1)), .val (.int (own_imax p0 p1)), .val (.ref a14), .val (.ref a28), .val (.ref a44), .unset, .unset, .unset, .unset] [(.int (1 : Int32)), (.ref r6), (.ref r1), (.ref a62), (.ref a62)]))
  obtain ⟨_, _, ⟨T77, L77, k77, n77⟩, -, X77, ⟨Lc77, hQ77, l77, y77, z77⟩, st77⟩ := X62.specialBack hx (y := (⟨"com/example/shrike/shrike/model/Judgment", "<init>", "(Ljava/lang/String;Ljava/lang/String;I)V"⟩ : MethodName)) rfl hown (mvT hZ (hw _ (List.mem_of_getElem? (i := 36) rfl))) (mvT hZ (hw _ (List.mem_of_getElem? (i := 37) rfl))) (mvT hZ (hw _ (List.mem_of_getElem? (i := 38) rfl))) (by decide) (backOf (W := 1) (rm_new l Z a0 hw [] a62 r1 r6 (1 : Int32) .null .null (.int (0 : Int32)) h62 n0 Z72 A62 F74 F75 F76 ge_a62) hZ (hw _ (List.mem_of_getElem? (i := 38) rfl)) (hw _ (List.mem_of_getElem? (i := 35) rfl)) (by decide) (by decide)) (g := (mkF m 89 #[.val (.int p0), .val (.int p1), .val (.int p2), .val (.int p3), .val (.ref r1), .val (.ref r6), .val (.int (own_imin p0 p1)), .val (.int (own_imax p0 p1)), .val (.ref a14), .val (.ref a28), .val (.ref a44), .unset, .unset, .unset, .unset] [(.int (1 : Int32)), (.ref r6), (.ref r1), (.ref a62), (.ref a62)])) rfl (by rw [hml]; rfl) (Steps.refl _) (a := a62) (argsL := [(.ref r1), (.ref r6), (.int (1 : Int32))]) (rest := [(.ref a62)]) (lenOf own_pd__28_Ljava_2f_lang_2f_String_3b_Ljava_2f_lang_2f_String_3b_I_29_V rfl) rfl (by show 2 * 0 + _ ≤ _; exact Nat.le_of_eq rfl) (hb hby at_89) (fun _ _ => ⟨rfl, e62, (by decide : 8 + 0 ≤ _), (by decide : 22 + 0 ≤ _)⟩)
  dsimp only [Pt.U, Pt.locs, Pt.cells, Pt.slots] at X77 l77 y77 z77 st77 hQ77
  subst l77 y77 z77
  obtain ⟨rfl, Nq77, K77, f78, f79⟩ := hQ77
  have N77 := Fr.app N57 Nq77
  refine own_Goes.tr st77 ?_
  have Z80 : n0 ≤ T77.heap.size := Nat.le_trans Z72 K77.1
  have O81 := O73.keep K77 (allS ge_a62 all0)
  show own_Goes p.tables e below P (T77.setTop (mkF m 92 #[.val (.int p0), .val (.int p1), .val (.int p2), .val (.int p3), .val (.ref r1), .val (.ref r6), .val (.int (own_imin p0 p1)), .val (.int (own_imax p0 p1)), .val (.ref a14), .val (.ref a28), .val (.ref a44), .unset, .unset, .unset, .unset] [(.ref a62)]))
  refine own_Goes.st ?_ (fun _ k => XS.astore X77.here hx rfl (hb hby at_92) rfl rfl (l' := #[.val (.int p0), .val (.int p1), .val (.int p2), .val (.int p3), .val (.ref r1), .val (.ref r6), .val (.int (own_imin p0 p1)), .val (.int (own_imax p0 p1)), .val (.ref a14), .val (.ref a28), .val (.ref a44), .val (.ref a62), .unset, .unset, .unset]) rfl k)
  show own_Goes p.tables e below P (T77.setTop (mkF m 94 #[.val (.int p0), .val (.int p1), .val (.int p2), .val (.int p3), .val (.ref r1), .val (.ref r6), .val (.int (own_imin p0 p1)), .val (.int (own_imax p0 p1)), .val (.ref a14), .val (.ref a28), .val (.ref a44), .val (.ref a62), .unset, .unset, .unset] []))
  refine own_Goes.st ?_ (fun _ k => XS.aload X77.here hx rfl (hb hby at_94) rfl rfl k)
  show own_Goes p.tables e below P (T77.setTop (mkF m 96 #[.val (.int p0), .val (.int p1), .val (.int p2), .val (.int p3), .val (.ref r1), .val (.ref r6), .val (.int (own_imin p0 p1)), .val (.int (own_imax p0 p1)), .val (.ref a14), .val (.ref a28), .val (.ref a44), .val (.ref a62), .unset, .unset, .unset] [(.ref a14)]))
  have F82 : Fld Z T77.heap a14 "com/example/shrike/shrike/model/Judgment" "relevance" "I" (.int (own_imin p0 p1)) := ((((((f25.ext E28).keep K39 (ninS ne33 nin0)).ext E44).keep K57 (ninS ne50 nin0)).ext E62).keep K77 (ninS ne68 nin0))
  have F84 : Exa Z T77.heap a14 "com/example/shrike/shrike/model/Judgment" := ((F67.ext E62).keep K77)
  obtain ⟨cq83, kq83, q83a, q83b, q83c⟩ := isOf hZ rfl F84
  obtain ⟨_, _, ⟨T83, L83, k83, n83⟩, -, X83, ⟨Lc83, hQ83, l83, y83, z83⟩, st83⟩ := X77.virtualBack hx (y := (⟨"com/example/shrike/shrike/model/Judgment", "isRelevant", "()Z"⟩ : MethodName)) (z := (⟨"com/example/shrike/shrike/model/Judgment", "isRelevant", "()Z"⟩ : MethodName)) hown (mvT hZ (hw _ (List.mem_of_getElem? (i := 51) rfl))) (mvT hZ (hw _ (List.mem_of_getElem? (i := 52) rfl))) (notFace_of_selects (args := #[]) (mvT hZ (hw _ (List.mem_of_getElem? (i := 54) rfl)))) (mvT hZ (hw _ (List.mem_of_getElem? (i := 54) rfl))) (mvT hZ (hw _ (List.mem_of_getElem? (i := 53) rfl))) (by decide) (backOf (W := 0) (rm_rel l Z a0 hw [] a14 (own_imin p0 p1) T77.heap n0 Z80 F82) hZ (hw _ (List.mem_of_getElem? (i := 55) rfl)) (hw _ (List.mem_of_getElem? (i := 35) rfl)) (by decide) (by decide)) q83a q83c (g := (mkF m 96 #[.val (.int p0), .val (.int p1), .val (.int p2), .val (.int p3), .val (.ref r1), .val (.ref r6), .val (.int (own_imin p0 p1)), .val (.int (own_imax p0 p1)), .val (.ref a14), .val (.ref a28), .val (.ref a44), .val (.ref a62), .unset, .unset, .unset] [(.ref a14)])) rfl (by rw [hml]; rfl) (Steps.refl _) (argsL := []) (rest := []) (lenOf own_pd__28__29_Z rfl) rfl (by show 2 * 0 + _ ≤ _; exact Nat.le_of_eq rfl) (hb hby at_96) (fun _ _ => ⟨rfl, rfl, (by decide : 8 + 0 ≤ _), (by decide : 22 + 0 ≤ _)⟩)
  dsimp only [Pt.U, Pt.locs, Pt.cells, Pt.slots] at X83 l83 y83 z83 st83 hQ83
  subst l83 y83 z83
  obtain ⟨rfl, Nq83, e83⟩ := hQ83
  have N83 := Fr.app N77 Nq83
  refine own_Goes.tr st83 ?_
  show own_Goes p.tables e below P (T83.setTop (mkF m 99 #[.val (.int p0), .val (.int p1), .val (.int p2), .val (.int p3), .val (.ref r1), .val (.ref r6), .val (.int (own_imin p0 p1)), .val (.int (own_imax p0 p1)), .val (.ref a14), .val (.ref a28), .val (.ref a44), .val (.ref a62), .unset, .unset, .unset] [(.int (own_rel (own_imin p0 p1)))]))
  by_cases h1 : (own_rel (own_imin p0 p1)) = (0 : Int32)
  · skip
    refine own_Goes.st ?_ (fun _ k => XS.ifYes X83.here hx rfl (pc0 := 99) (pc' := 110) rfl (hb hby at_99) rfl ((if0 _ _).trans (teq h1).1) (by decide) (by decide) k)
    show own_Goes p.tables e below P (T83.setTop (mkF m 110 #[.val (.int p0), .val (.int p1), .val (.int p2), .val (.int p3), .val (.ref r1), .val (.ref r6), .val (.int (own_imin p0 p1)), .val (.int (own_imax p0 p1)), .val (.ref a14), .val (.ref a28), .val (.ref a44), .val (.ref a62), .unset, .unset, .unset] []))
    refine own_Goes.st ?_ (fun _ k => XS.iconst X83.here hx rfl (hb hby at_110) k)
    show own_Goes p.tables e below P (T83.setTop (mkF m 111 #[.val (.int p0), .val (.int p1), .val (.int p2), .val (.int p3), .val (.ref r1), .val (.ref r6), .val (.int (own_imin p0 p1)), .val (.int (own_imax p0 p1)), .val (.ref a14), .val (.ref a28), .val (.ref a44), .val (.ref a62), .unset, .unset, .unset] [(.int (1 : Int32))]))
    refine own_Goes.st ?_ (fun _ k => XS.goto X83.here hx rfl (pc0 := 111) (pc' := 115) rfl (hb hby at_111) (by decide) (by decide) k)
    show own_Goes p.tables e below P (T83.setTop (mkF m 115 #[.val (.int p0), .val (.int p1), .val (.int p2), .val (.int p3), .val (.ref r1), .val (.ref r6), .val (.int (own_imin p0 p1)), .val (.int (own_imax p0 p1)), .val (.ref a14), .val (.ref a28), .val (.ref a44), .val (.ref a62), .unset, .unset, .unset] [(.int (1 : Int32))]))
    refine own_Goes.st ?_ (fun _ k => XS.istore X83.here hx rfl (hb hby at_115) rfl (l' := #[.val (.int p0), .val (.int p1), .val (.int p2), .val (.int p3), .val (.ref r1), .val (.ref r6), .val (.int (own_imin p0 p1)), .val (.int (own_imax p0 p1)), .val (.ref a14), .val (.ref a28), .val (.ref a44), .val (.ref a62), .val (.int (1 : Int32)), .unset, .unset]) rfl k)
    show own_Goes p.tables e below P (T83.setTop (mkF m 117 #[.val (.int p0), .val (.int p1), .val (.int p2), .val (.int p3), .val (.ref r1), .val (.ref r6), .val (.int (own_imin p0 p1)), .val (.int (own_imax p0 p1)), .val (.ref a14), .val (.ref a28), .val (.ref a44), .val (.ref a62), .val (.int (1 : Int32)), .unset, .unset] []))
    refine own_Goes.st ?_ (fun _ k => XS.aload X83.here hx rfl (hb hby at_117) rfl rfl k)
    show own_Goes p.tables e below P (T83.setTop (mkF m 119 #[.val (.int p0), .val (.int p1), .val (.int p2), .val (.int p3), .val (.ref r1), .val (.ref r6), .val (.int (own_imin p0 p1)), .val (.int (own_imax p0 p1)), .val (.ref a14), .val (.ref a28), .val (.ref a44), .val (.ref a62), .val (.int (1 : Int32)), .unset, .unset] [(.ref a44)]))
    have F85 : Fld Z T77.heap a44 "com/example/shrike/shrike/model/Judgment" "relevance" "I" (.int (0 : Int32)) := ((f59.ext E62).keep K77 (ninS ne71 nin0))
    have F87 : Exa Z T77.heap a44 "com/example/shrike/shrike/model/Judgment" := ((f58.ext E62).keep K77)
    obtain ⟨cq86, kq86, q86a, q86b, q86c⟩ := isOf hZ e83 F87
    obtain ⟨_, _, ⟨T86, L86, k86, n86⟩, -, X86, ⟨Lc86, hQ86, l86, y86, z86⟩, st86⟩ := X83.virtualBack hx (y := (⟨"com/example/shrike/shrike/model/Judgment", "isRelevant", "()Z"⟩ : MethodName)) (z := (⟨"com/example/shrike/shrike/model/Judgment", "isRelevant", "()Z"⟩ : MethodName)) hown (mvT hZ (hw _ (List.mem_of_getElem? (i := 51) rfl))) (mvT hZ (hw _ (List.mem_of_getElem? (i := 52) rfl))) (notFace_of_selects (args := #[]) (mvT hZ (hw _ (List.mem_of_getElem? (i := 54) rfl)))) (mvT hZ (hw _ (List.mem_of_getElem? (i := 54) rfl))) (mvT hZ (hw _ (List.mem_of_getElem? (i := 53) rfl))) (by decide) (backOf (W := 0) (rm_rel l Z a0 hw [] a44 (0 : Int32) T77.heap n0 Z80 F85) hZ (hw _ (List.mem_of_getElem? (i := 55) rfl)) (hw _ (List.mem_of_getElem? (i := 35) rfl)) (by decide) (by decide)) q86a q86c (g := (mkF m 119 #[.val (.int p0), .val (.int p1), .val (.int p2), .val (.int p3), .val (.ref r1), .val (.ref r6), .val (.int (own_imin p0 p1)), .val (.int (own_imax p0 p1)), .val (.ref a14), .val (.ref a28), .val (.ref a44), .val (.ref a62), .val (.int (1 : Int32)), .unset, .unset] [(.ref a44)])) rfl (by rw [hml]; rfl) (Steps.refl _) (argsL := []) (rest := []) (lenOf own_pd__28__29_Z rfl) rfl (by show 2 * 0 + _ ≤ _; exact Nat.le_of_eq rfl) (hb hby at_119) (fun _ _ => ⟨rfl, e83, (by decide : 8 + 0 ≤ _), (by decide : 22 + 0 ≤ _)⟩)
    dsimp only [Pt.U, Pt.locs, Pt.cells, Pt.slots] at X86 l86 y86 z86 st86 hQ86
    subst l86 y86 z86
    obtain ⟨rfl, Nq86, e86⟩ := hQ86
    have N86 := Fr.app N83 Nq86
    refine own_Goes.tr st86 ?_
    show own_Goes p.tables e below P (T86.setTop (mkF m 122 #[.val (.int p0), .val (.int p1), .val (.int p2), .val (.int p3), .val (.ref r1), .val (.ref r6), .val (.int (own_imin p0 p1)), .val (.int (own_imax p0 p1)), .val (.ref a14), .val (.ref a28), .val (.ref a44), .val (.ref a62), .val (.int (1 : Int32)), .unset, .unset] [(.int (own_rel (0 : Int32)))]))
    rw [(rfl : own_rel (0 : Int32) = 0)]
    show own_Goes p.tables e below P (T86.setTop (mkF m 122 #[.val (.int p0), .val (.int p1), .val (.int p2), .val (.int p3), .val (.ref r1), .val (.ref r6), .val (.int (own_imin p0 p1)), .val (.int (own_imax p0 p1)), .val (.ref a14), .val (.ref a28), .val (.ref a44), .val (.ref a62), .val (.int (1 : Int32)), .unset, .unset] [(.int (0 : Int32))]))
    refine own_Goes.st ?_ (fun _ k => XS.ifNo X86.here hx rfl (hb hby at_122) rfl ((if0 _ _).trans (teq (by decide : (0 : Int32) = (0 : Int32))).2) k)
    show own_Goes p.tables e below P (T86.setTop (mkF m 125 #[.val (.int p0), .val (.int p1), .val (.int p2), .val (.int p3), .val (.ref r1), .val (.ref r6), .val (.int (own_imin p0 p1)), .val (.int (own_imax p0 p1)), .val (.ref a14), .val (.ref a28), .val (.ref a44), .val (.ref a62), .val (.int (1 : Int32)), .unset, .unset] []))
    refine own_Goes.st ?_ (fun _ k => XS.iconst X86.here hx rfl (hb hby at_125) k)
    show own_Goes p.tables e below P (T86.setTop (mkF m 126 #[.val (.int p0), .val (.int p1), .val (.int p2), .val (.int p3), .val (.ref r1), .val (.ref r6), .val (.int (own_imin p0 p1)), .val (.int (own_imax p0 p1)), .val (.ref a14), .val (.ref a28), .val (.ref a44), .val (.ref a62), .val (.int (1 : Int32)), .unset, .unset] [(.int (1 : Int32))]))
    refine own_Goes.st ?_ (fun _ k => XS.goto X86.here hx rfl (pc0 := 126) (pc' := 130) rfl (hb hby at_126) (by decide) (by decide) k)
    show own_Goes p.tables e below P (T86.setTop (mkF m 130 #[.val (.int p0), .val (.int p1), .val (.int p2), .val (.int p3), .val (.ref r1), .val (.ref r6), .val (.int (own_imin p0 p1)), .val (.int (own_imax p0 p1)), .val (.ref a14), .val (.ref a28), .val (.ref a44), .val (.ref a62), .val (.int (1 : Int32)), .unset, .unset] [(.int (1 : Int32))]))
    refine own_Goes.st ?_ (fun _ k => XS.istore X86.here hx rfl (hb hby at_130) rfl (l' := #[.val (.int p0), .val (.int p1), .val (.int p2), .val (.int p3), .val (.ref r1), .val (.ref r6), .val (.int (own_imin p0 p1)), .val (.int (own_imax p0 p1)), .val (.ref a14), .val (.ref a28), .val (.ref a44), .val (.ref a62), .val (.int (1 : Int32)), .val (.int (1 : Int32)), .unset]) rfl k)
    show own_Goes p.tables e below P (T86.setTop (mkF m 132 #[.val (.int p0), .val (.int p1), .val (.int p2), .val (.int p3), .val (.ref r1), .val (.ref r6), .val (.int (own_imin p0 p1)), .val (.int (own_imax p0 p1)), .val (.ref a14), .val (.ref a28), .val (.ref a44), .val (.ref a62), .val (.int (1 : Int32)), .val (.int (1 : Int32)), .unset] []))
    refine own_Goes.st ?_ (fun _ k => XS.aload X86.here hx rfl (hb hby at_132) rfl rfl k)
    show own_Goes p.tables e below P (T86.setTop (mkF m 134 #[.val (.int p0), .val (.int p1), .val (.int p2), .val (.int p3), .val (.ref r1), .val (.ref r6), .val (.int (own_imin p0 p1)), .val (.int (own_imax p0 p1)), .val (.ref a14), .val (.ref a28), .val (.ref a44), .val (.ref a62), .val (.int (1 : Int32)), .val (.int (1 : Int32)), .unset] [(.ref a62)]))
    obtain ⟨cq88, kq88, q88a, q88b, q88c⟩ := isOf hZ e86 f78
    obtain ⟨_, _, ⟨T88, L88, k88, n88⟩, -, X88, ⟨Lc88, hQ88, l88, y88, z88⟩, st88⟩ := X86.virtualBack hx (y := (⟨"com/example/shrike/shrike/model/Judgment", "isRelevant", "()Z"⟩ : MethodName)) (z := (⟨"com/example/shrike/shrike/model/Judgment", "isRelevant", "()Z"⟩ : MethodName)) hown (mvT hZ (hw _ (List.mem_of_getElem? (i := 51) rfl))) (mvT hZ (hw _ (List.mem_of_getElem? (i := 52) rfl))) (notFace_of_selects (args := #[]) (mvT hZ (hw _ (List.mem_of_getElem? (i := 54) rfl)))) (mvT hZ (hw _ (List.mem_of_getElem? (i := 54) rfl))) (mvT hZ (hw _ (List.mem_of_getElem? (i := 53) rfl))) (by decide) (backOf (W := 0) (rm_rel l Z a0 hw [] a62 (1 : Int32) T77.heap n0 Z80 f79) hZ (hw _ (List.mem_of_getElem? (i := 55) rfl)) (hw _ (List.mem_of_getElem? (i := 35) rfl)) (by decide) (by decide)) q88a q88c (g := (mkF m 134 #[.val (.int p0), .val (.int p1), .val (.int p2), .val (.int p3), .val (.ref r1), .val (.ref r6), .val (.int (own_imin p0 p1)), .val (.int (own_imax p0 p1)), .val (.ref a14), .val (.ref a28), .val (.ref a44), .val (.ref a62), .val (.int (1 : Int32)), .val (.int (1 : Int32)), .unset] [(.ref a62)])) rfl (by rw [hml]; rfl) (Steps.refl _) (argsL := []) (rest := []) (lenOf own_pd__28__29_Z rfl) rfl (by show 2 * 0 + _ ≤ _; exact Nat.le_of_eq rfl) (hb hby at_134) (fun _ _ => ⟨rfl, e86, (by decide : 8 + 0 ≤ _), (by decide : 22 + 0 ≤ _)⟩)
    dsimp only [Pt.U, Pt.locs, Pt.cells, Pt.slots] at X88 l88 y88 z88 st88 hQ88
    subst l88 y88 z88
    obtain ⟨rfl, Nq88, e88⟩ := hQ88
    have N88 := Fr.app N86 Nq88
    refine own_Goes.tr st88 ?_
    show own_Goes p.tables e below P (T88.setTop (mkF m 137 #[.val (.int p0), .val (.int p1), .val (.int p2), .val (.int p3), .val (.ref r1), .val (.ref r6), .val (.int (own_imin p0 p1)), .val (.int (own_imax p0 p1)), .val (.ref a14), .val (.ref a28), .val (.ref a44), .val (.ref a62), .val (.int (1 : Int32)), .val (.int (1 : Int32)), .unset] [(.int (own_rel (1 : Int32)))]))
    rw [(rfl : own_rel (1 : Int32) = 1)]
    show own_Goes p.tables e below P (T88.setTop (mkF m 137 #[.val (.int p0), .val (.int p1), .val (.int p2), .val (.int p3), .val (.ref r1), .val (.ref r6), .val (.int (own_imin p0 p1)), .val (.int (own_imax p0 p1)), .val (.ref a14), .val (.ref a28), .val (.ref a44), .val (.ref a62), .val (.int (1 : Int32)), .val (.int (1 : Int32)), .unset] [(.int (1 : Int32))]))
    refine own_Goes.st ?_ (fun _ k => XS.istore X88.here hx rfl (hb hby at_137) rfl (l' := #[.val (.int p0), .val (.int p1), .val (.int p2), .val (.int p3), .val (.ref r1), .val (.ref r6), .val (.int (own_imin p0 p1)), .val (.int (own_imax p0 p1)), .val (.ref a14), .val (.ref a28), .val (.ref a44), .val (.ref a62), .val (.int (1 : Int32)), .val (.int (1 : Int32)), .val (.int (1 : Int32))]) rfl k)
    show own_Goes p.tables e below P (T88.setTop (mkF m 139 #[.val (.int p0), .val (.int p1), .val (.int p2), .val (.int p3), .val (.ref r1), .val (.ref r6), .val (.int (own_imin p0 p1)), .val (.int (own_imax p0 p1)), .val (.ref a14), .val (.ref a28), .val (.ref a44), .val (.ref a62), .val (.int (1 : Int32)), .val (.int (1 : Int32)), .val (.int (1 : Int32))] []))
    refine own_Goes.st ?_ (fun _ k => XS.iload X88.here hx rfl (hb hby at_139) rfl k)
    show own_Goes p.tables e below P (T88.setTop (mkF m 141 #[.val (.int p0), .val (.int p1), .val (.int p2), .val (.int p3), .val (.ref r1), .val (.ref r6), .val (.int (own_imin p0 p1)), .val (.int (own_imax p0 p1)), .val (.ref a14), .val (.ref a28), .val (.ref a44), .val (.ref a62), .val (.int (1 : Int32)), .val (.int (1 : Int32)), .val (.int (1 : Int32))] [(.int (1 : Int32))]))
    refine own_Goes.st ?_ (fun _ k => XS.ifNo X88.here hx rfl (hb hby at_141) rfl ((if0 _ _).trans (feq (by decide : ¬ ((1 : Int32) = (0 : Int32)))).1) k)
    show own_Goes p.tables e below P (T88.setTop (mkF m 144 #[.val (.int p0), .val (.int p1), .val (.int p2), .val (.int p3), .val (.ref r1), .val (.ref r6), .val (.int (own_imin p0 p1)), .val (.int (own_imax p0 p1)), .val (.ref a14), .val (.ref a28), .val (.ref a44), .val (.ref a62), .val (.int (1 : Int32)), .val (.int (1 : Int32)), .val (.int (1 : Int32))] []))
    refine own_Goes.st ?_ (fun _ k => XS.iload X88.here hx rfl (hb hby at_144) rfl k)
    show own_Goes p.tables e below P (T88.setTop (mkF m 146 #[.val (.int p0), .val (.int p1), .val (.int p2), .val (.int p3), .val (.ref r1), .val (.ref r6), .val (.int (own_imin p0 p1)), .val (.int (own_imax p0 p1)), .val (.ref a14), .val (.ref a28), .val (.ref a44), .val (.ref a62), .val (.int (1 : Int32)), .val (.int (1 : Int32)), .val (.int (1 : Int32))] [(.int (1 : Int32))]))
    refine own_Goes.st ?_ (fun _ k => XS.ifNo X88.here hx rfl (hb hby at_146) rfl ((if0 _ _).trans (feq (by decide : ¬ ((1 : Int32) = (0 : Int32)))).1) k)
    show own_Goes p.tables e below P (T88.setTop (mkF m 149 #[.val (.int p0), .val (.int p1), .val (.int p2), .val (.int p3), .val (.ref r1), .val (.ref r6), .val (.int (own_imin p0 p1)), .val (.int (own_imax p0 p1)), .val (.ref a14), .val (.ref a28), .val (.ref a44), .val (.ref a62), .val (.int (1 : Int32)), .val (.int (1 : Int32)), .val (.int (1 : Int32))] []))
    refine own_Goes.st ?_ (fun _ k => XS.iload X88.here hx rfl (hb hby at_149) rfl k)
    show own_Goes p.tables e below P (T88.setTop (mkF m 151 #[.val (.int p0), .val (.int p1), .val (.int p2), .val (.int p3), .val (.ref r1), .val (.ref r6), .val (.int (own_imin p0 p1)), .val (.int (own_imax p0 p1)), .val (.ref a14), .val (.ref a28), .val (.ref a44), .val (.ref a62), .val (.int (1 : Int32)), .val (.int (1 : Int32)), .val (.int (1 : Int32))] [(.int (1 : Int32))]))
    refine own_Goes.st ?_ (fun _ k => XS.ifNo X88.here hx rfl (hb hby at_151) rfl ((if0 _ _).trans (feq (by decide : ¬ ((1 : Int32) = (0 : Int32)))).1) k)
    show own_Goes p.tables e below P (T88.setTop (mkF m 154 #[.val (.int p0), .val (.int p1), .val (.int p2), .val (.int p3), .val (.ref r1), .val (.ref r6), .val (.int (own_imin p0 p1)), .val (.int (own_imax p0 p1)), .val (.ref a14), .val (.ref a28), .val (.ref a44), .val (.ref a62), .val (.int (1 : Int32)), .val (.int (1 : Int32)), .val (.int (1 : Int32))] []))
    refine own_Goes.st ?_ (fun _ k => XS.iconst X88.here hx rfl (hb hby at_154) k)
    show own_Goes p.tables e below P (T88.setTop (mkF m 155 #[.val (.int p0), .val (.int p1), .val (.int p2), .val (.int p3), .val (.ref r1), .val (.ref r6), .val (.int (own_imin p0 p1)), .val (.int (own_imax p0 p1)), .val (.ref a14), .val (.ref a28), .val (.ref a44), .val (.ref a62), .val (.int (1 : Int32)), .val (.int (1 : Int32)), .val (.int (1 : Int32))] [(.int (1 : Int32))]))
    refine own_Goes.st ?_ (fun _ k => XS.goto X88.here hx rfl (pc0 := 155) (pc' := 159) rfl (hb hby at_155) (by decide) (by decide) k)
    show own_Goes p.tables e below P (T88.setTop (mkF m 159 #[.val (.int p0), .val (.int p1), .val (.int p2), .val (.int p3), .val (.ref r1), .val (.ref r6), .val (.int (own_imin p0 p1)), .val (.int (own_imax p0 p1)), .val (.ref a14), .val (.ref a28), .val (.ref a44), .val (.ref a62), .val (.int (1 : Int32)), .val (.int (1 : Int32)), .val (.int (1 : Int32))] [(.int (1 : Int32))]))
    obtain ⟨fs, hr, hrun, hended, hW, hsame⟩ := X88.leave (v := some (.int (1 : Int32))) (fun h => by rw [Bd.returns] at h; cases h)
    exact own_Goes.fin _ _ (retOut X88 hx (t := .boolean) Bd.returns rfl (Or.inl ⟨rfl, Or.inr (Or.inl rfl), _, rfl⟩) (hb hby at_159) hr) (hPP _ _ ⟨hrun, hended, _, _, rfl, (by show Q_law n0 _ _; exact ⟨rfl, N88⟩), ⟨_, rfl⟩, hW, hsame.mono (by decide) (by decide)⟩)
  · skip
    refine own_Goes.st ?_ (fun _ k => XS.ifNo X83.here hx rfl (hb hby at_99) rfl ((if0 _ _).trans (feq h1).1) k)
    show own_Goes p.tables e below P (T83.setTop (mkF m 102 #[.val (.int p0), .val (.int p1), .val (.int p2), .val (.int p3), .val (.ref r1), .val (.ref r6), .val (.int (own_imin p0 p1)), .val (.int (own_imax p0 p1)), .val (.ref a14), .val (.ref a28), .val (.ref a44), .val (.ref a62), .unset, .unset, .unset] []))
    refine own_Goes.st ?_ (fun _ k => XS.aload X83.here hx rfl (hb hby at_102) rfl rfl k)
    show own_Goes p.tables e below P (T83.setTop (mkF m 104 #[.val (.int p0), .val (.int p1), .val (.int p2), .val (.int p3), .val (.ref r1), .val (.ref r6), .val (.int (own_imin p0 p1)), .val (.int (own_imax p0 p1)), .val (.ref a14), .val (.ref a28), .val (.ref a44), .val (.ref a62), .unset, .unset, .unset] [(.ref a28)]))
    have F89 : Fld Z T77.heap a28 "com/example/shrike/shrike/model/Judgment" "relevance" "I" (.int (own_imax p0 p1)) := ((((f41.ext E44).keep K57 (ninS ne51 nin0)).ext E62).keep K77 (ninS ne70 nin0))
    have F91 : Exa Z T77.heap a28 "com/example/shrike/shrike/model/Judgment" := ((F69.ext E62).keep K77)
    obtain ⟨cq90, kq90, q90a, q90b, q90c⟩ := isOf hZ e83 F91
    obtain ⟨_, _, ⟨T90, L90, k90, n90⟩, -, X90, ⟨Lc90, hQ90, l90, y90, z90⟩, st90⟩ := X83.virtualBack hx (y := (⟨"com/example/shrike/shrike/model/Judgment", "isRelevant", "()Z"⟩ : MethodName)) (z := (⟨"com/example/shrike/shrike/model/Judgment", "isRelevant", "()Z"⟩ : MethodName)) hown (mvT hZ (hw _ (List.mem_of_getElem? (i := 51) rfl))) (mvT hZ (hw _ (List.mem_of_getElem? (i := 52) rfl))) (notFace_of_selects (args := #[]) (mvT hZ (hw _ (List.mem_of_getElem? (i := 54) rfl)))) (mvT hZ (hw _ (List.mem_of_getElem? (i := 54) rfl))) (mvT hZ (hw _ (List.mem_of_getElem? (i := 53) rfl))) (by decide) (backOf (W := 0) (rm_rel l Z a0 hw [] a28 (own_imax p0 p1) T77.heap n0 Z80 F89) hZ (hw _ (List.mem_of_getElem? (i := 55) rfl)) (hw _ (List.mem_of_getElem? (i := 35) rfl)) (by decide) (by decide)) q90a q90c (g := (mkF m 104 #[.val (.int p0), .val (.int p1), .val (.int p2), .val (.int p3), .val (.ref r1), .val (.ref r6), .val (.int (own_imin p0 p1)), .val (.int (own_imax p0 p1)), .val (.ref a14), .val (.ref a28), .val (.ref a44), .val (.ref a62), .unset, .unset, .unset] [(.ref a28)])) rfl (by rw [hml]; rfl) (Steps.refl _) (argsL := []) (rest := []) (lenOf own_pd__28__29_Z rfl) rfl (by show 2 * 0 + _ ≤ _; exact Nat.le_of_eq rfl) (hb hby at_104) (fun _ _ => ⟨rfl, e83, (by decide : 8 + 0 ≤ _), (by decide : 22 + 0 ≤ _)⟩)
    dsimp only [Pt.U, Pt.locs, Pt.cells, Pt.slots] at X90 l90 y90 z90 st90 hQ90
    subst l90 y90 z90
    obtain ⟨rfl, Nq90, e90⟩ := hQ90
    have N90 := Fr.app N83 Nq90
    refine own_Goes.tr st90 ?_
    show own_Goes p.tables e below P (T90.setTop (mkF m 107 #[.val (.int p0), .val (.int p1), .val (.int p2), .val (.int p3), .val (.ref r1), .val (.ref r6), .val (.int (own_imin p0 p1)), .val (.int (own_imax p0 p1)), .val (.ref a14), .val (.ref a28), .val (.ref a44), .val (.ref a62), .unset, .unset, .unset] [(.int (own_rel (own_imax p0 p1)))]))
    refine own_Goes.st ?_ (fun _ k => XS.ifNo X90.here hx rfl (hb hby at_107) rfl ((if0 _ _).trans (feq (own_mono h1)).1) k)
    show own_Goes p.tables e below P (T90.setTop (mkF m 110 #[.val (.int p0), .val (.int p1), .val (.int p2), .val (.int p3), .val (.ref r1), .val (.ref r6), .val (.int (own_imin p0 p1)), .val (.int (own_imax p0 p1)), .val (.ref a14), .val (.ref a28), .val (.ref a44), .val (.ref a62), .unset, .unset, .unset] []))
    refine own_Goes.st ?_ (fun _ k => XS.iconst X90.here hx rfl (hb hby at_110) k)
    show own_Goes p.tables e below P (T90.setTop (mkF m 111 #[.val (.int p0), .val (.int p1), .val (.int p2), .val (.int p3), .val (.ref r1), .val (.ref r6), .val (.int (own_imin p0 p1)), .val (.int (own_imax p0 p1)), .val (.ref a14), .val (.ref a28), .val (.ref a44), .val (.ref a62), .unset, .unset, .unset] [(.int (1 : Int32))]))
    refine own_Goes.st ?_ (fun _ k => XS.goto X90.here hx rfl (pc0 := 111) (pc' := 115) rfl (hb hby at_111) (by decide) (by decide) k)
    show own_Goes p.tables e below P (T90.setTop (mkF m 115 #[.val (.int p0), .val (.int p1), .val (.int p2), .val (.int p3), .val (.ref r1), .val (.ref r6), .val (.int (own_imin p0 p1)), .val (.int (own_imax p0 p1)), .val (.ref a14), .val (.ref a28), .val (.ref a44), .val (.ref a62), .unset, .unset, .unset] [(.int (1 : Int32))]))
    refine own_Goes.st ?_ (fun _ k => XS.istore X90.here hx rfl (hb hby at_115) rfl (l' := #[.val (.int p0), .val (.int p1), .val (.int p2), .val (.int p3), .val (.ref r1), .val (.ref r6), .val (.int (own_imin p0 p1)), .val (.int (own_imax p0 p1)), .val (.ref a14), .val (.ref a28), .val (.ref a44), .val (.ref a62), .val (.int (1 : Int32)), .unset, .unset]) rfl k)
    show own_Goes p.tables e below P (T90.setTop (mkF m 117 #[.val (.int p0), .val (.int p1), .val (.int p2), .val (.int p3), .val (.ref r1), .val (.ref r6), .val (.int (own_imin p0 p1)), .val (.int (own_imax p0 p1)), .val (.ref a14), .val (.ref a28), .val (.ref a44), .val (.ref a62), .val (.int (1 : Int32)), .unset, .unset] []))
    refine own_Goes.st ?_ (fun _ k => XS.aload X90.here hx rfl (hb hby at_117) rfl rfl k)
    show own_Goes p.tables e below P (T90.setTop (mkF m 119 #[.val (.int p0), .val (.int p1), .val (.int p2), .val (.int p3), .val (.ref r1), .val (.ref r6), .val (.int (own_imin p0 p1)), .val (.int (own_imax p0 p1)), .val (.ref a14), .val (.ref a28), .val (.ref a44), .val (.ref a62), .val (.int (1 : Int32)), .unset, .unset] [(.ref a44)]))
    have F92 : Fld Z T77.heap a44 "com/example/shrike/shrike/model/Judgment" "relevance" "I" (.int (0 : Int32)) := ((f59.ext E62).keep K77 (ninS ne71 nin0))
    have F94 : Exa Z T77.heap a44 "com/example/shrike/shrike/model/Judgment" := ((f58.ext E62).keep K77)
    obtain ⟨cq93, kq93, q93a, q93b, q93c⟩ := isOf hZ e90 F94
    obtain ⟨_, _, ⟨T93, L93, k93, n93⟩, -, X93, ⟨Lc93, hQ93, l93, y93, z93⟩, st93⟩ := X90.virtualBack hx (y := (⟨"com/example/shrike/shrike/model/Judgment", "isRelevant", "()Z"⟩ : MethodName)) (z := (⟨"com/example/shrike/shrike/model/Judgment", "isRelevant", "()Z"⟩ : MethodName)) hown (mvT hZ (hw _ (List.mem_of_getElem? (i := 51) rfl))) (mvT hZ (hw _ (List.mem_of_getElem? (i := 52) rfl))) (notFace_of_selects (args := #[]) (mvT hZ (hw _ (List.mem_of_getElem? (i := 54) rfl)))) (mvT hZ (hw _ (List.mem_of_getElem? (i := 54) rfl))) (mvT hZ (hw _ (List.mem_of_getElem? (i := 53) rfl))) (by decide) (backOf (W := 0) (rm_rel l Z a0 hw [] a44 (0 : Int32) T77.heap n0 Z80 F92) hZ (hw _ (List.mem_of_getElem? (i := 55) rfl)) (hw _ (List.mem_of_getElem? (i := 35) rfl)) (by decide) (by decide)) q93a q93c (g := (mkF m 119 #[.val (.int p0), .val (.int p1), .val (.int p2), .val (.int p3), .val (.ref r1), .val (.ref r6), .val (.int (own_imin p0 p1)), .val (.int (own_imax p0 p1)), .val (.ref a14), .val (.ref a28), .val (.ref a44), .val (.ref a62), .val (.int (1 : Int32)), .unset, .unset] [(.ref a44)])) rfl (by rw [hml]; rfl) (Steps.refl _) (argsL := []) (rest := []) (lenOf own_pd__28__29_Z rfl) rfl (by show 2 * 0 + _ ≤ _; exact Nat.le_of_eq rfl) (hb hby at_119) (fun _ _ => ⟨rfl, e90, (by decide : 8 + 0 ≤ _), (by decide : 22 + 0 ≤ _)⟩)
    dsimp only [Pt.U, Pt.locs, Pt.cells, Pt.slots] at X93 l93 y93 z93 st93 hQ93
    subst l93 y93 z93
    obtain ⟨rfl, Nq93, e93⟩ := hQ93
    have N93 := Fr.app N90 Nq93
    refine own_Goes.tr st93 ?_
    show own_Goes p.tables e below P (T93.setTop (mkF m 122 #[.val (.int p0), .val (.int p1), .val (.int p2), .val (.int p3), .val (.ref r1), .val (.ref r6), .val (.int (own_imin p0 p1)), .val (.int (own_imax p0 p1)), .val (.ref a14), .val (.ref a28), .val (.ref a44), .val (.ref a62), .val (.int (1 : Int32)), .unset, .unset] [(.int (own_rel (0 : Int32)))]))
    rw [(rfl : own_rel (0 : Int32) = 0)]
    show own_Goes p.tables e below P (T93.setTop (mkF m 122 #[.val (.int p0), .val (.int p1), .val (.int p2), .val (.int p3), .val (.ref r1), .val (.ref r6), .val (.int (own_imin p0 p1)), .val (.int (own_imax p0 p1)), .val (.ref a14), .val (.ref a28), .val (.ref a44), .val (.ref a62), .val (.int (1 : Int32)), .unset, .unset] [(.int (0 : Int32))]))
    refine own_Goes.st ?_ (fun _ k => XS.ifNo X93.here hx rfl (hb hby at_122) rfl ((if0 _ _).trans (teq (by decide : (0 : Int32) = (0 : Int32))).2) k)
    show own_Goes p.tables e below P (T93.setTop (mkF m 125 #[.val (.int p0), .val (.int p1), .val (.int p2), .val (.int p3), .val (.ref r1), .val (.ref r6), .val (.int (own_imin p0 p1)), .val (.int (own_imax p0 p1)), .val (.ref a14), .val (.ref a28), .val (.ref a44), .val (.ref a62), .val (.int (1 : Int32)), .unset, .unset] []))
    refine own_Goes.st ?_ (fun _ k => XS.iconst X93.here hx rfl (hb hby at_125) k)
    show own_Goes p.tables e below P (T93.setTop (mkF m 126 #[.val (.int p0), .val (.int p1), .val (.int p2), .val (.int p3), .val (.ref r1), .val (.ref r6), .val (.int (own_imin p0 p1)), .val (.int (own_imax p0 p1)), .val (.ref a14), .val (.ref a28), .val (.ref a44), .val (.ref a62), .val (.int (1 : Int32)), .unset, .unset] [(.int (1 : Int32))]))
    refine own_Goes.st ?_ (fun _ k => XS.goto X93.here hx rfl (pc0 := 126) (pc' := 130) rfl (hb hby at_126) (by decide) (by decide) k)
    show own_Goes p.tables e below P (T93.setTop (mkF m 130 #[.val (.int p0), .val (.int p1), .val (.int p2), .val (.int p3), .val (.ref r1), .val (.ref r6), .val (.int (own_imin p0 p1)), .val (.int (own_imax p0 p1)), .val (.ref a14), .val (.ref a28), .val (.ref a44), .val (.ref a62), .val (.int (1 : Int32)), .unset, .unset] [(.int (1 : Int32))]))
    refine own_Goes.st ?_ (fun _ k => XS.istore X93.here hx rfl (hb hby at_130) rfl (l' := #[.val (.int p0), .val (.int p1), .val (.int p2), .val (.int p3), .val (.ref r1), .val (.ref r6), .val (.int (own_imin p0 p1)), .val (.int (own_imax p0 p1)), .val (.ref a14), .val (.ref a28), .val (.ref a44), .val (.ref a62), .val (.int (1 : Int32)), .val (.int (1 : Int32)), .unset]) rfl k)
    show own_Goes p.tables e below P (T93.setTop (mkF m 132 #[.val (.int p0), .val (.int p1), .val (.int p2), .val (.int p3), .val (.ref r1), .val (.ref r6), .val (.int (own_imin p0 p1)), .val (.int (own_imax p0 p1)), .val (.ref a14), .val (.ref a28), .val (.ref a44), .val (.ref a62), .val (.int (1 : Int32)), .val (.int (1 : Int32)), .unset] []))
    refine own_Goes.st ?_ (fun _ k => XS.aload X93.here hx rfl (hb hby at_132) rfl rfl k)
    show own_Goes p.tables e below P (T93.setTop (mkF m 134 #[.val (.int p0), .val (.int p1), .val (.int p2), .val (.int p3), .val (.ref r1), .val (.ref r6), .val (.int (own_imin p0 p1)), .val (.int (own_imax p0 p1)), .val (.ref a14), .val (.ref a28), .val (.ref a44), .val (.ref a62), .val (.int (1 : Int32)), .val (.int (1 : Int32)), .unset] [(.ref a62)]))
    obtain ⟨cq95, kq95, q95a, q95b, q95c⟩ := isOf hZ e93 f78
    obtain ⟨_, _, ⟨T95, L95, k95, n95⟩, -, X95, ⟨Lc95, hQ95, l95, y95, z95⟩, st95⟩ := X93.virtualBack hx (y := (⟨"com/example/shrike/shrike/model/Judgment", "isRelevant", "()Z"⟩ : MethodName)) (z := (⟨"com/example/shrike/shrike/model/Judgment", "isRelevant", "()Z"⟩ : MethodName)) hown (mvT hZ (hw _ (List.mem_of_getElem? (i := 51) rfl))) (mvT hZ (hw _ (List.mem_of_getElem? (i := 52) rfl))) (notFace_of_selects (args := #[]) (mvT hZ (hw _ (List.mem_of_getElem? (i := 54) rfl)))) (mvT hZ (hw _ (List.mem_of_getElem? (i := 54) rfl))) (mvT hZ (hw _ (List.mem_of_getElem? (i := 53) rfl))) (by decide) (backOf (W := 0) (rm_rel l Z a0 hw [] a62 (1 : Int32) T77.heap n0 Z80 f79) hZ (hw _ (List.mem_of_getElem? (i := 55) rfl)) (hw _ (List.mem_of_getElem? (i := 35) rfl)) (by decide) (by decide)) q95a q95c (g := (mkF m 134 #[.val (.int p0), .val (.int p1), .val (.int p2), .val (.int p3), .val (.ref r1), .val (.ref r6), .val (.int (own_imin p0 p1)), .val (.int (own_imax p0 p1)), .val (.ref a14), .val (.ref a28), .val (.ref a44), .val (.ref a62), .val (.int (1 : Int32)), .val (.int (1 : Int32)), .unset] [(.ref a62)])) rfl (by rw [hml]; rfl) (Steps.refl _) (argsL := []) (rest := []) (lenOf own_pd__28__29_Z rfl) rfl (by show 2 * 0 + _ ≤ _; exact Nat.le_of_eq rfl) (hb hby at_134) (fun _ _ => ⟨rfl, e93, (by decide : 8 + 0 ≤ _), (by decide : 22 + 0 ≤ _)⟩)
    dsimp only [Pt.U, Pt.locs, Pt.cells, Pt.slots] at X95 l95 y95 z95 st95 hQ95
    subst l95 y95 z95
    obtain ⟨rfl, Nq95, e95⟩ := hQ95
    have N95 := Fr.app N93 Nq95
    refine own_Goes.tr st95 ?_
    show own_Goes p.tables e below P (T95.setTop (mkF m 137 #[.val (.int p0), .val (.int p1), .val (.int p2), .val (.int p3), .val (.ref r1), .val (.ref r6), .val (.int (own_imin p0 p1)), .val (.int (own_imax p0 p1)), .val (.ref a14), .val (.ref a28), .val (.ref a44), .val (.ref a62), .val (.int (1 : Int32)), .val (.int (1 : Int32)), .unset] [(.int (own_rel (1 : Int32)))]))
    rw [(rfl : own_rel (1 : Int32) = 1)]
    show own_Goes p.tables e below P (T95.setTop (mkF m 137 #[.val (.int p0), .val (.int p1), .val (.int p2), .val (.int p3), .val (.ref r1), .val (.ref r6), .val (.int (own_imin p0 p1)), .val (.int (own_imax p0 p1)), .val (.ref a14), .val (.ref a28), .val (.ref a44), .val (.ref a62), .val (.int (1 : Int32)), .val (.int (1 : Int32)), .unset] [(.int (1 : Int32))]))
    refine own_Goes.st ?_ (fun _ k => XS.istore X95.here hx rfl (hb hby at_137) rfl (l' := #[.val (.int p0), .val (.int p1), .val (.int p2), .val (.int p3), .val (.ref r1), .val (.ref r6), .val (.int (own_imin p0 p1)), .val (.int (own_imax p0 p1)), .val (.ref a14), .val (.ref a28), .val (.ref a44), .val (.ref a62), .val (.int (1 : Int32)), .val (.int (1 : Int32)), .val (.int (1 : Int32))]) rfl k)
    show own_Goes p.tables e below P (T95.setTop (mkF m 139 #[.val (.int p0), .val (.int p1), .val (.int p2), .val (.int p3), .val (.ref r1), .val (.ref r6), .val (.int (own_imin p0 p1)), .val (.int (own_imax p0 p1)), .val (.ref a14), .val (.ref a28), .val (.ref a44), .val (.ref a62), .val (.int (1 : Int32)), .val (.int (1 : Int32)), .val (.int (1 : Int32))] []))
    refine own_Goes.st ?_ (fun _ k => XS.iload X95.here hx rfl (hb hby at_139) rfl k)
    show own_Goes p.tables e below P (T95.setTop (mkF m 141 #[.val (.int p0), .val (.int p1), .val (.int p2), .val (.int p3), .val (.ref r1), .val (.ref r6), .val (.int (own_imin p0 p1)), .val (.int (own_imax p0 p1)), .val (.ref a14), .val (.ref a28), .val (.ref a44), .val (.ref a62), .val (.int (1 : Int32)), .val (.int (1 : Int32)), .val (.int (1 : Int32))] [(.int (1 : Int32))]))
    refine own_Goes.st ?_ (fun _ k => XS.ifNo X95.here hx rfl (hb hby at_141) rfl ((if0 _ _).trans (feq (by decide : ¬ ((1 : Int32) = (0 : Int32)))).1) k)
    show own_Goes p.tables e below P (T95.setTop (mkF m 144 #[.val (.int p0), .val (.int p1), .val (.int p2), .val (.int p3), .val (.ref r1), .val (.ref r6), .val (.int (own_imin p0 p1)), .val (.int (own_imax p0 p1)), .val (.ref a14), .val (.ref a28), .val (.ref a44), .val (.ref a62), .val (.int (1 : Int32)), .val (.int (1 : Int32)), .val (.int (1 : Int32))] []))
    refine own_Goes.st ?_ (fun _ k => XS.iload X95.here hx rfl (hb hby at_144) rfl k)
    show own_Goes p.tables e below P (T95.setTop (mkF m 146 #[.val (.int p0), .val (.int p1), .val (.int p2), .val (.int p3), .val (.ref r1), .val (.ref r6), .val (.int (own_imin p0 p1)), .val (.int (own_imax p0 p1)), .val (.ref a14), .val (.ref a28), .val (.ref a44), .val (.ref a62), .val (.int (1 : Int32)), .val (.int (1 : Int32)), .val (.int (1 : Int32))] [(.int (1 : Int32))]))
    refine own_Goes.st ?_ (fun _ k => XS.ifNo X95.here hx rfl (hb hby at_146) rfl ((if0 _ _).trans (feq (by decide : ¬ ((1 : Int32) = (0 : Int32)))).1) k)
    show own_Goes p.tables e below P (T95.setTop (mkF m 149 #[.val (.int p0), .val (.int p1), .val (.int p2), .val (.int p3), .val (.ref r1), .val (.ref r6), .val (.int (own_imin p0 p1)), .val (.int (own_imax p0 p1)), .val (.ref a14), .val (.ref a28), .val (.ref a44), .val (.ref a62), .val (.int (1 : Int32)), .val (.int (1 : Int32)), .val (.int (1 : Int32))] []))
    refine own_Goes.st ?_ (fun _ k => XS.iload X95.here hx rfl (hb hby at_149) rfl k)
    show own_Goes p.tables e below P (T95.setTop (mkF m 151 #[.val (.int p0), .val (.int p1), .val (.int p2), .val (.int p3), .val (.ref r1), .val (.ref r6), .val (.int (own_imin p0 p1)), .val (.int (own_imax p0 p1)), .val (.ref a14), .val (.ref a28), .val (.ref a44), .val (.ref a62), .val (.int (1 : Int32)), .val (.int (1 : Int32)), .val (.int (1 : Int32))] [(.int (1 : Int32))]))
    refine own_Goes.st ?_ (fun _ k => XS.ifNo X95.here hx rfl (hb hby at_151) rfl ((if0 _ _).trans (feq (by decide : ¬ ((1 : Int32) = (0 : Int32)))).1) k)
    show own_Goes p.tables e below P (T95.setTop (mkF m 154 #[.val (.int p0), .val (.int p1), .val (.int p2), .val (.int p3), .val (.ref r1), .val (.ref r6), .val (.int (own_imin p0 p1)), .val (.int (own_imax p0 p1)), .val (.ref a14), .val (.ref a28), .val (.ref a44), .val (.ref a62), .val (.int (1 : Int32)), .val (.int (1 : Int32)), .val (.int (1 : Int32))] []))
    refine own_Goes.st ?_ (fun _ k => XS.iconst X95.here hx rfl (hb hby at_154) k)
    show own_Goes p.tables e below P (T95.setTop (mkF m 155 #[.val (.int p0), .val (.int p1), .val (.int p2), .val (.int p3), .val (.ref r1), .val (.ref r6), .val (.int (own_imin p0 p1)), .val (.int (own_imax p0 p1)), .val (.ref a14), .val (.ref a28), .val (.ref a44), .val (.ref a62), .val (.int (1 : Int32)), .val (.int (1 : Int32)), .val (.int (1 : Int32))] [(.int (1 : Int32))]))
    refine own_Goes.st ?_ (fun _ k => XS.goto X95.here hx rfl (pc0 := 155) (pc' := 159) rfl (hb hby at_155) (by decide) (by decide) k)
    show own_Goes p.tables e below P (T95.setTop (mkF m 159 #[.val (.int p0), .val (.int p1), .val (.int p2), .val (.int p3), .val (.ref r1), .val (.ref r6), .val (.int (own_imin p0 p1)), .val (.int (own_imax p0 p1)), .val (.ref a14), .val (.ref a28), .val (.ref a44), .val (.ref a62), .val (.int (1 : Int32)), .val (.int (1 : Int32)), .val (.int (1 : Int32))] [(.int (1 : Int32))]))
    obtain ⟨fs, hr, hrun, hended, hW, hsame⟩ := X95.leave (v := some (.int (1 : Int32))) (fun h => by rw [Bd.returns] at h; cases h)
    exact own_Goes.fin _ _ (retOut X95 hx (t := .boolean) Bd.returns rfl (Or.inl ⟨rfl, Or.inr (Or.inl rfl), _, rfl⟩) (hb hby at_159) hr) (hPP _ _ ⟨hrun, hended, _, _, rfl, (by show Q_law n0 _ _; exact ⟨rfl, N95⟩), ⟨_, rfl⟩, hW, hsame.mono (by decide) (by decide)⟩)
set_option maxRecDepth 65536 in
set_option maxHeartbeats 40000000 in
theorem comes_1 {Post : Tables → Env → Array Value → State → Outcome → State → Prop} (hpost : ∀ tb e args s v u, (limb_1_1.after args s (.returned v) u = true ∧ limb_1_2.after args s (.returned v) u = true ∧ True) → FrameEnd s (.returned v) u (Jvm.fieldLocs frame_1_writes args s ++ Jvm.arrayLocs frame_1_arrays args s ++ Jvm.staticLocs frame_1_statics s) 24 128 → Post tb e args s (.returned v) u) :
    ArmFor flags0 classFile x code maxLocals ret World_1 tables_1 room_1 Calls_1 rest_1 Pre_1 Post := by
  intro l hfl _ _ p e ha hc hk s m args below hf hA hF happ hP
  obtain ⟨hcalls, hrest, hpre⟩ := hP
  obtain ⟨-, -, -, hnamed, -, -, -, hat⟩ := (Spec.applies_iff hf).mp happ
  obtain ⟨hg, hn⟩ := and_e (Cond.before_iff.mp (show (Jvm.Cond.and given_1 narrow_1).before args s = true from hpre))
  obtain ⟨hg0, hg1⟩ := and_e hg
  obtain ⟨hv0, hr0⟩ := and_e hg1
  obtain ⟨hv1, hr1⟩ := and_e hr0
  obtain ⟨hv2, hr2⟩ := and_e hr1
  obtain ⟨w0, w1, w2, w3, rfl⟩ : ∃ w0 w1 w2 w3 : Value, args = #[w0, w1, w2, w3] := by
    have hs : args.size = 4 := by simpa [Cond.value, given_1] using hg0
    obtain ⟨L⟩ := args
    match L, hs with
    | [w0, w1, w2, w3], _ => exact ⟨w0, w1, w2, w3, rfl⟩
  have hw := fun d (hd : d ∈ tables_1) => atoms_spec (ws := Jvm.Cond.code x code maxLocals ret :: tables_1) hat d (List.mem_cons_of_mem _ hd)
  have hfit : Fit s := fun {y c} hc i hi => by
    obtain ⟨ha, rfl⟩ := Array.getElem?_eq_some_iff.mp hc
    have q := List.all_eq_true.mp ((Array.all_eq_true_iff_forall_mem.mp hF) _ (Array.getElem_mem ha)) i (List.mem_range.mpr hi)
    simpa [Array.getElem?_eq_getElem hi] using q
  obtain ⟨hsets, hown0⟩ := atoms_of _ (rest_1_c_eq ▸ (show rest_1_c.before _ s = true from hrest))
  obtain ⟨i0, ei0⟩ := is_v hv0
  obtain rfl : w0 = (.int i0) := Option.some.inj ei0
  obtain ⟨i1, ei1⟩ := is_v hv1
  obtain rfl : w1 = (.int i1) := Option.some.inj ei1
  obtain ⟨i2, ei2⟩ := is_v hv2
  obtain rfl : w2 = (.int i2) := Option.some.inj ei2
  obtain ⟨i3, ei3⟩ := is_v hr2
  obtain rfl : w3 = (.int i3) := Option.some.inj ei3
  have ncs := not_v (Cond.before_iff.mp (hsets _ (List.mem_of_getElem? (i := 2) rfl)))
  obtain ⟨cs, ecs⟩ := is_v (Cond.before_iff.mp (hsets _ (List.mem_of_getElem? (i := 1) rfl)))
  have Scs : Sta s s.heap "java/lang/String" "COMPACT_STRINGS" "Z" (.int cs) := Sta.start ecs (Or.inl (hsets _ (List.mem_of_getElem? (i := 0) rfl)))
  have hcs : ¬ (cs = (0 : Int32)) := gotF (Cond.eq_ints ecs (Term.int_eval (0))) ncs
  obtain ⟨n, o, h1, h2, h3, _, L, rfl, ⟨rfl, N⟩, hq⟩ := rm_law l s _ hw tables_1 i0 i1 i2 i3 cs s.heap s.heap.size (Nat.le_refl _) Scs (Old.start s) hcs p e ha hc hk s m _ below hf ((Spec.applies_iff_loose hf).mp happ).1 ⟨rfl, State.Warmed39.refl s, rfl⟩ trivial
  refine ⟨n, _, h1, h2, h3, hpost _ _ _ _ _ _ ⟨Cond.after_iff.mpr rfl, Cond.after_iff.mpr (eq_i res_at (Term.int_eval (1)) rfl), trivial⟩ ⟨hq.1, hq.2.1, (hq.2.2.sift fun y hy => Or.inr (N y hy)).mono (by decide) (by decide)⟩⟩
theorem main_1_1 : Claimed_1_1 := comes_1 fun _ _ _ _ _ _ h hF => ⟨h.1, hF⟩
theorem main_1_2 : Claimed_1_2 := comes_1 fun _ _ _ _ _ _ h hF => ⟨h.2.1, hF⟩
end Jvm.Pilot.@@N@@
namespace Jvm.Pilot.@@N@@
open Jvm Jvm.ClassFile Sem Op Lib Jvm.Free Jvm.Stand Jvm.Pilot.@@N@@.Jvm.D
/-! MADE BY PROGRAM (witnessworld.py) out of the Statement's table words and the real class files: 19 classes; the members and pool entries that the words name. The judged class is class 1, her method 1. -/
namespace start1
open Jvm.ClassFile
def u (s : String) : CpInfo := .utf8 (stringToUtf16 s)
/-- a pool by its gaps: so many unusable entries, then the entry; so many at the end -/
def gap : Nat → List CpInfo → List CpInfo
  | 0, r => r
  | n + 1, r => .unusable :: gap n r
def poolList (es : List (Nat × CpInfo)) (last : Nat) : List CpInfo := es.foldr (fun e r => gap e.1 (e.2 :: r)) (gap last [])
def pool (es : List (Nat × CpInfo)) (last : Nat) : Array CpInfo := ⟨poolList es last⟩
def fileOf (pool : Array CpInfo) (this : Nat) (attrs : Array Attribute := #[]) (ms : Array MethodInfo := #[]) (fl : Nat := 33) (sup : Nat := 0) (ifs : Array Nat := #[]) (fds : Array FieldInfo := #[]) : ClassFile where
  minorVersion := 0
  majorVersion := 65
  constantPool := pool
  accessFlags := fl
  thisClass := this
  superClass := sup
  interfaces := ifs
  fields := fds
  methods := ms
  attributes := attrs
def plain (name : String) (sup : Option ClassId) : Class where
  name := name
  kind := .ordinary
  loader := none
  accessFlags := 33
  super := sup
  interfaces := #[]
  cf := none
  fields := #[]
  methods := #[]
  instanceTypes := #[]
  staticTypes := #[]
  resolved := #[]
  callSites := []
  init := .initialized
  statics := none
  mirror := none

def pool0 : Array CpInfo := pool [(5, u "<init>"), (0, u "()V"), (1, .class_ 10), (1, u "java/lang/Object")] 113

def k0c0 : Code := { maxStack := 0, maxLocals := 1, code := object_method_1_code, exceptionTable := #[], attributes := #[] }
def k0m0 : Method := { name := "<init>", desc := "()V", sig := { parameters := [], returnType := none }, accessFlags := 1, code := some k0c0 }
/-- java/lang/Object -/
def k0 : Class := { plain "java/lang/Object" none with
  accessFlags := 33
  interfaces := #[]
  cf := some (fileOf pool0 8 #[] #[{ accessFlags := 1, nameIndex := 5, descriptorIndex := 6, attributes := #[] }] 33 0 #[] #[])
  fields := #[]
  methods := #[k0m0]
  instanceTypes := #[]
  staticTypes := #[]
  resolved := Array.replicate 124 none
  statics := none }

def pool1 : Array CpInfo := pool [(2, .class_ 4), (1, u "java/lang/Object"), (0, u "<init>"), (0, u "()V"), (0, .methodref 8 9), (0, .class_ 10), (0, .nameAndType 11 12), (0, u "java/lang/String"), (0, u "valueOf"), (0, u "(C)Ljava/lang/String;"), (0, .methodref 14 15), (0, .class_ 16), (0, .nameAndType 17 18), (0, u "java/lang/Math"), (0, u "min"), (0, u "(II)I"), (0, .methodref 14 20), (0, .nameAndType 21 18), (0, u "max"), (0, .class_ 23), (0, u "com/example/shrike/shrike/model/Judgment"), (0, .methodref 22 25), (0, .nameAndType 5 26), (0, u "(Ljava/lang/String;Ljava/lang/String;I)V"), (0, .methodref 22 28), (0, .nameAndType 29 30), (0, u "isRelevant"), (0, u "()Z"), (0, .class_ 32), (0, u "com/example/shrike/shrike/model/JudgmentIsRelevantPinLaw"), (2, u "law"), (0, u "(IIII)Z")] 3

def k1m0 : Method := { name := "<init>", desc := "()V", sig := { parameters := [], returnType := none }, accessFlags := 1, code := none }
def k1c1 : Code := { maxStack := 5, maxLocals := 15, code := code, exceptionTable := #[], attributes := #[] }
def k1m1 : Method := { name := "law", desc := "(IIII)Z", sig := { parameters := [.int, .int, .int, .int], returnType := some .boolean }, accessFlags := 9, code := some k1c1 }
/-- com/example/shrike/shrike/model/JudgmentIsRelevantPinLaw -/
def k1 : Class := { plain "com/example/shrike/shrike/model/JudgmentIsRelevantPinLaw" (some 0) with
  accessFlags := 49
  interfaces := #[]
  cf := some (fileOf pool1 31 #[] #[{ accessFlags := 1, nameIndex := 5, descriptorIndex := 6, attributes := #[] }, { accessFlags := 9, nameIndex := 35, descriptorIndex := 36, attributes := #[] }] 49 2 #[] #[])
  fields := #[]
  methods := #[k1m0, k1m1]
  instanceTypes := #[]
  staticTypes := #[]
  resolved := Array.replicate 40 none
  statics := none }

def pool2 : Array CpInfo := pool [(1, .class_ 2), (0, u "java/io/Serializable"), (0, .class_ 4), (0, u "java/lang/Object")] 2

/-- java/io/Serializable -/
def k2 : Class := { plain "java/io/Serializable" (some 0) with
  accessFlags := 1537
  interfaces := #[]
  cf := some (fileOf pool2 1 #[] #[] 1537 3 #[] #[])
  fields := #[]
  methods := #[]
  instanceTypes := #[]
  staticTypes := #[]
  resolved := Array.replicate 7 none
  statics := none }

def pool3 : Array CpInfo := pool [(1, .class_ 2), (0, u "java/lang/Comparable"), (0, .class_ 4), (0, u "java/lang/Object")] 7

/-- java/lang/Comparable -/
def k3 : Class := { plain "java/lang/Comparable" (some 0) with
  accessFlags := 1537
  interfaces := #[]
  cf := some (fileOf pool3 1 #[] #[] 1537 3 #[] #[])
  fields := #[]
  methods := #[]
  instanceTypes := #[]
  staticTypes := #[]
  resolved := Array.replicate 12 none
  statics := none }

def pool4 : Array CpInfo := pool [(2, .class_ 4), (1, u "java/lang/CharSequence"), (42, .class_ 48), (0, u "java/lang/CharSequence$1CodePointIterator"), (10, .class_ 60), (0, u "java/lang/CharSequence$1CharIterator"), (5, .class_ 67), (0, u "java/lang/Object")] 63

/-- java/lang/CharSequence -/
def k4 : Class := { plain "java/lang/CharSequence" (some 0) with
  accessFlags := 1537
  interfaces := #[]
  cf := some (fileOf pool4 2 #[.nestMembers #[47, 59]] #[] 1537 66 #[] #[])
  fields := #[]
  methods := #[]
  instanceTypes := #[]
  staticTypes := #[]
  resolved := Array.replicate 131 none
  statics := none }

def pool5 : Array CpInfo := pool [(1, .class_ 2), (0, u "java/lang/constant/Constable"), (0, .class_ 4), (0, u "java/lang/Object")] 6

/-- java/lang/constant/Constable -/
def k5 : Class := { plain "java/lang/constant/Constable" (some 0) with
  accessFlags := 1537
  interfaces := #[]
  cf := some (fileOf pool5 1 #[] #[] 1537 3 #[] #[])
  fields := #[]
  methods := #[]
  instanceTypes := #[]
  staticTypes := #[]
  resolved := Array.replicate 11 none
  statics := none }

def pool6 : Array CpInfo := pool [(1, .class_ 2), (0, u "java/lang/constant/ConstantDesc"), (0, .class_ 4), (0, u "java/lang/Object")] 32

/-- java/lang/constant/ConstantDesc -/
def k6 : Class := { plain "java/lang/constant/ConstantDesc" (some 0) with
  accessFlags := 1537
  interfaces := #[]
  cf := some (fileOf pool6 1 #[] #[] 1537 3 #[] #[])
  fields := #[]
  methods := #[]
  instanceTypes := #[]
  staticTypes := #[]
  resolved := Array.replicate 37 none
  statics := none }

def pool7 : Array CpInfo := pool [(1, .methodref 2 3), (0, .class_ 4), (0, .nameAndType 5 6), (0, u "java/lang/Object"), (0, u "<init>"), (0, u "()V"), (2, .fieldref 10 11), (0, .class_ 12), (0, .nameAndType 13 14), (0, u "java/lang/String"), (0, u "value"), (0, u "[B"), (0, .fieldref 10 16), (0, .nameAndType 17 18), (0, u "coder"), (0, u "B"), (2, u "hash"), (0, u "I"), (2, u "hashIsZero"), (0, u "Z"), (11, .fieldref 10 39), (0, .nameAndType 40 26), (0, u "COMPACT_STRINGS"), (12, u "toBytes"), (53, .class_ 109), (1, u "java/lang/StringLatin1"), (99, .methodref 10 210), (0, .nameAndType 5 211), (0, u "([BB)V"), (157, u "(C)Z"), (205, .class_ 576), (0, u "java/lang/CharSequence"), (22, u "CASE_INSENSITIVE_ORDER"), (0, u "Ljava/util/Comparator;"), (181, u "valueOf"), (0, u "(C)Ljava/lang/String;"), (231, .methodref 107 1016), (0, .nameAndType 1017 369), (0, u "canEncode"), (0, .methodref 107 1019), (0, .nameAndType 53 1020), (0, u "(C)[B"), (80, u "serialPersistentFields"), (0, u "[Ljava/io/ObjectStreamField;"), (0, .class_ 1104), (0, u "java/lang/String$CaseInsensitiveComparator"), (1, .class_ 1107), (0, u "java/io/Serializable"), (0, .class_ 1109), (0, u "java/lang/Comparable"), (0, .class_ 1111), (0, u "java/lang/constant/Constable"), (0, .class_ 1113), (0, u "java/lang/constant/ConstantDesc"), (2, u "serialVersionUID"), (0, u "J"), (3, u "REPL"), (0, u "C"), (2, u "LATIN1"), (1, u "UTF16")] 323

def k7m0 : Method := { name := "<init>", desc := "()V", sig := { parameters := [], returnType := none }, accessFlags := 1, code := none }
def k7c1 : Code := { maxStack := 4, maxLocals := 1, code := jdk_42_method_139_code, exceptionTable := #[], attributes := #[] }
def k7m1 : Method := { name := "valueOf", desc := "(C)Ljava/lang/String;", sig := { parameters := [.char], returnType := some (.object "java/lang/String") }, accessFlags := 9, code := some k7c1 }
def k7c2 : Code := { maxStack := 2, maxLocals := 3, code := jdk_42_method_151_code, exceptionTable := #[], attributes := #[] }
def k7m2 : Method := { name := "<init>", desc := "([BB)V", sig := { parameters := [(.array .byte), .byte], returnType := none }, accessFlags := 0, code := some k7c2 }
/-- java/lang/String -/
def k7 : Class := { plain "java/lang/String" (some 0) with
  accessFlags := 49
  interfaces := #[2, 3, 4, 5, 6]
  cf := some (fileOf pool7 10 #[.nestMembers #[1103]] #[{ accessFlags := 1, nameIndex := 5, descriptorIndex := 6, attributes := #[] }, { accessFlags := 9, nameIndex := 782, descriptorIndex := 783, attributes := #[] }, { accessFlags := 0, nameIndex := 5, descriptorIndex := 211, attributes := #[] }] 49 2 #[1106, 1108, 575, 1110, 1112] #[{ accessFlags := 18, nameIndex := 13, descriptorIndex := 14, attributes := #[] }, { accessFlags := 18, nameIndex := 17, descriptorIndex := 18, attributes := #[] }, { accessFlags := 2, nameIndex := 21, descriptorIndex := 22, attributes := #[] }, { accessFlags := 2, nameIndex := 25, descriptorIndex := 26, attributes := #[] }, { accessFlags := 26, nameIndex := 1116, descriptorIndex := 1117, attributes := #[] }, { accessFlags := 24, nameIndex := 40, descriptorIndex := 26, attributes := #[] }, { accessFlags := 26, nameIndex := 1101, descriptorIndex := 1102, attributes := #[] }, { accessFlags := 26, nameIndex := 1121, descriptorIndex := 1122, attributes := #[] }, { accessFlags := 25, nameIndex := 599, descriptorIndex := 600, attributes := #[] }, { accessFlags := 24, nameIndex := 1125, descriptorIndex := 18, attributes := #[] }, { accessFlags := 24, nameIndex := 1127, descriptorIndex := 18, attributes := #[] }])
  fields := #[{ name := "value", type := (.array .byte), accessFlags := 18, slot := 0, constantValue := 0 }, { name := "coder", type := .byte, accessFlags := 18, slot := 1, constantValue := 0 }, { name := "hash", type := .int, accessFlags := 2, slot := 2, constantValue := 0 }, { name := "hashIsZero", type := .boolean, accessFlags := 2, slot := 3, constantValue := 0 }, { name := "serialVersionUID", type := .long, accessFlags := 26, slot := 0, constantValue := 0 }, { name := "COMPACT_STRINGS", type := .boolean, accessFlags := 24, slot := 1, constantValue := 0 }, { name := "serialPersistentFields", type := (.array (.object "java/io/ObjectStreamField")), accessFlags := 26, slot := 2, constantValue := 0 }, { name := "REPL", type := .char, accessFlags := 26, slot := 3, constantValue := 0 }, { name := "CASE_INSENSITIVE_ORDER", type := (.object "java/util/Comparator"), accessFlags := 25, slot := 4, constantValue := 0 }, { name := "LATIN1", type := .byte, accessFlags := 24, slot := 5, constantValue := 0 }, { name := "UTF16", type := .byte, accessFlags := 24, slot := 6, constantValue := 0 }]
  methods := #[k7m0, k7m1, k7m2]
  instanceTypes := #[(.array .byte), .byte, .int, .boolean]
  staticTypes := #[.long, .boolean, (.array (.object "java/io/ObjectStreamField")), .char, (.object "java/util/Comparator"), .byte, .byte]
  resolved := Array.replicate 1451 none
  statics := some 0 }

def pool8 : Array CpInfo := pool [(4, .class_ 6), (1, u "java/lang/Object"), (0, u "<init>"), (0, u "()V"), (5, .class_ 16), (1, u "java/lang/StringLatin1"), (73, u "canEncode"), (14, u "(C)Z"), (15, u "$assertionsDisabled"), (0, u "Z"), (98, .class_ 223), (1, u "java/lang/StringLatin1$LinesSpliterator"), (156, u "toBytes"), (1, u "(C)[B"), (7, .class_ 391), (0, u "java/lang/StringLatin1$CharsSpliterator")] 3

def k8m0 : Method := { name := "<init>", desc := "()V", sig := { parameters := [], returnType := none }, accessFlags := 0, code := none }
def k8c1 : Code := { maxStack := 2, maxLocals := 1, code := jdk_43_method_3_code, exceptionTable := #[], attributes := #[] }
def k8m1 : Method := { name := "canEncode", desc := "(C)Z", sig := { parameters := [.char], returnType := some .boolean }, accessFlags := 9, code := some k8c1 }
def k8c2 : Code := { maxStack := 4, maxLocals := 1, code := jdk_43_method_46_code, exceptionTable := #[], attributes := #[] }
def k8m2 : Method := { name := "toBytes", desc := "(C)[B", sig := { parameters := [.char], returnType := some (.array .byte) }, accessFlags := 9, code := some k8c2 }
/-- java/lang/StringLatin1 -/
def k8 : Class := { plain "java/lang/StringLatin1" (some 0) with
  accessFlags := 48
  interfaces := #[]
  cf := some (fileOf pool8 14 #[.nestMembers #[390, 221]] #[{ accessFlags := 0, nameIndex := 7, descriptorIndex := 8, attributes := #[] }, { accessFlags := 9, nameIndex := 90, descriptorIndex := 105, attributes := #[] }, { accessFlags := 9, nameIndex := 380, descriptorIndex := 382, attributes := #[] }] 48 4 #[] #[{ accessFlags := 4120, nameIndex := 121, descriptorIndex := 122, attributes := #[] }])
  fields := #[{ name := "$assertionsDisabled", type := .boolean, accessFlags := 4120, slot := 0, constantValue := 0 }]
  methods := #[k8m0, k8m1, k8m2]
  instanceTypes := #[]
  staticTypes := #[.boolean]
  resolved := Array.replicate 395 none
  statics := none }

def pool9 : Array CpInfo := pool [(1, .class_ 2), (0, u "java/lang/Math"), (1, .class_ 6), (1, u "java/lang/Object"), (0, u "<init>"), (0, u "()V"), (89, .class_ 100), (1, u "java/lang/Math$RandomNumberGeneratorHolder"), (71, u "negativeZeroFloatBits"), (0, u "J"), (2, u "negativeZeroDoubleBits"), (21, u "max"), (2, u "min"), (43, u "$assertionsDisabled"), (0, u "Z"), (88, u "(II)I"), (2, u "twoToTheDoubleScaleDown"), (0, u "D"), (4, u "twoToTheDoubleScaleUp"), (9, u "E"), (3, u "PI"), (2, u "TAU"), (2, u "DEGREES_TO_RADIANS"), (0, u "RADIANS_TO_DEGREES")] 94

def k9m0 : Method := { name := "<init>", desc := "()V", sig := { parameters := [], returnType := none }, accessFlags := 2, code := none }
def k9c1 : Code := { maxStack := 2, maxLocals := 2, code := jdk_29_method_65_code, exceptionTable := #[], attributes := #[] }
def k9m1 : Method := { name := "max", desc := "(II)I", sig := { parameters := [.int, .int], returnType := some .int }, accessFlags := 9, code := some k9c1 }
def k9c2 : Code := { maxStack := 2, maxLocals := 2, code := jdk_29_method_69_code, exceptionTable := #[], attributes := #[] }
def k9m2 : Method := { name := "min", desc := "(II)I", sig := { parameters := [.int, .int], returnType := some .int }, accessFlags := 9, code := some k9c2 }
/-- java/lang/Math -/
def k9 : Class := { plain "java/lang/Math" (some 0) with
  accessFlags := 49
  interfaces := #[]
  cf := some (fileOf pool9 1 #[.nestMembers #[98]] #[{ accessFlags := 2, nameIndex := 7, descriptorIndex := 8, attributes := #[] }, { accessFlags := 9, nameIndex := 198, descriptorIndex := 335, attributes := #[] }, { accessFlags := 9, nameIndex := 201, descriptorIndex := 335, attributes := #[] }] 49 4 #[] #[{ accessFlags := 25, nameIndex := 354, descriptorIndex := 339, attributes := #[] }, { accessFlags := 25, nameIndex := 358, descriptorIndex := 339, attributes := #[] }, { accessFlags := 25, nameIndex := 361, descriptorIndex := 339, attributes := #[] }, { accessFlags := 26, nameIndex := 364, descriptorIndex := 339, attributes := #[] }, { accessFlags := 26, nameIndex := 365, descriptorIndex := 339, attributes := #[] }, { accessFlags := 26, nameIndex := 172, descriptorIndex := 173, attributes := #[] }, { accessFlags := 26, nameIndex := 176, descriptorIndex := 173, attributes := #[] }, { accessFlags := 8, nameIndex := 344, descriptorIndex := 339, attributes := #[] }, { accessFlags := 8, nameIndex := 338, descriptorIndex := 339, attributes := #[] }, { accessFlags := 4120, nameIndex := 245, descriptorIndex := 246, attributes := #[] }])
  fields := #[{ name := "E", type := .double, accessFlags := 25, slot := 0, constantValue := 0 }, { name := "PI", type := .double, accessFlags := 25, slot := 1, constantValue := 0 }, { name := "TAU", type := .double, accessFlags := 25, slot := 2, constantValue := 0 }, { name := "DEGREES_TO_RADIANS", type := .double, accessFlags := 26, slot := 3, constantValue := 0 }, { name := "RADIANS_TO_DEGREES", type := .double, accessFlags := 26, slot := 4, constantValue := 0 }, { name := "negativeZeroFloatBits", type := .long, accessFlags := 26, slot := 5, constantValue := 0 }, { name := "negativeZeroDoubleBits", type := .long, accessFlags := 26, slot := 6, constantValue := 0 }, { name := "twoToTheDoubleScaleUp", type := .double, accessFlags := 8, slot := 7, constantValue := 0 }, { name := "twoToTheDoubleScaleDown", type := .double, accessFlags := 8, slot := 8, constantValue := 0 }, { name := "$assertionsDisabled", type := .boolean, accessFlags := 4120, slot := 9, constantValue := 0 }]
  methods := #[k9m0, k9m1, k9m2]
  instanceTypes := #[]
  staticTypes := #[.double, .double, .double, .double, .double, .long, .long, .double, .double, .boolean]
  resolved := Array.replicate 460 none
  statics := none }

def pool10 : Array CpInfo := pool [(1, .methodref 2 3), (0, .class_ 4), (0, .nameAndType 5 6), (0, u "java/lang/Object"), (0, u "<init>"), (0, u "()V"), (0, .class_ 8), (0, u "java/lang/Record")] 13

def k10c0 : Code := { maxStack := 1, maxLocals := 1, code := jdk_30_method_1_code, exceptionTable := #[], attributes := #[] }
def k10m0 : Method := { name := "<init>", desc := "()V", sig := { parameters := [], returnType := none }, accessFlags := 4, code := some k10c0 }
/-- java/lang/Record -/
def k10 : Class := { plain "java/lang/Record" (some 0) with
  accessFlags := 1057
  interfaces := #[]
  cf := some (fileOf pool10 7 #[] #[{ accessFlags := 4, nameIndex := 5, descriptorIndex := 6, attributes := #[] }] 1057 2 #[] #[])
  fields := #[]
  methods := #[k10m0]
  instanceTypes := #[]
  staticTypes := #[]
  resolved := Array.replicate 22 none
  statics := none }

def pool11 : Array CpInfo := pool [(1, .methodref 2 3), (0, .class_ 4), (0, .nameAndType 5 6), (0, u "java/lang/Record"), (0, u "<init>"), (0, u "()V"), (0, .fieldref 8 9), (0, .class_ 10), (0, .nameAndType 11 12), (0, u "com/example/shrike/shrike/model/Judgment"), (0, u "topic"), (0, u "Ljava/lang/String;"), (0, .fieldref 8 14), (0, .nameAndType 15 12), (0, u "docno"), (0, .fieldref 8 17), (0, .nameAndType 18 19), (0, u "relevance"), (0, u "I"), (12, u "(Ljava/lang/String;Ljava/lang/String;I)V"), (3, u "isRelevant"), (0, u "()Z")] 26

def k11c0 : Code := { maxStack := 2, maxLocals := 4, code := prog_59_method_1_code, exceptionTable := #[], attributes := #[] }
def k11m0 : Method := { name := "<init>", desc := "(Ljava/lang/String;Ljava/lang/String;I)V", sig := { parameters := [(.object "java/lang/String"), (.object "java/lang/String"), .int], returnType := none }, accessFlags := 1, code := some k11c0 }
def k11c1 : Code := { maxStack := 2, maxLocals := 1, code := prog_59_method_2_code, exceptionTable := #[], attributes := #[] }
def k11m1 : Method := { name := "isRelevant", desc := "()Z", sig := { parameters := [], returnType := some .boolean }, accessFlags := 1, code := some k11c1 }
/-- com/example/shrike/shrike/model/Judgment -/
def k11 : Class := { plain "com/example/shrike/shrike/model/Judgment" (some 10) with
  accessFlags := 49
  interfaces := #[]
  cf := some (fileOf pool11 8 #[] #[{ accessFlags := 1, nameIndex := 5, descriptorIndex := 32, attributes := #[] }, { accessFlags := 1, nameIndex := 36, descriptorIndex := 37, attributes := #[] }] 49 2 #[] #[{ accessFlags := 18, nameIndex := 11, descriptorIndex := 12, attributes := #[] }, { accessFlags := 18, nameIndex := 15, descriptorIndex := 12, attributes := #[] }, { accessFlags := 18, nameIndex := 18, descriptorIndex := 19, attributes := #[] }])
  fields := #[{ name := "topic", type := (.object "java/lang/String"), accessFlags := 18, slot := 0, constantValue := 0 }, { name := "docno", type := (.object "java/lang/String"), accessFlags := 18, slot := 1, constantValue := 0 }, { name := "relevance", type := .int, accessFlags := 18, slot := 2, constantValue := 0 }]
  methods := #[k11m0, k11m1]
  instanceTypes := #[(.object "java/lang/String"), (.object "java/lang/String"), .int]
  staticTypes := #[]
  resolved := Array.replicate 64 none
  statics := none }

def pool12 : Array CpInfo := pool [(2, .class_ 4), (1, u "java/lang/Object"), (0, u "<init>"), (0, u "()V"), (17, .class_ 26), (1, u "jdk/internal/util/Preconditions"), (28, .class_ 56), (0, u "jdk/internal/util/Preconditions$4"), (57, .class_ 115), (0, u "jdk/internal/util/Preconditions$1"), (7, u "SIOOBE_FORMATTER"), (0, u "Ljava/util/function/BiFunction;"), (0, .class_ 126), (0, u "jdk/internal/util/Preconditions$2"), (3, u "AIOOBE_FORMATTER"), (0, .class_ 132), (0, u "jdk/internal/util/Preconditions$3"), (3, u "IOOBE_FORMATTER")] 57

def k12m0 : Method := { name := "<init>", desc := "()V", sig := { parameters := [], returnType := none }, accessFlags := 1, code := none }
/-- jdk/internal/util/Preconditions -/
def k12 : Class := { plain "jdk/internal/util/Preconditions" (some 0) with
  accessFlags := 33
  interfaces := #[]
  cf := some (fileOf pool12 24 #[.nestMembers #[55, 131, 125, 114]] #[{ accessFlags := 1, nameIndex := 5, descriptorIndex := 6, attributes := #[] }] 33 2 #[] #[{ accessFlags := 25, nameIndex := 123, descriptorIndex := 124, attributes := #[] }, { accessFlags := 25, nameIndex := 130, descriptorIndex := 124, attributes := #[] }, { accessFlags := 25, nameIndex := 136, descriptorIndex := 124, attributes := #[] }])
  fields := #[{ name := "SIOOBE_FORMATTER", type := (.object "java/util/function/BiFunction"), accessFlags := 25, slot := 0, constantValue := 0 }, { name := "AIOOBE_FORMATTER", type := (.object "java/util/function/BiFunction"), accessFlags := 25, slot := 1, constantValue := 0 }, { name := "IOOBE_FORMATTER", type := (.object "java/util/function/BiFunction"), accessFlags := 25, slot := 2, constantValue := 0 }]
  methods := #[k12m0]
  instanceTypes := #[]
  staticTypes := #[(.object "java/util/function/BiFunction"), (.object "java/util/function/BiFunction"), (.object "java/util/function/BiFunction")]
  resolved := Array.replicate 194 none
  statics := some 1 }

def pool13 : Array CpInfo := pool [(9, u "<init>"), (6, .class_ 18), (1, u "java/lang/Object"), (0, u "()V"), (1, .class_ 23), (1, u "jdk/internal/util/ArraysSupport"), (0, u "LOG2_ARRAY_LONG_INDEX_SCALE"), (0, u "I"), (2, u "U"), (0, u "Ljdk/internal/misc/Unsafe;"), (8, u "BIG_ENDIAN"), (0, u "Z"), (8, u "LOG2_BYTE_BIT_SIZE"), (4, u "LOG2_ARRAY_INT_INDEX_SCALE"), (54, u "JLA"), (0, u "Ljdk/internal/access/JavaLangAccess;"), (11, u "LOG2_ARRAY_BOOLEAN_INDEX_SCALE"), (9, u "LOG2_ARRAY_BYTE_INDEX_SCALE"), (5, u "LOG2_ARRAY_CHAR_INDEX_SCALE"), (5, u "LOG2_ARRAY_SHORT_INDEX_SCALE"), (18, u "LOG2_ARRAY_FLOAT_INDEX_SCALE"), (24, u "LOG2_ARRAY_DOUBLE_INDEX_SCALE"), (89, u "T_BOOLEAN"), (2, u "T_CHAR"), (1, u "T_FLOAT"), (1, u "T_DOUBLE"), (1, u "T_BYTE"), (1, u "T_SHORT"), (1, u "T_INT"), (1, u "T_LONG"), (1, u "SOFT_MAX_ARRAY_LENGTH")] 83

def k13m0 : Method := { name := "<init>", desc := "()V", sig := { parameters := [], returnType := none }, accessFlags := 2, code := none }
/-- jdk/internal/util/ArraysSupport -/
def k13 : Class := { plain "jdk/internal/util/ArraysSupport" (some 0) with
  accessFlags := 33
  interfaces := #[]
  cf := some (fileOf pool13 21 #[] #[{ accessFlags := 2, nameIndex := 9, descriptorIndex := 19, attributes := #[] }] 33 16 #[] #[{ accessFlags := 24, nameIndex := 28, descriptorIndex := 29, attributes := #[] }, { accessFlags := 26, nameIndex := 38, descriptorIndex := 39, attributes := #[] }, { accessFlags := 25, nameIndex := 121, descriptorIndex := 25, attributes := #[] }, { accessFlags := 25, nameIndex := 131, descriptorIndex := 25, attributes := #[] }, { accessFlags := 25, nameIndex := 137, descriptorIndex := 25, attributes := #[] }, { accessFlags := 25, nameIndex := 143, descriptorIndex := 25, attributes := #[] }, { accessFlags := 25, nameIndex := 53, descriptorIndex := 25, attributes := #[] }, { accessFlags := 25, nameIndex := 24, descriptorIndex := 25, attributes := #[] }, { accessFlags := 25, nameIndex := 162, descriptorIndex := 25, attributes := #[] }, { accessFlags := 25, nameIndex := 187, descriptorIndex := 25, attributes := #[] }, { accessFlags := 26, nameIndex := 48, descriptorIndex := 25, attributes := #[] }, { accessFlags := 25, nameIndex := 277, descriptorIndex := 25, attributes := #[] }, { accessFlags := 25, nameIndex := 280, descriptorIndex := 25, attributes := #[] }, { accessFlags := 25, nameIndex := 282, descriptorIndex := 25, attributes := #[] }, { accessFlags := 25, nameIndex := 284, descriptorIndex := 25, attributes := #[] }, { accessFlags := 25, nameIndex := 286, descriptorIndex := 25, attributes := #[] }, { accessFlags := 25, nameIndex := 288, descriptorIndex := 25, attributes := #[] }, { accessFlags := 25, nameIndex := 290, descriptorIndex := 25, attributes := #[] }, { accessFlags := 25, nameIndex := 292, descriptorIndex := 25, attributes := #[] }, { accessFlags := 26, nameIndex := 108, descriptorIndex := 109, attributes := #[] }, { accessFlags := 25, nameIndex := 294, descriptorIndex := 25, attributes := #[] }])
  fields := #[{ name := "U", type := (.object "jdk/internal/misc/Unsafe"), accessFlags := 24, slot := 0, constantValue := 0 }, { name := "BIG_ENDIAN", type := .boolean, accessFlags := 26, slot := 1, constantValue := 0 }, { name := "LOG2_ARRAY_BOOLEAN_INDEX_SCALE", type := .int, accessFlags := 25, slot := 2, constantValue := 0 }, { name := "LOG2_ARRAY_BYTE_INDEX_SCALE", type := .int, accessFlags := 25, slot := 3, constantValue := 0 }, { name := "LOG2_ARRAY_CHAR_INDEX_SCALE", type := .int, accessFlags := 25, slot := 4, constantValue := 0 }, { name := "LOG2_ARRAY_SHORT_INDEX_SCALE", type := .int, accessFlags := 25, slot := 5, constantValue := 0 }, { name := "LOG2_ARRAY_INT_INDEX_SCALE", type := .int, accessFlags := 25, slot := 6, constantValue := 0 }, { name := "LOG2_ARRAY_LONG_INDEX_SCALE", type := .int, accessFlags := 25, slot := 7, constantValue := 0 }, { name := "LOG2_ARRAY_FLOAT_INDEX_SCALE", type := .int, accessFlags := 25, slot := 8, constantValue := 0 }, { name := "LOG2_ARRAY_DOUBLE_INDEX_SCALE", type := .int, accessFlags := 25, slot := 9, constantValue := 0 }, { name := "LOG2_BYTE_BIT_SIZE", type := .int, accessFlags := 26, slot := 10, constantValue := 0 }, { name := "T_BOOLEAN", type := .int, accessFlags := 25, slot := 11, constantValue := 0 }, { name := "T_CHAR", type := .int, accessFlags := 25, slot := 12, constantValue := 0 }, { name := "T_FLOAT", type := .int, accessFlags := 25, slot := 13, constantValue := 0 }, { name := "T_DOUBLE", type := .int, accessFlags := 25, slot := 14, constantValue := 0 }, { name := "T_BYTE", type := .int, accessFlags := 25, slot := 15, constantValue := 0 }, { name := "T_SHORT", type := .int, accessFlags := 25, slot := 16, constantValue := 0 }, { name := "T_INT", type := .int, accessFlags := 25, slot := 17, constantValue := 0 }, { name := "T_LONG", type := .int, accessFlags := 25, slot := 18, constantValue := 0 }, { name := "JLA", type := (.object "jdk/internal/access/JavaLangAccess"), accessFlags := 26, slot := 19, constantValue := 0 }, { name := "SOFT_MAX_ARRAY_LENGTH", type := .int, accessFlags := 25, slot := 20, constantValue := 0 }]
  methods := #[k13m0]
  instanceTypes := #[]
  staticTypes := #[(.object "jdk/internal/misc/Unsafe"), .boolean, .int, .int, .int, .int, .int, .int, .int, .int, .int, .int, .int, .int, .int, .int, .int, .int, .int, (.object "jdk/internal/access/JavaLangAccess"), .int]
  resolved := Array.replicate 378 none
  statics := none }

def pool14 : Array CpInfo := pool [(1, u "java/lang/Cloneable"), (0, .class_ 1), (0, u "java/lang/Object"), (0, .class_ 3)] 3

/-- java/lang/Cloneable -/
def k14 : Class := { plain "java/lang/Cloneable" (some 0) with
  accessFlags := 1537
  interfaces := #[]
  cf := some (fileOf pool14 2 #[] #[] 1537 4 #[] #[])
  fields := #[]
  methods := #[]
  instanceTypes := #[]
  staticTypes := #[]
  resolved := Array.replicate 8 none
  statics := none }

/-- the primitive byte -/
def k15 : Class := { plain "byte" none with kind := .primitive 'B', accessFlags := 0x411 }
/-- [B -/
def k16 : Class := { plain "[B" (some 0) with kind := .array 15 .byte, interfaces := #[14, 2], accessFlags := 1041 }

/-- the primitive int -/
def k17 : Class := { plain "int" none with kind := .primitive 'I', accessFlags := 0x411 }
/-- [I -/
def k18 : Class := { plain "[I" (some 0) with kind := .array 17 .int, interfaces := #[14, 2], accessFlags := 1041 }

def heap : Heap := #[{ cls := 7, slots := #[.long 0, .int 1, .null, .int 0, .null, .int 0, .int 0], vm := .statics 7 },
  { cls := 12, slots := #[.null, .null, .null], vm := .statics 12 }]
def classes : Array Class := #[k0, k1, k2, k3, k4, k5, k6, k7, k8, k9, k10, k11, k12, k13, k14, k15, k16, k17, k18]
def interned : List (Array UInt16 × Addr) := []
def slotsUsed : Nat := 10
def theMethod : MethodId := ⟨1, 1⟩
def args0 : Array Value := #[.int 1, .int 2, .int 65, .int 66]
def aboutOver (below : List Frame) : State where
  vm := { classes := classes, interned := interned.toArray }
  heap := heap
  slotsUsed := slotsUsed
  threads := #[{ frames := .invoking theMethod args0 :: below }]
def below0 : List Frame := [.native { method := ⟨0, 0⟩, args := #[] }]
def about1 : State := aboutOver below0
def p0 : Program := .bare "" "" ""
def e0 : Env := launch0.env 0 0 0
theorem w_frames : about1.frames = Frame.invoking theMethod args0 :: below0 := rfl
set_option maxRecDepth 65536 in
theorem w_args : argsFit about1.vm theMethod args0 = true := by decide +kernel
set_option maxRecDepth 65536 in
theorem w_heap : heapFits about1 = true := by decide +kernel
set_option maxRecDepth 65536 in
theorem w_runnable : about1.curStatus? = some .runnable := by decide +kernel
set_option maxRecDepth 65536 in
theorem w_alone : about1.alone = true := by decide +kernel
set_option maxRecDepth 65536 in
theorem w_named : about1.methodNamed? x = some theMethod := by decide +kernel
set_option maxRecDepth 65536 in
theorem w_hears : about1.hears theMethod below0 = true := by decide +kernel
set_option maxRecDepth 65536 in
theorem w_ripe : about1.ripe theMethod args0 below0 = true := by decide +kernel
theorem w_running : about1.status = .running := rfl
set_option maxRecDepth 65536 in
theorem w_room : about1.hasRoom e0.platform room_1 = true :=
  launch0.hasRoom_least _ room_1 (by decide +kernel) (by decide +kernel) (by decide +kernel) (by decide +kernel) (by decide +kernel) (by decide +kernel)
theorem allAtoms_all (ts : List Jvm.Cond) (a : Array Jvm.Value) (st : Jvm.State) : (allAtoms ts).before a st = ts.all (fun c => c.before a st) := by
  induction ts with
  | nil => rfl
  | cons c t ih =>
    show (Jvm.Cond.and c (allAtoms t)).before a st = _
    rw [Jvm.Cond.before_and, ih, List.all_cons]
def words1 : List Jvm.Cond := Jvm.Cond.code x code maxLocals ret :: tables_1
/-- a 'code' word, met by the world's own term for the bytes: nothing is compared byte by byte -/
theorem code_word {y : MethodName} {bytes : ByteArray} {mx : Nat} {rt : Option FieldType} {a : Array Value} {s : State} {m : MethodId} {meth : Method} {c : Code} (h1 : s.methodNamed? y = some m) (h2 : s.vm.method? m = some meth) (h3 : meth.code = some c) (h4 : c.code = bytes)
    (h5 : (c.maxLocals == mx && c.exceptionTable.isEmpty && decide (c.maxStack ≤ mostOperands) && decide (meth.sig.returnType = rt) && !meth.locks && decide (parseMethodDescriptor y.desc = some meth.sig)) = true) : (Jvm.Cond.code y bytes mx rt).before a s = true := by
  simp only [Bool.and_eq_true, beq_iff_eq, Bool.not_eq_true', decide_eq_true_eq] at h5
  obtain ⟨⟨⟨⟨⟨g1, g2⟩, g3⟩, g4⟩, g5⟩, g6⟩ := h5
  simp [Cond.before, Cond.holds, Cond.value, h1, h2, h3, h4, g1, g2, g3, g4, g5, g6]
def isCode : Jvm.Cond → Bool
  | .code _ _ _ _ => true
  | _ => false
theorem all_split {L : List Jvm.Cond} {P : Jvm.Cond → Bool} (h1 : L.all (fun c => isCode c || P c) = true) (h2 : ∀ c ∈ L.filter isCode, P c = true) : L.all P = true := by
  refine List.all_eq_true.mpr fun c hc => ?_
  have h := List.all_eq_true.mp h1 c hc
  rcases Bool.eq_false_or_eq_true (isCode c) with hi | hi
  · exact h2 c (List.mem_filter.mpr ⟨hc, hi⟩)
  · simpa [hi] using h
set_option maxRecDepth 65536 in
theorem w_c0 : (Jvm.Cond.code x code maxLocals ret).before args0 about1 = true := code_word (m := ⟨1, 1⟩) (meth := k1m1) (c := k1c1) (by decide +kernel) rfl rfl rfl (by decide +kernel)
set_option maxRecDepth 65536 in
theorem w_c1 : (Jvm.Cond.code ({ cls := "java/lang/String", name := "valueOf", desc := "(C)Ljava/lang/String;" } : Jvm.MethodName) jdk_42_method_139_code (1 : Nat) (Option.some (Jvm.ClassFile.FieldType.object "java/lang/String"))).before args0 about1 = true := code_word (m := ⟨7, 1⟩) (meth := k7m1) (c := k7c1) (by decide +kernel) rfl rfl rfl (by decide +kernel)
set_option maxRecDepth 65536 in
theorem w_c2 : (Jvm.Cond.code ({ cls := "java/lang/StringLatin1", name := "canEncode", desc := "(C)Z" } : Jvm.MethodName) jdk_43_method_3_code (1 : Nat) (Option.some Jvm.ClassFile.FieldType.boolean)).before args0 about1 = true := code_word (m := ⟨8, 1⟩) (meth := k8m1) (c := k8c1) (by decide +kernel) rfl rfl rfl (by decide +kernel)
set_option maxRecDepth 65536 in
theorem w_c3 : (Jvm.Cond.code ({ cls := "java/lang/StringLatin1", name := "toBytes", desc := "(C)[B" } : Jvm.MethodName) jdk_43_method_46_code (1 : Nat) (Option.some (Jvm.ClassFile.FieldType.array Jvm.ClassFile.FieldType.byte))).before args0 about1 = true := code_word (m := ⟨8, 2⟩) (meth := k8m2) (c := k8c2) (by decide +kernel) rfl rfl rfl (by decide +kernel)
set_option maxRecDepth 65536 in
theorem w_c4 : (Jvm.Cond.code ({ cls := "java/lang/String", name := "<init>", desc := "([BB)V" } : Jvm.MethodName) jdk_42_method_151_code (3 : Nat) (Option.none : Option Jvm.ClassFile.FieldType)).before args0 about1 = true := code_word (m := ⟨7, 2⟩) (meth := k7m2) (c := k7c2) (by decide +kernel) rfl rfl rfl (by decide +kernel)
set_option maxRecDepth 65536 in
theorem w_c5 : (Jvm.Cond.code ({ cls := "java/lang/Object", name := "<init>", desc := "()V" } : Jvm.MethodName) object_method_1_code (1 : Nat) (Option.none : Option Jvm.ClassFile.FieldType)).before args0 about1 = true := code_word (m := ⟨0, 0⟩) (meth := k0m0) (c := k0c0) (by decide +kernel) rfl rfl rfl (by decide +kernel)
set_option maxRecDepth 65536 in
theorem w_c6 : (Jvm.Cond.code ({ cls := "java/lang/Math", name := "min", desc := "(II)I" } : Jvm.MethodName) jdk_29_method_69_code (2 : Nat) (Option.some Jvm.ClassFile.FieldType.int)).before args0 about1 = true := code_word (m := ⟨9, 2⟩) (meth := k9m2) (c := k9c2) (by decide +kernel) rfl rfl rfl (by decide +kernel)
set_option maxRecDepth 65536 in
theorem w_c7 : (Jvm.Cond.code ({ cls := "java/lang/Math", name := "max", desc := "(II)I" } : Jvm.MethodName) jdk_29_method_65_code (2 : Nat) (Option.some Jvm.ClassFile.FieldType.int)).before args0 about1 = true := code_word (m := ⟨9, 1⟩) (meth := k9m1) (c := k9c1) (by decide +kernel) rfl rfl rfl (by decide +kernel)
set_option maxRecDepth 65536 in
theorem w_c8 : (Jvm.Cond.code ({ cls := "com/example/shrike/shrike/model/Judgment", name := "<init>", desc := "(Ljava/lang/String;Ljava/lang/String;I)V" } : Jvm.MethodName) prog_59_method_1_code (4 : Nat) (Option.none : Option Jvm.ClassFile.FieldType)).before args0 about1 = true := code_word (m := ⟨11, 0⟩) (meth := k11m0) (c := k11c0) (by decide +kernel) rfl rfl rfl (by decide +kernel)
set_option maxRecDepth 65536 in
theorem w_c9 : (Jvm.Cond.code ({ cls := "java/lang/Record", name := "<init>", desc := "()V" } : Jvm.MethodName) jdk_30_method_1_code (1 : Nat) (Option.none : Option Jvm.ClassFile.FieldType)).before args0 about1 = true := code_word (m := ⟨10, 0⟩) (meth := k10m0) (c := k10c0) (by decide +kernel) rfl rfl rfl (by decide +kernel)
set_option maxRecDepth 65536 in
theorem w_c10 : (Jvm.Cond.code ({ cls := "com/example/shrike/shrike/model/Judgment", name := "isRelevant", desc := "()Z" } : Jvm.MethodName) prog_59_method_2_code (1 : Nat) (Option.some Jvm.ClassFile.FieldType.boolean)).before args0 about1 = true := code_word (m := ⟨11, 1⟩) (meth := k11m1) (c := k11c1) (by decide +kernel) rfl rfl rfl (by decide +kernel)
def codes1 : List Jvm.Cond := [Jvm.Cond.code x code maxLocals ret, Jvm.Cond.code ({ cls := "java/lang/String", name := "valueOf", desc := "(C)Ljava/lang/String;" } : Jvm.MethodName) jdk_42_method_139_code (1 : Nat) (Option.some (Jvm.ClassFile.FieldType.object "java/lang/String")), Jvm.Cond.code ({ cls := "java/lang/StringLatin1", name := "canEncode", desc := "(C)Z" } : Jvm.MethodName) jdk_43_method_3_code (1 : Nat) (Option.some Jvm.ClassFile.FieldType.boolean), Jvm.Cond.code ({ cls := "java/lang/StringLatin1", name := "toBytes", desc := "(C)[B" } : Jvm.MethodName) jdk_43_method_46_code (1 : Nat) (Option.some (Jvm.ClassFile.FieldType.array Jvm.ClassFile.FieldType.byte)), Jvm.Cond.code ({ cls := "java/lang/String", name := "<init>", desc := "([BB)V" } : Jvm.MethodName) jdk_42_method_151_code (3 : Nat) (Option.none : Option Jvm.ClassFile.FieldType), Jvm.Cond.code ({ cls := "java/lang/Object", name := "<init>", desc := "()V" } : Jvm.MethodName) object_method_1_code (1 : Nat) (Option.none : Option Jvm.ClassFile.FieldType), Jvm.Cond.code ({ cls := "java/lang/Math", name := "min", desc := "(II)I" } : Jvm.MethodName) jdk_29_method_69_code (2 : Nat) (Option.some Jvm.ClassFile.FieldType.int), Jvm.Cond.code ({ cls := "java/lang/Math", name := "max", desc := "(II)I" } : Jvm.MethodName) jdk_29_method_65_code (2 : Nat) (Option.some Jvm.ClassFile.FieldType.int), Jvm.Cond.code ({ cls := "com/example/shrike/shrike/model/Judgment", name := "<init>", desc := "(Ljava/lang/String;Ljava/lang/String;I)V" } : Jvm.MethodName) prog_59_method_1_code (4 : Nat) (Option.none : Option Jvm.ClassFile.FieldType), Jvm.Cond.code ({ cls := "java/lang/Record", name := "<init>", desc := "()V" } : Jvm.MethodName) jdk_30_method_1_code (1 : Nat) (Option.none : Option Jvm.ClassFile.FieldType), Jvm.Cond.code ({ cls := "com/example/shrike/shrike/model/Judgment", name := "isRelevant", desc := "()Z" } : Jvm.MethodName) prog_59_method_2_code (1 : Nat) (Option.some Jvm.ClassFile.FieldType.boolean)]
set_option maxRecDepth 65536 in
theorem codes_eq : words1.filter isCode = codes1 := rfl
theorem w_codes : ∀ c ∈ words1.filter isCode, c.before args0 about1 = true := by
  rw [codes_eq]
  intro c hc
  simp only [codes1, List.mem_cons, List.not_mem_nil, or_false] at hc
  rcases hc with rfl | rfl | rfl | rfl | rfl | rfl | rfl | rfl | rfl | rfl | rfl
  · exact w_c0
  · exact w_c1
  · exact w_c2
  · exact w_c3
  · exact w_c4
  · exact w_c5
  · exact w_c6
  · exact w_c7
  · exact w_c8
  · exact w_c9
  · exact w_c10
set_option maxRecDepth 65536 in
theorem w_t1 : (words1.take 24).all (fun c => isCode c || c.before args0 about1) = true := by decide +kernel
set_option maxRecDepth 65536 in
theorem w_t2 : ((words1.drop 24).take 24).all (fun c => isCode c || c.before args0 about1) = true := by decide +kernel
set_option maxRecDepth 65536 in
theorem w_t3 : ((words1.drop 24).drop 24).all (fun c => isCode c || c.before args0 about1) = true := by decide +kernel
theorem w_tables : (allAtoms (Jvm.Cond.code x code maxLocals ret :: tables_1)).before args0 about1 = true := by
  rw [allAtoms_all]
  show words1.all (fun c => c.before args0 about1) = true
  refine all_split ?_ w_codes
  rw [← List.take_append_drop 24 words1, List.all_append, w_t1, ← List.take_append_drop 24 (words1.drop 24), List.all_append, w_t2, w_t3]
  rfl
set_option maxRecDepth 65536 in
theorem w_rest : rest_1_c.before args0 about1 = true := by decide +kernel
set_option maxRecDepth 65536 in
theorem w_case : (Jvm.Cond.and given_1 narrow_1).before args0 about1 = true := by decide +kernel
theorem w_applies : (headSpec (Jvm.Cond.code x code maxLocals ret :: tables_1) room_1).applies x e0.platform about1 = true :=
  (Spec.applies_iff w_frames).mpr ⟨w_running, w_runnable, w_alone, w_named, w_hears, w_ripe, w_room, w_tables⟩
theorem atStart : AtStart classFile x code maxLocals ret World_1 tables_1 room_1 Calls_1 rest_1 Pre_1 launch0 p0 e0 about1 theMethod args0 below0 :=
  ⟨lists_1, trivial, launch0.admits_env _ _ _, launch0.least_env, fairChoices_fair.cas, fairChoices_fair.clock, w_frames, w_args, w_heap, w_applies, trivial, w_rest, w_case⟩
end start1
theorem witness_1 : WitnessClaimed_1 := ⟨start1.p0, start1.e0, start1.about1, start1.theMethod, start1.args0, start1.below0, start1.atStart⟩
end Jvm.Pilot.@@N@@
