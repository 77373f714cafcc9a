import JvmDerived
import JvmDerived.Pilot.@@N@@Statement
import JvmDerived.Pilot.@@N@@Code
set_option linter.unusedVariables false
set_option linter.unusedSimpArgs false
namespace Jvm.RoadKit
open Sem ClassFile Op Lib Jvm.Stand Jvm.Free Jvm.LawKit
/-- the walk that stands at S comes to an end of which P holds -/
def own_Goes (tb : Tables) (e : Env) (below : List Frame) (P : State → Outcome → Prop) (S : State) : Prop := ∃ t o, Steps tb e below S t ∧ P t o
theorem own_Goes.of {tb : Tables} {e : Env} {below : List Frame} {P : State → Outcome → Prop} {S : State} (k : own_Goes tb e below P S) : ∃ t o, Steps tb e below S t ∧ P t o := k
theorem own_Goes.nm {tb : Tables} {e : Env} {below : List Frame} {P : State → Outcome → Prop} {S : State} (k : ∀ P' : State → Outcome → Prop, (∀ t o, P t o → P' t o) → own_Goes tb e below P' S) : own_Goes tb e below P S := k P fun _ _ q => q
theorem own_Goes.st {tb : Tables} {e : Env} {below : List Frame} {P : State → Outcome → Prop} {S S' : State} (k : own_Goes tb e below P S') (h : ∀ t, Steps tb e below S' t → Steps tb e below S t) : own_Goes tb e below P S := by
  obtain ⟨t, o, h1, h2⟩ := k; exact ⟨t, o, h t h1, h2⟩
theorem own_Goes.tr {tb : Tables} {e : Env} {below : List Frame} {P : State → Outcome → Prop} {S S' : State} (h : Steps tb e below S S') (k : own_Goes tb e below P S') : own_Goes tb e below P S := by
  obtain ⟨t, o, h1, h2⟩ := k; exact ⟨t, o, h.trans h1, h2⟩
theorem own_Goes.fin {tb : Tables} {e : Env} {below : List Frame} {P : State → Outcome → Prop} {S : State} (t : State) (o : Outcome) (h : Steps tb e below S t) (k : P t o) : own_Goes tb e below P S := ⟨t, o, h, k⟩
end Jvm.RoadKit
namespace Jvm.RoadKit
open Sem ClassFile Op Lib Jvm.Stand Jvm.Free Jvm.LawKit
/-- a class that is there, is ordinary and no interface -/
def own_Found (Z : State) (K : String) : Prop := ∃ t k, Z.vm.findClass K = some t ∧ Z.vm.classes[t]? = some k ∧ k.kind = .ordinary ∧ k.isInterface = false
theorem own_found_sup {Z : State} {a0 : Array Value} {K KS : String} (w : (Cond.superclass K KS).before a0 Z = true) : own_Found Z K := by
  obtain ⟨t, g1⟩ := found_sup w
  obtain ⟨p, k, kp, h1, h2, h3, h4, h5, -, h7⟩ := Cond.superclass_spec g1 w
  exact ⟨t, k, g1, h2, h5, h7⟩
theorem own_found_ins {Z : State} {a0 : Array Value} {K : String} {n : Nat} (w : (Cond.instantiable K n).before a0 Z = true) : own_Found Z K := by
  obtain ⟨t, k, g1, h2, h5, h7, -⟩ := Cond.instantiable_spec w
  exact ⟨t, k, g1, h2, h5, (Bool.or_eq_false_iff.mp h7).1⟩
theorem own_NSroot {Z : State} {a0 : Array Value} {O K : String} (w : (Cond.noSuperclass O).before a0 Z = true) (wk : own_Found Z K) (hn : O ≠ K) : NS Z O K := by
  obtain ⟨t, _, g1, -⟩ := wk
  obtain ⟨c, k, h1, h2, h3, -⟩ := Cond.noSuperclass_spec w
  refine ⟨c, t, h1, g1, fun fuel => ?_⟩
  rcases fuel with _ | f
  · rfl
  · simp [Vm.isSubclassAux, ids_ne h1 g1 hn, h2, h3]
theorem own_NSno {Z : State} {a0 : Array Value} {C S K : String} (w : (Cond.superclass C S).before a0 Z = true) (wk : own_Found Z K) (n : NS Z C K) (hn : C ≠ K) : ∃ c t, Z.vm.findClass C = some c ∧ Z.vm.findClass K = some t ∧ Z.vm.assignable c t = false := by
  obtain ⟨t', k', g1, g2, g5, g7⟩ := wk
  obtain ⟨c, t, h0, g0, n3⟩ := n
  rw [Option.some.inj (g1.symm.trans g0)] at g2
  obtain ⟨_, k, kc, h5, h7⟩ : ∃ (c' : ClassId) (k : Class), Z.vm.classes[c]? = some k ∧ k.kind = .ordinary ∧ k.isInterface = false := by
    obtain ⟨u, k, f1, f2, f3, f4⟩ := own_found_sup w
    rw [Option.some.inj (f1.symm.trans h0)] at f2
    exact ⟨c, k, f2, f3, f4⟩
  exact ⟨c, t, h0, g0, by show Z.vm.assignableAux (255 + 1) c t = false; simp [Vm.assignableAux, ids_ne h0 g0 hn, kc, g2, h5, g5, g7, Vm.isSubclass, n3]⟩
/-- the Class object that the tables note for C -/
def own_Mir (Z : State) (C : String) (m : Addr) : Prop := ∃ (c : ClassId) (k : Class), Z.vm.findClass C = some c ∧ Z.vm.classes[c]? = some k ∧ k.mirror = some m
section Mirror
variable {p : Program} {l : Launch} {e : Env} {R : Room} {s : State} {m : MethodId} {args : Array Value} {below : List Frame} {meth : Method} {c : Code} {T : State} {locs : List Loc} {cells slots : Nat} {Z : State} {h : Heap} {a : Addr}
theorem own_Mir.at {C : String} {mr : Addr} (hZ : Z.Warmed39 s.vm) (M : own_Mir Z C mr) : ∃ (c : ClassId) (k : Class), s.vm.findClass C = some c ∧ s.vm.classes[c]? = some k ∧ k.mirror = some mr := by
  obtain ⟨c, k, m1, m2, m3⟩ := M
  obtain ⟨k', q, ek⟩ := hZ.alike.2.2 _ _ m2
  exact ⟨c, k', by rw [hZ.alike.findClass]; exact m1, q, by rw [ek]; exact m3⟩
theorem own_gcls (X : Stand p l e R s m args below meth c T locs cells slots) (hx : p.tables.exec = Jvm.exec) (hZ : Z.Warmed39 s.vm) {a0 : Array Value} {own C : String} {index : Nat} (hown : s.vm.findClass own = some m.cls)
    (w1 : (Cond.methodLink own index ⟨"java/lang/Object", "getClass", "()Ljava/lang/Class;"⟩).before a0 Z = true) (w2 : (Cond.declares ⟨"java/lang/Object", "getClass", "()Ljava/lang/Class;"⟩).before a0 Z = true) (w3 : (Cond.noSuperclass "java/lang/Object").before a0 Z = true) (w4 : (Cond.selects C ⟨"java/lang/Object", "getClass", "()Ljava/lang/Class;"⟩ ⟨"java/lang/Object", "getClass", "()Ljava/lang/Class;"⟩).before a0 Z = true)
    (w5 : (Cond.instanceMethod ⟨"java/lang/Object", "getClass", "()Ljava/lang/Class;"⟩).before a0 Z = true) (w6 : (Cond.native ⟨"java/lang/Object", "getClass", "()Ljava/lang/Class;"⟩).before a0 Z = true) (eT : T.heap = h) (E : Exa Z h a C) {mr : Addr} (M : own_Mir Z C mr)
    {g : JFrame} (hg : g.method = m) (hsize : g.locals.size = c.maxLocals) {rest : List Value} (hs : g.stack = .ref a :: rest) (hd : decode c.code g.pc = .ok (.invokevirtual index, 3)) (hf : 1 ≤ R.frames) {W : Nat} (hW : 2 * g.monitorRoom + (rest.map fun v => v.category).sum ≤ W) (hl : W + (nativeFrameWords "java/lang/Object" "getClass" 1 + 11) ≤ R.locals) :
    ∃ T', Stand p l e R s m args below meth c T' locs cells slots ∧ T'.heap = h ∧ ∀ target, Steps p.tables e below (T'.setTop { g with pc := g.pc + 3, stack := .ref mr :: rest }) target → Steps p.tables e below (T.setTop g) target := by
  obtain ⟨cB, kB, i1, -, i3⟩ := isOf hZ eT E
  obtain ⟨cm, km, m1, m2, m3⟩ := M.at hZ
  cases i1.symm.trans m1
  obtain ⟨vm', X', st⟩ := X.getClassOf hx hown (mvT hZ w1) (mvT hZ w2) (nf_top (args := #[]) (mvT hZ w3)) (mvT hZ w4) (mvT hZ w5) (mvT hZ w6) m1 i3 m2 m3 hg hsize hs hd hf (by omega)
  exact ⟨_, X', eT, st⟩
theorem own_ldcM (X : Stand p l e R s m args below meth c T locs cells slots) (hx : p.tables.exec = Jvm.exec) (hZ : Z.Warmed39 s.vm) {a0 : Array Value} {own C : String} {index : Nat} (hown : s.vm.findClass own = some m.cls) (w : (Cond.classLink own index C).before a0 Z = true) (eT : T.heap = h) {mr : Addr} (M : own_Mir Z C mr)
    {g : JFrame} (hg : g.method = m) (hd : decode c.code g.pc = .ok (.ldc index, 2)) :
    ∃ T', Stand p l e R s m args below meth c T' locs cells slots ∧ T'.heap = h ∧ ∀ target, Steps p.tables e below (T'.setTop { g with pc := g.pc + 2, stack := .ref mr :: g.stack }) target → Steps p.tables e below (T.setTop g) target := by
  obtain ⟨cm, km, m1, m2, m3⟩ := M.at hZ
  obtain ⟨vm', X', st⟩ := X.ldcMirror hx hown (mvT hZ w) (a := mr) (by simp [Term.eval, m1, m2, m3]) hg hd
  exact ⟨_, X', eT, st⟩
end Mirror
theorem own_eqint {args : Array Value} {s : State} {t : Term} {k : Int32} (h : (Cond.eq t (.int k)).value args s none s [] = some true) : t.eval args s none [] s = some (.int k) := by
  have hk : (Term.int k).eval args s none [] s = some (.int k) := rfl
  simp only [Cond.value, hk] at h
  cases ht : t.eval args s none [] s with
  | none => simp [ht] at h
  | some v => cases v <;> simp [ht] at h ⊢ <;> exact h
theorem own_len {args : Array Value} {s : State} {t : Term} {k : Int32} {a : Addr} {cl : Cell} {ty : FieldType} (ev : t.eval args s none [] s = some (.ref a)) (A : Arr s s.heap a cl ty) (h : (Cond.eq (.length t) (.int k)).value args s none s [] = some true) : cl.slots.size < 2 ^ 31 ∧ cl.slots.size.toInt32 = k := by
  have q := own_eqint h
  have f := A.fin (Vm.Alike.refl _)
  by_cases hl : cl.slots.size < 2 ^ 31
  · rw [len_f ev f hl] at q; cases q; exact ⟨hl, rfl⟩
  · simp [Term.eval, ev, f, hl] at q
end Jvm.RoadKit
namespace Jvm.Pilot.@@N@@
open Jvm Jvm.ClassFile Sem Op Lib Jvm.Free Jvm.Stand Jvm.LawKit Jvm.RoadKit Bundle Jvm.Pilot.@@N@@.Jvm.D
def own_imin (i j : Int32) : Int32 := if j < i then j else i
def own_imax (i j : Int32) : Int32 := if i < j then j else i
def own_eqv (u v : Int64) : Int32 := if u = v then 1 else 0
theorem own_eqv1 {u v : Int64} (h : u = v) : own_eqv u v = 1 := if_pos h
theorem own_eqv0 {u v : Int64} (h : ¬ u = v) : own_eqv u v = 0 := if_neg h
def own_LongAt (Z : State) (cl : Cell) : Prop := ∀ j : Int32, ¬ (j < 0 ∨ cl.slots.size ≤ j.toNatClampNeg) → ∃ r, cl.slots[j.toNatClampNeg]? = some (.ref r) ∧ Exa Z Z.heap r "java/lang/Long"
theorem own_li {v : Int64} (h1 : ¬ v < (-128 : Int64)) (h2 : ¬ (127 : Int64) < v) : ¬ ((v.toInt32 + (128 : Int32)) < 0 ∨ 256 ≤ (v.toInt32 + (128 : Int32)).toNatClampNeg) := by
  have k1 : (-128 : Int64).toInt = -128 := by decide
  have k2 : (127 : Int64).toInt = 127 := by decide
  have k3 : (128 : Int32).toInt = 128 := by decide
  have k4 : (0 : Int32).toInt = 0 := by decide
  rw [Int64.lt_iff_toInt_lt, k1] at h1; rw [Int64.lt_iff_toInt_lt, k2] at h2
  have a := c_l2i v; have b := c_iadd v.toInt32 128; have r := rng32 v.toInt32; have r2 := rng32 (v.toInt32 + 128)
  rw [k3] at b
  have e : (v.toInt32 + 128).toInt = v.toInt + 128 := by omega
  intro q
  rcases q with q | q
  · rw [Int32.lt_iff_toInt_lt, k4] at q; omega
  · have nn : ¬ (v.toInt32 + 128) < 0 := by rw [Int32.lt_iff_toInt_lt, k4]; omega
    have z := nat_of nn; omega
theorem own_size {n : Nat} (h1 : n < 2 ^ 31) (h2 : n.toInt32 = (256 : Int32)) : n = 256 := by
  have q := congrArg Int32.toInt h2
  have e : n.toInt32.toInt = (n : Int) := Int32.toInt_ofNat_of_lt h1
  rw [e] at q
  have k : (256 : Int32).toInt = 256 := by decide
  omega
theorem own_longs {args : Array Value} {s : State} {C n d : String} {a : Addr} {cl : Cell} {ty : FieldType} {c2 : Jvm.Cond} (ev : (Term.static C n d).eval args s none [] s = some (.ref a)) (A : Arr s s.heap a cl ty) (hl : cl.slots.size < 2 ^ 31)
    (h : (Jvm.Cond.all (.static C n d) (.and (.exactly (.elem (.static C n d) (.index 0)) "java/lang/Long") c2)).value args s none s [] = some true) : own_LongAt s cl := fun j hj => by
  have f := A.fin (Vm.Alike.refl _)
  have hn : ¬ j < 0 := fun q => hj (Or.inl q)
  have q := Cond.all_elim ev f h j.toNatClampNeg (Nat.lt_of_not_le fun y => hj (Or.inr y))
  obtain ⟨q1, -⟩ := and_e q
  obtain ⟨r, er⟩ := exa_v q1
  have ev' : (Term.static C n d).eval args s none [j.toNatClampNeg] s = some (.ref a) := by rw [← ev]; simp only [Term.eval]
  exact ⟨r, by rw [← elem_f ev' (idx_at hn) f hn]; exact er, exa_at er q1⟩
theorem own_ef_abc (m : MethodId) (x0 : Addr) : entryFrame m #[(.ref x0)] 1 = mkF m 0 #[.val (.ref x0)] [] := by first | (simp [entryFrame, mkF, argsToLocals, Value.category]; done) | rfl
theorem own_pn_java_util_AbstractCollection : plainName "java/util/AbstractCollection" = true := by first | (simp [plainName, overriddenIn]; done) | decide +kernel
theorem own_d_jdk_22_method_1_0 : decode jdk_22_method_1_code 0 = .ok (.aload_n 0, 1) := by decide +kernel
theorem own_d_jdk_22_method_1_1 : decode jdk_22_method_1_code 1 = .ok (.invokespecial 1, 3) := by decide +kernel
theorem own_d_jdk_22_method_1_4 : decode jdk_22_method_1_code 4 = .ok (.return_, 1) := by decide +kernel
def Q_abc (Z : State) (a : Addr) (h0 : Heap) (n0 : Nat) (rv_ : Option Value) (h_ : Heap) (L_ : List Loc) : Prop := rv_ = none ∧ Fr n0 L_ ∧ h_ = h0
set_option maxRecDepth 65536 in
set_option maxHeartbeats 40000000 in
theorem rm_abc (l : Launch) (Z : State) (a0 : Array Value) (hw : ∀ d ∈ tables_1, d.before a0 Z = true) (ws : List Jvm.Cond) (a : Addr) (h0 : Heap) (n0 : Nat) (Z0 : n0 ≤ h0.size) :
    MetFree l (⟨"java/util/AbstractCollection", "<init>", "()V"⟩ : MethodName) (head1 (Jvm.Cond.code (⟨"java/util/AbstractCollection", "<init>", "()V"⟩ : MethodName) jdk_22_method_1_code 1 none :: ws) ({ frames := 1, cells := 0, slots := 0, locals := 12 } : Room)) (fun as_ U => as_ = #[(.ref a)] ∧ Z.Warmed39 U.vm ∧ U.heap = h0) (fun _ _ _ _ _ => True) (fun _ U o U' => ∃ rv_ L_, o = .returned rv_ ∧ Q_abc Z a h0 n0 rv_ U'.heap L_ ∧ FrameEnd U o U' L_ ({ frames := 1, cells := 0, slots := 0, locals := 12 } : Room).cells ({ frames := 1, cells := 0, slots := 0, locals := 12 } : Room).slots) := by
  refine MetFree.of_bodySF (plainFor_of_name own_pn_java_util_AbstractCollection) hisR ?_
  intro p e s m args below meth c s₁ Bd hml0 hP hK
  obtain ⟨rfl, hZ, hh⟩ := hP
  have hx := Bd.exec
  have hby := Bd.bytes
  have hml : c.maxLocals = 1 := hml0
  have hown : s.vm.findClass "java/util/AbstractCollection" = some m.cls := findClass_of_methodNamed Bd.named
  have hnm := (name_of_methodNamed Bd.named Bd.method).1
  have X0 : Stand p l e ({ frames := 1, cells := 0, slots := 0, locals := 12 } : Room) s m #[(.ref a)] below meth c s₁ [] 0 0 := Stand.of_body Bd
  have e0 : s₁.heap = h0 := by rw [← hh, Bd.state]; rfl
  have N0 := Fr.nil n0
  refine own_Goes.of ?_
  refine own_Goes.nm (fun P hPP => ?_)
  refine own_Goes.st ?_ (fun _ k => castTop (own_ef_abc m a) k)
  show own_Goes p.tables e below P (s₁.setTop (mkF m 0 #[.val (.ref a)] []))
  refine own_Goes.st ?_ (fun _ k => XS.aloadN X0.here hx rfl (hb hby own_d_jdk_22_method_1_0) rfl rfl k)
  show own_Goes p.tables e below P (s₁.setTop (mkF m 1 #[.val (.ref a)] [(.ref a)]))
  obtain ⟨T1, X1, e1, st1⟩ := initO X0 hx hZ hown (hw _ (List.mem_of_getElem? (i := 18) rfl)) (hw _ (List.mem_of_getElem? (i := 19) rfl)) (hw _ (List.mem_of_getElem? (i := 20) rfl)) e0 (g := (mkF m 1 #[.val (.ref a)] [(.ref a)])) rfl (by rw [hml]; rfl) rfl (hb hby own_d_jdk_22_method_1_1) (by decide) (W := 0) (by show 2 * 0 + _ ≤ _; exact Nat.le_of_eq rfl) (by decide)
  refine own_Goes.st ?_ st1
  show own_Goes p.tables e below P (T1.setTop (mkF m 4 #[.val (.ref a)] []))
  obtain ⟨fs, hr, hrun, hended, hW, hsame⟩ := X1.leave (v := none) (fun _ => rfl)
  exact own_Goes.fin _ _ (X1.returnOut hx Bd.returns (hb hby own_d_jdk_22_method_1_4) hr) (hPP _ _ ⟨hrun, hended, _, _, rfl, (by show Q_abc Z a h0 n0 _ T1.heap _; rw [e1]; exact ⟨rfl, N0, rfl⟩), ⟨_, rfl⟩, hW, hsame.mono (by decide) (by decide)⟩)
theorem own_ef_rec (m : MethodId) (x0 : Addr) : entryFrame m #[(.ref x0)] 1 = mkF m 0 #[.val (.ref x0)] [] := by first | (simp [entryFrame, mkF, argsToLocals, Value.category]; done) | rfl
theorem own_pn_java_lang_Record : plainName "java/lang/Record" = true := by first | (simp [plainName, overriddenIn]; done) | decide +kernel
theorem own_d_jdk_30_method_1_0 : decode jdk_30_method_1_code 0 = .ok (.aload_n 0, 1) := by decide +kernel
theorem own_d_jdk_30_method_1_1 : decode jdk_30_method_1_code 1 = .ok (.invokespecial 1, 3) := by decide +kernel
theorem own_d_jdk_30_method_1_4 : decode jdk_30_method_1_code 4 = .ok (.return_, 1) := by decide +kernel
def Q_rec (Z : State) (a : Addr) (h0 : Heap) (n0 : Nat) (rv_ : Option Value) (h_ : Heap) (L_ : List Loc) : Prop := rv_ = none ∧ Fr n0 L_ ∧ h_ = h0
set_option maxRecDepth 65536 in
set_option maxHeartbeats 40000000 in
theorem rm_rec (l : Launch) (Z : State) (a0 : Array Value) (hw : ∀ d ∈ tables_1, d.before a0 Z = true) (ws : List Jvm.Cond) (a : Addr) (h0 : Heap) (n0 : Nat) (Z0 : n0 ≤ h0.size) :
    MetFree l (⟨"java/lang/Record", "<init>", "()V"⟩ : MethodName) (head1 (Jvm.Cond.code (⟨"java/lang/Record", "<init>", "()V"⟩ : MethodName) jdk_30_method_1_code 1 none :: ws) ({ frames := 1, cells := 0, slots := 0, locals := 12 } : Room)) (fun as_ U => as_ = #[(.ref a)] ∧ Z.Warmed39 U.vm ∧ U.heap = h0) (fun _ _ _ _ _ => True) (fun _ U o U' => ∃ rv_ L_, o = .returned rv_ ∧ Q_rec Z a h0 n0 rv_ U'.heap L_ ∧ FrameEnd U o U' L_ ({ frames := 1, cells := 0, slots := 0, locals := 12 } : Room).cells ({ frames := 1, cells := 0, slots := 0, locals := 12 } : Room).slots) := by
  refine MetFree.of_bodySF (plainFor_of_name own_pn_java_lang_Record) hisR ?_
  intro p e s m args below meth c s₁ Bd hml0 hP hK
  obtain ⟨rfl, hZ, hh⟩ := hP
  have hx := Bd.exec
  have hby := Bd.bytes
  have hml : c.maxLocals = 1 := hml0
  have hown : s.vm.findClass "java/lang/Record" = some m.cls := findClass_of_methodNamed Bd.named
  have hnm := (name_of_methodNamed Bd.named Bd.method).1
  have X0 : Stand p l e ({ frames := 1, cells := 0, slots := 0, locals := 12 } : Room) s m #[(.ref a)] below meth c s₁ [] 0 0 := Stand.of_body Bd
  have e0 : s₁.heap = h0 := by rw [← hh, Bd.state]; rfl
  have N0 := Fr.nil n0
  refine own_Goes.of ?_
  refine own_Goes.nm (fun P hPP => ?_)
  refine own_Goes.st ?_ (fun _ k => castTop (own_ef_rec m a) k)
  show own_Goes p.tables e below P (s₁.setTop (mkF m 0 #[.val (.ref a)] []))
  refine own_Goes.st ?_ (fun _ k => XS.aloadN X0.here hx rfl (hb hby own_d_jdk_30_method_1_0) rfl rfl k)
  show own_Goes p.tables e below P (s₁.setTop (mkF m 1 #[.val (.ref a)] [(.ref a)]))
  obtain ⟨T1, X1, e1, st1⟩ := initO X0 hx hZ hown (hw _ (List.mem_of_getElem? (i := 37) rfl)) (hw _ (List.mem_of_getElem? (i := 19) rfl)) (hw _ (List.mem_of_getElem? (i := 20) rfl)) e0 (g := (mkF m 1 #[.val (.ref a)] [(.ref a)])) rfl (by rw [hml]; rfl) rfl (hb hby own_d_jdk_30_method_1_1) (by decide) (W := 0) (by show 2 * 0 + _ ≤ _; exact Nat.le_of_eq rfl) (by decide)
  refine own_Goes.st ?_ st1
  show own_Goes p.tables e below P (T1.setTop (mkF m 4 #[.val (.ref a)] []))
  obtain ⟨fs, hr, hrun, hended, hW, hsame⟩ := X1.leave (v := none) (fun _ => rfl)
  exact own_Goes.fin _ _ (X1.returnOut hx Bd.returns (hb hby own_d_jdk_30_method_1_4) hr) (hPP _ _ ⟨hrun, hended, _, _, rfl, (by show Q_rec Z a h0 n0 _ T1.heap _; rw [e1]; exact ⟨rfl, N0, rfl⟩), ⟨_, rfl⟩, hW, hsame.mono (by decide) (by decide)⟩)
theorem own_ef_num (m : MethodId) (x0 : Addr) : entryFrame m #[(.ref x0)] 1 = mkF m 0 #[.val (.ref x0)] [] := by first | (simp [entryFrame, mkF, argsToLocals, Value.category]; done) | rfl
theorem own_pn_java_lang_Number : plainName "java/lang/Number" = true := by first | (simp [plainName, overriddenIn]; done) | decide +kernel
theorem own_d_jdk_18_method_1_0 : decode jdk_18_method_1_code 0 = .ok (.aload_n 0, 1) := by decide +kernel
theorem own_d_jdk_18_method_1_1 : decode jdk_18_method_1_code 1 = .ok (.invokespecial 1, 3) := by decide +kernel
theorem own_d_jdk_18_method_1_4 : decode jdk_18_method_1_code 4 = .ok (.return_, 1) := by decide +kernel
def Q_num (Z : State) (a : Addr) (h0 : Heap) (n0 : Nat) (rv_ : Option Value) (h_ : Heap) (L_ : List Loc) : Prop := rv_ = none ∧ Fr n0 L_ ∧ h_ = h0
set_option maxRecDepth 65536 in
set_option maxHeartbeats 40000000 in
theorem rm_num (l : Launch) (Z : State) (a0 : Array Value) (hw : ∀ d ∈ tables_1, d.before a0 Z = true) (ws : List Jvm.Cond) (a : Addr) (h0 : Heap) (n0 : Nat) (Z0 : n0 ≤ h0.size) :
    MetFree l (⟨"java/lang/Number", "<init>", "()V"⟩ : MethodName) (head1 (Jvm.Cond.code (⟨"java/lang/Number", "<init>", "()V"⟩ : MethodName) jdk_18_method_1_code 1 none :: ws) ({ frames := 1, cells := 0, slots := 0, locals := 12 } : Room)) (fun as_ U => as_ = #[(.ref a)] ∧ Z.Warmed39 U.vm ∧ U.heap = h0) (fun _ _ _ _ _ => True) (fun _ U o U' => ∃ rv_ L_, o = .returned rv_ ∧ Q_num Z a h0 n0 rv_ U'.heap L_ ∧ FrameEnd U o U' L_ ({ frames := 1, cells := 0, slots := 0, locals := 12 } : Room).cells ({ frames := 1, cells := 0, slots := 0, locals := 12 } : Room).slots) := by
  refine MetFree.of_bodySF (plainFor_of_name own_pn_java_lang_Number) hisR ?_
  intro p e s m args below meth c s₁ Bd hml0 hP hK
  obtain ⟨rfl, hZ, hh⟩ := hP
  have hx := Bd.exec
  have hby := Bd.bytes
  have hml : c.maxLocals = 1 := hml0
  have hown : s.vm.findClass "java/lang/Number" = some m.cls := findClass_of_methodNamed Bd.named
  have hnm := (name_of_methodNamed Bd.named Bd.method).1
  have X0 : Stand p l e ({ frames := 1, cells := 0, slots := 0, locals := 12 } : Room) s m #[(.ref a)] below meth c s₁ [] 0 0 := Stand.of_body Bd
  have e0 : s₁.heap = h0 := by rw [← hh, Bd.state]; rfl
  have N0 := Fr.nil n0
  refine own_Goes.of ?_
  refine own_Goes.nm (fun P hPP => ?_)
  refine own_Goes.st ?_ (fun _ k => castTop (own_ef_num m a) k)
  show own_Goes p.tables e below P (s₁.setTop (mkF m 0 #[.val (.ref a)] []))
  refine own_Goes.st ?_ (fun _ k => XS.aloadN X0.here hx rfl (hb hby own_d_jdk_18_method_1_0) rfl rfl k)
  show own_Goes p.tables e below P (s₁.setTop (mkF m 1 #[.val (.ref a)] [(.ref a)]))
  obtain ⟨T1, X1, e1, st1⟩ := initO X0 hx hZ hown (hw _ (List.mem_of_getElem? (i := 214) rfl)) (hw _ (List.mem_of_getElem? (i := 19) rfl)) (hw _ (List.mem_of_getElem? (i := 20) rfl)) e0 (g := (mkF m 1 #[.val (.ref a)] [(.ref a)])) rfl (by rw [hml]; rfl) rfl (hb hby own_d_jdk_18_method_1_1) (by decide) (W := 0) (by show 2 * 0 + _ ≤ _; exact Nat.le_of_eq rfl) (by decide)
  refine own_Goes.st ?_ st1
  show own_Goes p.tables e below P (T1.setTop (mkF m 4 #[.val (.ref a)] []))
  obtain ⟨fs, hr, hrun, hended, hW, hsame⟩ := X1.leave (v := none) (fun _ => rfl)
  exact own_Goes.fin _ _ (X1.returnOut hx Bd.returns (hb hby own_d_jdk_18_method_1_4) hr) (hPP _ _ ⟨hrun, hended, _, _, rfl, (by show Q_num Z a h0 n0 _ T1.heap _; rw [e1]; exact ⟨rfl, N0, rfl⟩), ⟨_, rfl⟩, hW, hsame.mono (by decide) (by decide)⟩)
theorem own_ef_aic (m : MethodId) (x0 : Addr) : entryFrame m #[(.ref x0)] 1 = mkF m 0 #[.val (.ref x0)] [] := by first | (simp [entryFrame, mkF, argsToLocals, Value.category]; done) | rfl
theorem own_pn_java_util_ImmutableCollections_AbstractImmutableCollection : plainName "java/util/ImmutableCollections$AbstractImmutableCollection" = true := by first | (simp [plainName, overriddenIn]; done) | decide +kernel
theorem own_d_jdk_47_method_1_0 : decode jdk_47_method_1_code 0 = .ok (.aload_n 0, 1) := by decide +kernel
theorem own_pd__28__29_V : parseMethodDescriptor "()V" = some ⟨[], none⟩ := by decide +kernel
theorem own_d_jdk_47_method_1_1 : decode jdk_47_method_1_code 1 = .ok (.invokespecial 1, 3) := by decide +kernel
theorem own_d_jdk_47_method_1_4 : decode jdk_47_method_1_code 4 = .ok (.return_, 1) := by decide +kernel
def Q_aic (Z : State) (a : Addr) (h0 : Heap) (n0 : Nat) (rv_ : Option Value) (h_ : Heap) (L_ : List Loc) : Prop := rv_ = none ∧ Fr n0 L_ ∧ h_ = h0
set_option maxRecDepth 65536 in
set_option maxHeartbeats 40000000 in
theorem rm_aic (l : Launch) (Z : State) (a0 : Array Value) (hw : ∀ d ∈ tables_1, d.before a0 Z = true) (ws : List Jvm.Cond) (a : Addr) (h0 : Heap) (n0 : Nat) (Z0 : n0 ≤ h0.size) :
    MetFree l (⟨"java/util/ImmutableCollections$AbstractImmutableCollection", "<init>", "()V"⟩ : MethodName) (head1 (Jvm.Cond.code (⟨"java/util/ImmutableCollections$AbstractImmutableCollection", "<init>", "()V"⟩ : MethodName) jdk_47_method_1_code 1 none :: ws) ({ frames := 2, cells := 0, slots := 0, locals := 24 } : Room)) (fun as_ U => as_ = #[(.ref a)] ∧ Z.Warmed39 U.vm ∧ U.heap = h0) (fun _ _ _ _ _ => True) (fun _ U o U' => ∃ rv_ L_, o = .returned rv_ ∧ Q_aic Z a h0 n0 rv_ U'.heap L_ ∧ FrameEnd U o U' L_ ({ frames := 2, cells := 0, slots := 0, locals := 24 } : Room).cells ({ frames := 2, cells := 0, slots := 0, locals := 24 } : Room).slots) := by
  refine MetFree.of_bodySF (plainFor_of_name own_pn_java_util_ImmutableCollections_AbstractImmutableCollection) hisR ?_
  intro p e s m args below meth c s₁ Bd hml0 hP hK
  obtain ⟨rfl, hZ, hh⟩ := hP
  have hx := Bd.exec
  have hby := Bd.bytes
  have hml : c.maxLocals = 1 := hml0
  have hown : s.vm.findClass "java/util/ImmutableCollections$AbstractImmutableCollection" = some m.cls := findClass_of_methodNamed Bd.named
  have hnm := (name_of_methodNamed Bd.named Bd.method).1
  have X0 : Stand p l e ({ frames := 2, cells := 0, slots := 0, locals := 24 } : Room) s m #[(.ref a)] below meth c s₁ [] 0 0 := Stand.of_body Bd
  have e0 : s₁.heap = h0 := by rw [← hh, Bd.state]; rfl
  have N0 := Fr.nil n0
  refine own_Goes.of ?_
  refine own_Goes.nm (fun P hPP => ?_)
  refine own_Goes.st ?_ (fun _ k => castTop (own_ef_aic m a) k)
  show own_Goes p.tables e below P (s₁.setTop (mkF m 0 #[.val (.ref a)] []))
  refine own_Goes.st ?_ (fun _ k => XS.aloadN X0.here hx rfl (hb hby own_d_jdk_47_method_1_0) rfl rfl k)
  show own_Goes p.tables e below P (s₁.setTop (mkF m 1 #[.val (.ref a)] [(.ref a)]))
  obtain ⟨_, _, ⟨T1, L1, k1, n1⟩, -, X1, ⟨Lc1, hQ1, l1, y1, z1⟩, st1⟩ := X0.specialBack hx (y := (⟨"java/util/AbstractCollection", "<init>", "()V"⟩ : MethodName)) rfl hown (mvT hZ (hw _ (List.mem_of_getElem? (i := 183) rfl))) (mvT hZ (hw _ (List.mem_of_getElem? (i := 13) rfl))) (mvT hZ (hw _ (List.mem_of_getElem? (i := 17) rfl))) (by decide) (backOf (W := 0) (rm_abc l Z a0 hw [] a h0 n0 Z0) hZ (hw _ (List.mem_of_getElem? (i := 17) rfl)) (hw _ (List.mem_of_getElem? (i := 16) rfl)) (by decide) (by decide)) (g := (mkF m 1 #[.val (.ref a)] [(.ref a)])) rfl (by rw [hml]; rfl) (Steps.refl _) (a := a) (argsL := []) (rest := []) (lenOf own_pd__28__29_V rfl) rfl (by show 2 * 0 + _ ≤ _; exact Nat.le_of_eq rfl) (hb hby own_d_jdk_47_method_1_1) (fun _ _ => ⟨rfl, e0, (by decide : 0 + 0 ≤ _), (by decide : 0 + 0 ≤ _)⟩)
  dsimp only [Pt.U, Pt.locs, Pt.cells, Pt.slots] at X1 l1 y1 z1 st1 hQ1
  rw [l1, y1, z1] at X1
  obtain ⟨rfl, Nq1, e1⟩ := hQ1
  have N1 := Fr.app N0 Nq1
  refine own_Goes.tr st1 ?_
  show own_Goes p.tables e below P (T1.setTop (mkF m 4 #[.val (.ref a)] []))
  obtain ⟨fs, hr, hrun, hended, hW, hsame⟩ := X1.leave (v := none) (fun _ => rfl)
  exact own_Goes.fin _ _ (X1.returnOut hx Bd.returns (hb hby own_d_jdk_47_method_1_4) hr) (hPP _ _ ⟨hrun, hended, _, _, rfl, (by show Q_aic Z a h0 n0 _ T1.heap _; rw [e1]; exact ⟨rfl, N1, rfl⟩), ⟨_, rfl⟩, hW, hsame.mono (by decide) (by decide)⟩)
theorem own_ef_ail (m : MethodId) (x0 : Addr) : entryFrame m #[(.ref x0)] 1 = mkF m 0 #[.val (.ref x0)] [] := by first | (simp [entryFrame, mkF, argsToLocals, Value.category]; done) | rfl
theorem own_pn_java_util_ImmutableCollections_AbstractImmutableList : plainName "java/util/ImmutableCollections$AbstractImmutableList" = true := by first | (simp [plainName, overriddenIn]; done) | decide +kernel
theorem own_d_jdk_46_method_1_0 : decode jdk_46_method_1_code 0 = .ok (.aload_n 0, 1) := by decide +kernel
theorem own_d_jdk_46_method_1_1 : decode jdk_46_method_1_code 1 = .ok (.invokespecial 1, 3) := by decide +kernel
theorem own_d_jdk_46_method_1_4 : decode jdk_46_method_1_code 4 = .ok (.return_, 1) := by decide +kernel
def Q_ail (Z : State) (a : Addr) (h0 : Heap) (n0 : Nat) (rv_ : Option Value) (h_ : Heap) (L_ : List Loc) : Prop := rv_ = none ∧ Fr n0 L_ ∧ h_ = h0
set_option maxRecDepth 65536 in
set_option maxHeartbeats 40000000 in
theorem rm_ail (l : Launch) (Z : State) (a0 : Array Value) (hw : ∀ d ∈ tables_1, d.before a0 Z = true) (ws : List Jvm.Cond) (a : Addr) (h0 : Heap) (n0 : Nat) (Z0 : n0 ≤ h0.size) :
    MetFree l (⟨"java/util/ImmutableCollections$AbstractImmutableList", "<init>", "()V"⟩ : MethodName) (head1 (Jvm.Cond.code (⟨"java/util/ImmutableCollections$AbstractImmutableList", "<init>", "()V"⟩ : MethodName) jdk_46_method_1_code 1 none :: ws) ({ frames := 3, cells := 0, slots := 0, locals := 36 } : Room)) (fun as_ U => as_ = #[(.ref a)] ∧ Z.Warmed39 U.vm ∧ U.heap = h0) (fun _ _ _ _ _ => True) (fun _ U o U' => ∃ rv_ L_, o = .returned rv_ ∧ Q_ail Z a h0 n0 rv_ U'.heap L_ ∧ FrameEnd U o U' L_ ({ frames := 3, cells := 0, slots := 0, locals := 36 } : Room).cells ({ frames := 3, cells := 0, slots := 0, locals := 36 } : Room).slots) := by
  refine MetFree.of_bodySF (plainFor_of_name own_pn_java_util_ImmutableCollections_AbstractImmutableList) hisR ?_
  intro p e s m args below meth c s₁ Bd hml0 hP hK
  obtain ⟨rfl, hZ, hh⟩ := hP
  have hx := Bd.exec
  have hby := Bd.bytes
  have hml : c.maxLocals = 1 := hml0
  have hown : s.vm.findClass "java/util/ImmutableCollections$AbstractImmutableList" = some m.cls := findClass_of_methodNamed Bd.named
  have hnm := (name_of_methodNamed Bd.named Bd.method).1
  have X0 : Stand p l e ({ frames := 3, cells := 0, slots := 0, locals := 36 } : Room) s m #[(.ref a)] below meth c s₁ [] 0 0 := Stand.of_body Bd
  have e0 : s₁.heap = h0 := by rw [← hh, Bd.state]; rfl
  have N0 := Fr.nil n0
  refine own_Goes.of ?_
  refine own_Goes.nm (fun P hPP => ?_)
  refine own_Goes.st ?_ (fun _ k => castTop (own_ef_ail m a) k)
  show own_Goes p.tables e below P (s₁.setTop (mkF m 0 #[.val (.ref a)] []))
  refine own_Goes.st ?_ (fun _ k => XS.aloadN X0.here hx rfl (hb hby own_d_jdk_46_method_1_0) rfl rfl k)
  show own_Goes p.tables e below P (s₁.setTop (mkF m 1 #[.val (.ref a)] [(.ref a)]))
  obtain ⟨_, _, ⟨T1, L1, k1, n1⟩, -, X1, ⟨Lc1, hQ1, l1, y1, z1⟩, st1⟩ := X0.specialBack hx (y := (⟨"java/util/ImmutableCollections$AbstractImmutableCollection", "<init>", "()V"⟩ : MethodName)) rfl hown (mvT hZ (hw _ (List.mem_of_getElem? (i := 177) rfl))) (mvT hZ (hw _ (List.mem_of_getElem? (i := 178) rfl))) (mvT hZ (hw _ (List.mem_of_getElem? (i := 182) rfl))) (by decide) (backOf (W := 0) (rm_aic l Z a0 hw [] a h0 n0 Z0) hZ (hw _ (List.mem_of_getElem? (i := 182) rfl)) (hw _ (List.mem_of_getElem? (i := 181) rfl)) (by decide) (by decide)) (g := (mkF m 1 #[.val (.ref a)] [(.ref a)])) rfl (by rw [hml]; rfl) (Steps.refl _) (a := a) (argsL := []) (rest := []) (lenOf own_pd__28__29_V rfl) rfl (by show 2 * 0 + _ ≤ _; exact Nat.le_of_eq rfl) (hb hby own_d_jdk_46_method_1_1) (fun _ _ => ⟨rfl, e0, (by decide : 0 + 0 ≤ _), (by decide : 0 + 0 ≤ _)⟩)
  dsimp only [Pt.U, Pt.locs, Pt.cells, Pt.slots] at X1 l1 y1 z1 st1 hQ1
  rw [l1, y1, z1] at X1
  obtain ⟨rfl, Nq1, e1⟩ := hQ1
  have N1 := Fr.app N0 Nq1
  refine own_Goes.tr st1 ?_
  show own_Goes p.tables e below P (T1.setTop (mkF m 4 #[.val (.ref a)] []))
  obtain ⟨fs, hr, hrun, hended, hW, hsame⟩ := X1.leave (v := none) (fun _ => rfl)
  exact own_Goes.fin _ _ (X1.returnOut hx Bd.returns (hb hby own_d_jdk_46_method_1_4) hr) (hPP _ _ ⟨hrun, hended, _, _, rfl, (by show Q_ail Z a h0 n0 _ T1.heap _; rw [e1]; exact ⟨rfl, N1, rfl⟩), ⟨_, rfl⟩, hW, hsame.mono (by decide) (by decide)⟩)
theorem own_ef_imin (m : MethodId) (x0 : Int32) (x1 : Int32) : entryFrame m #[(.int x0), (.int x1)] 2 = mkF m 0 #[.val (.int x0), .val (.int x1)] [] := by first | (simp [entryFrame, mkF, argsToLocals, Value.category]; done) | rfl
theorem own_d_jdk_29_method_69_0 : decode jdk_29_method_69_code 0 = .ok (.iload_n 0, 1) := by decide +kernel
theorem own_d_jdk_29_method_69_1 : decode jdk_29_method_69_code 1 = .ok (.iload_n 1, 1) := by decide +kernel
theorem own_d_jdk_29_method_69_2 : decode jdk_29_method_69_code 2 = .ok (.if_icmp .gt 7, 3) := by decide +kernel
theorem own_d_jdk_29_method_69_9 : decode jdk_29_method_69_code 9 = .ok (.iload_n 1, 1) := by decide +kernel
theorem own_d_jdk_29_method_69_10 : decode jdk_29_method_69_code 10 = .ok (.ireturn, 1) := by decide +kernel
theorem own_d_jdk_29_method_69_5 : decode jdk_29_method_69_code 5 = .ok (.iload_n 0, 1) := by decide +kernel
theorem own_d_jdk_29_method_69_6 : decode jdk_29_method_69_code 6 = .ok (.goto 4, 3) := by decide +kernel
def Q_imin (Z : State) (i : Int32) (j : Int32) (h0 : Heap) (n0 : Nat) (rv_ : Option Value) (h_ : Heap) (L_ : List Loc) : Prop := rv_ = some (.int (own_imin i j)) ∧ Fr n0 L_ ∧ h_ = h0
set_option maxRecDepth 65536 in
set_option maxHeartbeats 40000000 in
theorem rm_imin (l : Launch) (Z : State) (a0 : Array Value) (hw : ∀ d ∈ tables_1, d.before a0 Z = true) (ws : List Jvm.Cond) (i : Int32) (j : Int32) (h0 : Heap) (n0 : Nat) (Z0 : n0 ≤ h0.size) :
    MetFree l (⟨"java/lang/Math", "min", "(II)I"⟩ : MethodName) (head1 (Jvm.Cond.code (⟨"java/lang/Math", "min", "(II)I"⟩ : MethodName) jdk_29_method_69_code 2 (some .int) :: ws) ({ frames := 0, cells := 0, slots := 0, locals := 0 } : Room)) (fun as_ U => as_ = #[(.int i), (.int j)] ∧ Z.Warmed39 U.vm ∧ U.heap = h0) (fun _ _ _ _ _ => True) (fun _ U o U' => ∃ rv_ L_, o = .returned rv_ ∧ Q_imin Z i j h0 n0 rv_ U'.heap L_ ∧ FrameEnd U o U' L_ ({ frames := 0, cells := 0, slots := 0, locals := 0 } : Room).cells ({ frames := 0, cells := 0, slots := 0, locals := 0 } : Room).slots) := by
  refine MetFree.of_bodySF (by decide +kernel) hisR ?_
  intro p e s m args below meth c s₁ Bd hml0 hP hK
  obtain ⟨rfl, hZ, hh⟩ := hP
  have hx := Bd.exec
  have hby := Bd.bytes
  have hml : c.maxLocals = 2 := hml0
  have hown : s.vm.findClass "java/lang/Math" = some m.cls := findClass_of_methodNamed Bd.named
  have hnm := (name_of_methodNamed Bd.named Bd.method).1
  have X0 : Stand p l e ({ frames := 0, cells := 0, slots := 0, locals := 0 } : Room) s m #[(.int i), (.int j)] below meth c s₁ [] 0 0 := Stand.of_body Bd
  have e0 : s₁.heap = h0 := by rw [← hh, Bd.state]; rfl
  have N0 := Fr.nil n0
  refine own_Goes.of ?_
  refine own_Goes.nm (fun P hPP => ?_)
  refine own_Goes.st ?_ (fun _ k => castTop (own_ef_imin m i j) k)
  show own_Goes p.tables e below P (s₁.setTop (mkF m 0 #[.val (.int i), .val (.int j)] []))
  refine own_Goes.st ?_ (fun _ k => XS.iloadN X0.here hx rfl (hb hby own_d_jdk_29_method_69_0) rfl k)
  show own_Goes p.tables e below P (s₁.setTop (mkF m 1 #[.val (.int i), .val (.int j)] [(.int i)]))
  refine own_Goes.st ?_ (fun _ k => XS.iloadN X0.here hx rfl (hb hby own_d_jdk_29_method_69_1) rfl k)
  show own_Goes p.tables e below P (s₁.setTop (mkF m 2 #[.val (.int i), .val (.int j)] [(.int j), (.int i)]))
  by_cases h1 : j < i
  · skip
    refine own_Goes.st ?_ (fun _ k => XS.icmpYes X0.here hx rfl (pc0 := 2) (pc' := 9) rfl (hb hby own_d_jdk_29_method_69_2) rfl (tlt h1).2.2.1 (by decide) (by decide) k)
    show own_Goes p.tables e below P (s₁.setTop (mkF m 9 #[.val (.int i), .val (.int j)] []))
    refine own_Goes.st ?_ (fun _ k => XS.iloadN X0.here hx rfl (hb hby own_d_jdk_29_method_69_9) rfl k)
    show own_Goes p.tables e below P (s₁.setTop (mkF m 10 #[.val (.int i), .val (.int j)] [(.int j)]))
    obtain ⟨fs, hr, hrun, hended, hW, hsame⟩ := X0.leave (v := some (.int j)) (fun h => by rw [Bd.returns] at h; cases h)
    exact own_Goes.fin _ _ (retOut X0 hx (t := .int) Bd.returns rfl (Or.inl ⟨rfl, Or.inl rfl, _, rfl⟩) (hb hby own_d_jdk_29_method_69_10) hr) (hPP _ _ ⟨hrun, hended, _, _, rfl, (by show Q_imin Z i j h0 n0 _ s₁.heap _; rw [e0]; exact ⟨(by rw [own_imin, if_pos h1]), N0, rfl⟩), ⟨_, rfl⟩, hW, hsame.mono (by decide) (by decide)⟩)
  · skip
    refine own_Goes.st ?_ (fun _ k => XS.icmpNo X0.here hx rfl (hb hby own_d_jdk_29_method_69_2) rfl (flt h1).2.2.1 k)
    show own_Goes p.tables e below P (s₁.setTop (mkF m 5 #[.val (.int i), .val (.int j)] []))
    refine own_Goes.st ?_ (fun _ k => XS.iloadN X0.here hx rfl (hb hby own_d_jdk_29_method_69_5) rfl k)
    show own_Goes p.tables e below P (s₁.setTop (mkF m 6 #[.val (.int i), .val (.int j)] [(.int i)]))
    refine own_Goes.st ?_ (fun _ k => XS.goto X0.here hx rfl (pc0 := 6) (pc' := 10) rfl (hb hby own_d_jdk_29_method_69_6) (by decide) (by decide) k)
    show own_Goes p.tables e below P (s₁.setTop (mkF m 10 #[.val (.int i), .val (.int j)] [(.int i)]))
    obtain ⟨fs, hr, hrun, hended, hW, hsame⟩ := X0.leave (v := some (.int i)) (fun h => by rw [Bd.returns] at h; cases h)
    exact own_Goes.fin _ _ (retOut X0 hx (t := .int) Bd.returns rfl (Or.inl ⟨rfl, Or.inl rfl, _, rfl⟩) (hb hby own_d_jdk_29_method_69_10) hr) (hPP _ _ ⟨hrun, hended, _, _, rfl, (by show Q_imin Z i j h0 n0 _ s₁.heap _; rw [e0]; exact ⟨(by rw [own_imin, if_neg h1]), N0, rfl⟩), ⟨_, rfl⟩, hW, hsame.mono (by decide) (by decide)⟩)
theorem own_ef_imax (m : MethodId) (x0 : Int32) (x1 : Int32) : entryFrame m #[(.int x0), (.int x1)] 2 = mkF m 0 #[.val (.int x0), .val (.int x1)] [] := by first | (simp [entryFrame, mkF, argsToLocals, Value.category]; done) | rfl
theorem own_d_jdk_29_method_65_0 : decode jdk_29_method_65_code 0 = .ok (.iload_n 0, 1) := by decide +kernel
theorem own_d_jdk_29_method_65_1 : decode jdk_29_method_65_code 1 = .ok (.iload_n 1, 1) := by decide +kernel
theorem own_d_jdk_29_method_65_2 : decode jdk_29_method_65_code 2 = .ok (.if_icmp .lt 7, 3) := by decide +kernel
theorem own_d_jdk_29_method_65_9 : decode jdk_29_method_65_code 9 = .ok (.iload_n 1, 1) := by decide +kernel
theorem own_d_jdk_29_method_65_10 : decode jdk_29_method_65_code 10 = .ok (.ireturn, 1) := by decide +kernel
theorem own_d_jdk_29_method_65_5 : decode jdk_29_method_65_code 5 = .ok (.iload_n 0, 1) := by decide +kernel
theorem own_d_jdk_29_method_65_6 : decode jdk_29_method_65_code 6 = .ok (.goto 4, 3) := by decide +kernel
def Q_imax (Z : State) (i : Int32) (j : Int32) (h0 : Heap) (n0 : Nat) (rv_ : Option Value) (h_ : Heap) (L_ : List Loc) : Prop := rv_ = some (.int (own_imax i j)) ∧ Fr n0 L_ ∧ h_ = h0
set_option maxRecDepth 65536 in
set_option maxHeartbeats 40000000 in
theorem rm_imax (l : Launch) (Z : State) (a0 : Array Value) (hw : ∀ d ∈ tables_1, d.before a0 Z = true) (ws : List Jvm.Cond) (i : Int32) (j : Int32) (h0 : Heap) (n0 : Nat) (Z0 : n0 ≤ h0.size) :
    MetFree l (⟨"java/lang/Math", "max", "(II)I"⟩ : MethodName) (head1 (Jvm.Cond.code (⟨"java/lang/Math", "max", "(II)I"⟩ : MethodName) jdk_29_method_65_code 2 (some .int) :: ws) ({ frames := 0, cells := 0, slots := 0, locals := 0 } : Room)) (fun as_ U => as_ = #[(.int i), (.int j)] ∧ Z.Warmed39 U.vm ∧ U.heap = h0) (fun _ _ _ _ _ => True) (fun _ U o U' => ∃ rv_ L_, o = .returned rv_ ∧ Q_imax Z i j h0 n0 rv_ U'.heap L_ ∧ FrameEnd U o U' L_ ({ frames := 0, cells := 0, slots := 0, locals := 0 } : Room).cells ({ frames := 0, cells := 0, slots := 0, locals := 0 } : Room).slots) := by
  refine MetFree.of_bodySF (by decide +kernel) hisR ?_
  intro p e s m args below meth c s₁ Bd hml0 hP hK
  obtain ⟨rfl, hZ, hh⟩ := hP
  have hx := Bd.exec
  have hby := Bd.bytes
  have hml : c.maxLocals = 2 := hml0
  have hown : s.vm.findClass "java/lang/Math" = some m.cls := findClass_of_methodNamed Bd.named
  have hnm := (name_of_methodNamed Bd.named Bd.method).1
  have X0 : Stand p l e ({ frames := 0, cells := 0, slots := 0, locals := 0 } : Room) s m #[(.int i), (.int j)] below meth c s₁ [] 0 0 := Stand.of_body Bd
  have e0 : s₁.heap = h0 := by rw [← hh, Bd.state]; rfl
  have N0 := Fr.nil n0
  refine own_Goes.of ?_
  refine own_Goes.nm (fun P hPP => ?_)
  refine own_Goes.st ?_ (fun _ k => castTop (own_ef_imax m i j) k)
  show own_Goes p.tables e below P (s₁.setTop (mkF m 0 #[.val (.int i), .val (.int j)] []))
  refine own_Goes.st ?_ (fun _ k => XS.iloadN X0.here hx rfl (hb hby own_d_jdk_29_method_65_0) rfl k)
  show own_Goes p.tables e below P (s₁.setTop (mkF m 1 #[.val (.int i), .val (.int j)] [(.int i)]))
  refine own_Goes.st ?_ (fun _ k => XS.iloadN X0.here hx rfl (hb hby own_d_jdk_29_method_65_1) rfl k)
  show own_Goes p.tables e below P (s₁.setTop (mkF m 2 #[.val (.int i), .val (.int j)] [(.int j), (.int i)]))
  by_cases h1 : i < j
  · skip
    refine own_Goes.st ?_ (fun _ k => XS.icmpYes X0.here hx rfl (pc0 := 2) (pc' := 9) rfl (hb hby own_d_jdk_29_method_65_2) rfl (tlt h1).1 (by decide) (by decide) k)
    show own_Goes p.tables e below P (s₁.setTop (mkF m 9 #[.val (.int i), .val (.int j)] []))
    refine own_Goes.st ?_ (fun _ k => XS.iloadN X0.here hx rfl (hb hby own_d_jdk_29_method_65_9) rfl k)
    show own_Goes p.tables e below P (s₁.setTop (mkF m 10 #[.val (.int i), .val (.int j)] [(.int j)]))
    obtain ⟨fs, hr, hrun, hended, hW, hsame⟩ := X0.leave (v := some (.int j)) (fun h => by rw [Bd.returns] at h; cases h)
    exact own_Goes.fin _ _ (retOut X0 hx (t := .int) Bd.returns rfl (Or.inl ⟨rfl, Or.inl rfl, _, rfl⟩) (hb hby own_d_jdk_29_method_65_10) hr) (hPP _ _ ⟨hrun, hended, _, _, rfl, (by show Q_imax Z i j h0 n0 _ s₁.heap _; rw [e0]; exact ⟨(by rw [own_imax, if_pos h1]), N0, rfl⟩), ⟨_, rfl⟩, hW, hsame.mono (by decide) (by decide)⟩)
  · skip
    refine own_Goes.st ?_ (fun _ k => XS.icmpNo X0.here hx rfl (hb hby own_d_jdk_29_method_65_2) rfl (flt h1).1 k)
    show own_Goes p.tables e below P (s₁.setTop (mkF m 5 #[.val (.int i), .val (.int j)] []))
    refine own_Goes.st ?_ (fun _ k => XS.iloadN X0.here hx rfl (hb hby own_d_jdk_29_method_65_5) rfl k)
    show own_Goes p.tables e below P (s₁.setTop (mkF m 6 #[.val (.int i), .val (.int j)] [(.int i)]))
    refine own_Goes.st ?_ (fun _ k => XS.goto X0.here hx rfl (pc0 := 6) (pc' := 10) rfl (hb hby own_d_jdk_29_method_65_6) (by decide) (by decide) k)
    show own_Goes p.tables e below P (s₁.setTop (mkF m 10 #[.val (.int i), .val (.int j)] [(.int i)]))
    obtain ⟨fs, hr, hrun, hended, hW, hsame⟩ := X0.leave (v := some (.int i)) (fun h => by rw [Bd.returns] at h; cases h)
    exact own_Goes.fin _ _ (retOut X0 hx (t := .int) Bd.returns rfl (Or.inl ⟨rfl, Or.inl rfl, _, rfl⟩) (hb hby own_d_jdk_29_method_65_10) hr) (hPP _ _ ⟨hrun, hended, _, _, rfl, (by show Q_imax Z i j h0 n0 _ s₁.heap _; rw [e0]; exact ⟨(by rw [own_imax, if_neg h1]), N0, rfl⟩), ⟨_, rfl⟩, hW, hsame.mono (by decide) (by decide)⟩)
theorem own_ef_abl (m : MethodId) (x0 : Addr) : entryFrame m #[(.ref x0)] 1 = mkF m 0 #[.val (.ref x0)] [] := by first | (simp [entryFrame, mkF, argsToLocals, Value.category]; done) | rfl
theorem own_pn_java_util_AbstractList : plainName "java/util/AbstractList" = true := by first | (simp [plainName, overriddenIn]; done) | decide +kernel
theorem own_d_jdk_39_method_1_0 : decode jdk_39_method_1_code 0 = .ok (.aload_n 0, 1) := by decide +kernel
theorem own_d_jdk_39_method_1_1 : decode jdk_39_method_1_code 1 = .ok (.invokespecial 1, 3) := by decide +kernel
theorem own_d_jdk_39_method_1_4 : decode jdk_39_method_1_code 4 = .ok (.aload_n 0, 1) := by decide +kernel
theorem own_d_jdk_39_method_1_5 : decode jdk_39_method_1_code 5 = .ok (.iconst 0, 1) := by decide +kernel
theorem own_d_jdk_39_method_1_6 : decode jdk_39_method_1_code 6 = .ok (.putfield 7, 3) := by decide +kernel
theorem own_d_jdk_39_method_1_9 : decode jdk_39_method_1_code 9 = .ok (.return_, 1) := by decide +kernel
def Q_abl (Z : State) (a : Addr) (u1 : Value) (u2 : Value) (h0 : Heap) (n0 : Nat) (rv_ : Option Value) (h_ : Heap) (L_ : List Loc) : Prop := rv_ = none ∧ Fr n0 L_ ∧ Keep h0 h_ [a] ∧ (Exa Z h_ a "java/util/ArrayList") ∧ (Fld Z h_ a "java/util/AbstractList" "modCount" "I" (.int (0 : Int32))) ∧ (Fld Z h_ a "java/util/ArrayList" "elementData" "[Ljava/lang/Object;" u2) ∧ (Fld Z h_ a "java/util/ArrayList" "size" "I" (.int (0 : Int32)))
set_option maxRecDepth 65536 in
set_option maxHeartbeats 40000000 in
theorem rm_abl (l : Launch) (Z : State) (a0 : Array Value) (hw : ∀ d ∈ tables_1, d.before a0 Z = true) (ws : List Jvm.Cond) (a : Addr) (u1 : Value) (u2 : Value) (h0 : Heap) (n0 : Nat) (Z0 : n0 ≤ h0.size) (pr0 : Exa Z h0 a "java/util/ArrayList") (pr1 : Fld Z h0 a "java/util/AbstractList" "modCount" "I" u1) (pr2 : Fld Z h0 a "java/util/ArrayList" "elementData" "[Ljava/lang/Object;" u2) (pr3 : Fld Z h0 a "java/util/ArrayList" "size" "I" (.int (0 : Int32))) (pr4 : n0 ≤ a) :
    MetFree l (⟨"java/util/AbstractList", "<init>", "()V"⟩ : MethodName) (head1 (Jvm.Cond.code (⟨"java/util/AbstractList", "<init>", "()V"⟩ : MethodName) jdk_39_method_1_code 1 none :: ws) ({ frames := 2, cells := 0, slots := 0, locals := 24 } : Room)) (fun as_ U => as_ = #[(.ref a)] ∧ Z.Warmed39 U.vm ∧ U.heap = h0) (fun _ _ _ _ _ => True) (fun _ U o U' => ∃ rv_ L_, o = .returned rv_ ∧ Q_abl Z a u1 u2 h0 n0 rv_ U'.heap L_ ∧ FrameEnd U o U' L_ ({ frames := 2, cells := 0, slots := 0, locals := 24 } : Room).cells ({ frames := 2, cells := 0, slots := 0, locals := 24 } : Room).slots) := by
  refine MetFree.of_bodySF (plainFor_of_name own_pn_java_util_AbstractList) hisR ?_
  intro p e s m args below meth c s₁ Bd hml0 hP hK
  obtain ⟨rfl, hZ, hh⟩ := hP
  have hx := Bd.exec
  have hby := Bd.bytes
  have hml : c.maxLocals = 1 := hml0
  have hown : s.vm.findClass "java/util/AbstractList" = some m.cls := findClass_of_methodNamed Bd.named
  have hnm := (name_of_methodNamed Bd.named Bd.method).1
  have X0 : Stand p l e ({ frames := 2, cells := 0, slots := 0, locals := 24 } : Room) s m #[(.ref a)] below meth c s₁ [] 0 0 := Stand.of_body Bd
  have e0 : s₁.heap = h0 := by rw [← hh, Bd.state]; rfl
  have N0 := Fr.nil n0
  refine own_Goes.of ?_
  refine own_Goes.nm (fun P hPP => ?_)
  refine own_Goes.st ?_ (fun _ k => castTop (own_ef_abl m a) k)
  have K0 : Keep h0 h0 [a] := Keep.refl _ _
  show own_Goes p.tables e below P (s₁.setTop (mkF m 0 #[.val (.ref a)] []))
  refine own_Goes.st ?_ (fun _ k => XS.aloadN X0.here hx rfl (hb hby own_d_jdk_39_method_1_0) rfl rfl k)
  show own_Goes p.tables e below P (s₁.setTop (mkF m 1 #[.val (.ref a)] [(.ref a)]))
  obtain ⟨_, _, ⟨T1, L1, k1, n1⟩, -, X1, ⟨Lc1, hQ1, l1, y1, z1⟩, st1⟩ := X0.specialBack hx (y := (⟨"java/util/AbstractCollection", "<init>", "()V"⟩ : MethodName)) rfl hown (mvT hZ (hw _ (List.mem_of_getElem? (i := 12) rfl))) (mvT hZ (hw _ (List.mem_of_getElem? (i := 13) rfl))) (mvT hZ (hw _ (List.mem_of_getElem? (i := 17) rfl))) (by decide) (backOf (W := 0) (rm_abc l Z a0 hw [] a h0 n0 Z0) hZ (hw _ (List.mem_of_getElem? (i := 17) rfl)) (hw _ (List.mem_of_getElem? (i := 16) rfl)) (by decide) (by decide)) (g := (mkF m 1 #[.val (.ref a)] [(.ref a)])) rfl (by rw [hml]; rfl) (Steps.refl _) (a := a) (argsL := []) (rest := []) (lenOf own_pd__28__29_V rfl) rfl (by show 2 * 0 + _ ≤ _; exact Nat.le_of_eq rfl) (hb hby own_d_jdk_39_method_1_1) (fun _ _ => ⟨rfl, e0, (by decide : 0 + 0 ≤ _), (by decide : 0 + 0 ≤ _)⟩)
  dsimp only [Pt.U, Pt.locs, Pt.cells, Pt.slots] at X1 l1 y1 z1 st1 hQ1
  rw [l1, y1, z1] at X1
  obtain ⟨rfl, Nq1, e1⟩ := hQ1
  have N1 := Fr.app N0 Nq1
  refine own_Goes.tr st1 ?_
  show own_Goes p.tables e below P (T1.setTop (mkF m 4 #[.val (.ref a)] []))
  refine own_Goes.st ?_ (fun _ k => XS.aloadN X1.here hx rfl (hb hby own_d_jdk_39_method_1_4) rfl rfl k)
  show own_Goes p.tables e below P (T1.setTop (mkF m 5 #[.val (.ref a)] [(.ref a)]))
  refine own_Goes.st ?_ (fun _ k => XS.iconst X1.here hx rfl (hb hby own_d_jdk_39_method_1_5) k)
  show own_Goes p.tables e below P (T1.setTop (mkF m 6 #[.val (.ref a)] [(.int (0 : Int32)), (.ref a)]))
  obtain ⟨T2, h2, X2, e2, W2, st2⟩ := putF X1 hx hZ hown (host := "") (Or.inl (hw _ (List.mem_of_getElem? (i := 21) rfl))) Via.refl e1 pr1 pr0 (Or.inl (hw _ (List.mem_of_getElem? (i := 22) rfl))) (hw _ (List.mem_of_getElem? (i := 1) rfl)) (ty := .int) (by decide) rfl rfl (g := (mkF m 6 #[.val (.ref a)] [(.int (0 : Int32)), (.ref a)])) rfl rfl (hb hby own_d_jdk_39_method_1_6)
  refine own_Goes.st ?_ st2
  have F3 : Fld Z h2 a "java/util/AbstractList" "modCount" "I" (.int (0 : Int32)) := pr1.same W2
  have Z4 : n0 ≤ h2.size := by rw [W2.size]; exact Z0
  have K5 := K0.wr W2 (Or.inl (List.mem_of_getElem? (i := 0) rfl))
  have N6 := Fr.snoc X2 N1 pr4
  show own_Goes p.tables e below P (T2.setTop (mkF m 9 #[.val (.ref a)] []))
  obtain ⟨fs, hr, hrun, hended, hW, hsame⟩ := X2.leave (v := none) (fun _ => rfl)
  have F7 : Exa Z h2 a "java/util/ArrayList" := (pr0.wr W2)
  have F8 : Fld Z h2 a "java/util/ArrayList" "elementData" "[Ljava/lang/Object;" u2 := (pr2.other W2 (Or.inr (slot_ne (Or.inl (hw _ (List.mem_of_getElem? (i := 25) rfl))) (Or.inl (hw _ (List.mem_of_getElem? (i := 22) rfl))) (by decide) (t := (.array (.object "java/lang/Object"))) (t' := .int) (by decide) (by decide))))
  have F9 : Fld Z h2 a "java/util/ArrayList" "size" "I" (.int (0 : Int32)) := (pr3.other W2 (Or.inr (slot_ne (Or.inl (hw _ (List.mem_of_getElem? (i := 62) rfl))) (Or.inl (hw _ (List.mem_of_getElem? (i := 22) rfl))) (by decide) (t := .int) (t' := .int) (by decide) (by decide))))
  exact own_Goes.fin _ _ (X2.returnOut hx Bd.returns (hb hby own_d_jdk_39_method_1_9) hr) (hPP _ _ ⟨hrun, hended, _, _, rfl, (by show Q_abl Z a u1 u2 h0 n0 _ T2.heap _; rw [e2]; exact ⟨rfl, N6, K5, F7, F3, F8, F9⟩), ⟨_, rfl⟩, hW, hsame.mono (by decide) (by decide)⟩)
theorem own_ef_alnew (m : MethodId) (x0 : Addr) : entryFrame m #[(.ref x0)] 1 = mkF m 0 #[.val (.ref x0)] [] := by first | (simp [entryFrame, mkF, argsToLocals, Value.category]; done) | rfl
theorem own_pn_java_util_ArrayList : plainName "java/util/ArrayList" = true := by first | (simp [plainName, overriddenIn]; done) | decide +kernel
theorem own_d_jdk_38_method_2_0 : decode jdk_38_method_2_code 0 = .ok (.aload_n 0, 1) := by decide +kernel
theorem own_d_jdk_38_method_2_1 : decode jdk_38_method_2_code 1 = .ok (.invokespecial 1, 3) := by decide +kernel
theorem own_d_jdk_38_method_2_4 : decode jdk_38_method_2_code 4 = .ok (.aload_n 0, 1) := by decide +kernel
theorem own_d_jdk_38_method_2_5 : decode jdk_38_method_2_code 5 = .ok (.getstatic 39, 3) := by decide +kernel
theorem own_d_jdk_38_method_2_8 : decode jdk_38_method_2_code 8 = .ok (.putfield 9, 3) := by decide +kernel
theorem own_d_jdk_38_method_2_11 : decode jdk_38_method_2_code 11 = .ok (.return_, 1) := by decide +kernel
def Q_alnew (Z : State) (a : Addr) (de : Addr) (u1 : Value) (u2 : Value) (h0 : Heap) (n0 : Nat) (rv_ : Option Value) (h_ : Heap) (L_ : List Loc) : Prop := rv_ = none ∧ Fr n0 L_ ∧ Keep h0 h_ [a] ∧ (Exa Z h_ a "java/util/ArrayList") ∧ (Fld Z h_ a "java/util/AbstractList" "modCount" "I" (.int (0 : Int32))) ∧ (Fld Z h_ a "java/util/ArrayList" "elementData" "[Ljava/lang/Object;" (.ref de)) ∧ (Fld Z h_ a "java/util/ArrayList" "size" "I" (.int (0 : Int32)))
set_option maxRecDepth 65536 in
set_option maxHeartbeats 40000000 in
theorem rm_alnew (l : Launch) (Z : State) (a0 : Array Value) (hw : ∀ d ∈ tables_1, d.before a0 Z = true) (ws : List Jvm.Cond) (a : Addr) (de : Addr) (u1 : Value) (u2 : Value) (h0 : Heap) (n0 : Nat) (Z0 : n0 ≤ h0.size) (pr0 : Exa Z h0 a "java/util/ArrayList") (pr1 : Fld Z h0 a "java/util/AbstractList" "modCount" "I" u1) (pr2 : Fld Z h0 a "java/util/ArrayList" "elementData" "[Ljava/lang/Object;" u2) (pr3 : Fld Z h0 a "java/util/ArrayList" "size" "I" (.int (0 : Int32))) (pr4 : n0 ≤ a) (pr5 : Sta Z Z.heap "java/util/ArrayList" "DEFAULTCAPACITY_EMPTY_ELEMENTDATA" "[Ljava/lang/Object;" (.ref de)) (pr6 : Old Z n0 h0) :
    MetFree l (⟨"java/util/ArrayList", "<init>", "()V"⟩ : MethodName) (head1 (Jvm.Cond.code (⟨"java/util/ArrayList", "<init>", "()V"⟩ : MethodName) jdk_38_method_2_code 1 none :: ws) ({ frames := 3, cells := 0, slots := 0, locals := 36 } : Room)) (fun as_ U => as_ = #[(.ref a)] ∧ Z.Warmed39 U.vm ∧ U.heap = h0) (fun _ _ _ _ _ => True) (fun _ U o U' => ∃ rv_ L_, o = .returned rv_ ∧ Q_alnew Z a de u1 u2 h0 n0 rv_ U'.heap L_ ∧ FrameEnd U o U' L_ ({ frames := 3, cells := 0, slots := 0, locals := 36 } : Room).cells ({ frames := 3, cells := 0, slots := 0, locals := 36 } : Room).slots) := by
  refine MetFree.of_bodySF (plainFor_of_name own_pn_java_util_ArrayList) hisR ?_
  intro p e s m args below meth c s₁ Bd hml0 hP hK
  obtain ⟨rfl, hZ, hh⟩ := hP
  have hx := Bd.exec
  have hby := Bd.bytes
  have hml : c.maxLocals = 1 := hml0
  have hown : s.vm.findClass "java/util/ArrayList" = some m.cls := findClass_of_methodNamed Bd.named
  have hnm := (name_of_methodNamed Bd.named Bd.method).1
  have X0 : Stand p l e ({ frames := 3, cells := 0, slots := 0, locals := 36 } : Room) s m #[(.ref a)] below meth c s₁ [] 0 0 := Stand.of_body Bd
  have e0 : s₁.heap = h0 := by rw [← hh, Bd.state]; rfl
  have N0 := Fr.nil n0
  refine own_Goes.of ?_
  refine own_Goes.nm (fun P hPP => ?_)
  refine own_Goes.st ?_ (fun _ k => castTop (own_ef_alnew m a) k)
  have K0 : Keep h0 h0 [a] := Keep.refl _ _
  show own_Goes p.tables e below P (s₁.setTop (mkF m 0 #[.val (.ref a)] []))
  refine own_Goes.st ?_ (fun _ k => XS.aloadN X0.here hx rfl (hb hby own_d_jdk_38_method_2_0) rfl rfl k)
  show own_Goes p.tables e below P (s₁.setTop (mkF m 1 #[.val (.ref a)] [(.ref a)]))
  obtain ⟨_, _, ⟨T1, L1, k1, n1⟩, -, X1, ⟨Lc1, hQ1, l1, y1, z1⟩, st1⟩ := X0.specialBack hx (y := (⟨"java/util/AbstractList", "<init>", "()V"⟩ : MethodName)) rfl hown (mvT hZ (hw _ (List.mem_of_getElem? (i := 6) rfl))) (mvT hZ (hw _ (List.mem_of_getElem? (i := 7) rfl))) (mvT hZ (hw _ (List.mem_of_getElem? (i := 11) rfl))) (by decide) (backOf (W := 0) (rm_abl l Z a0 hw [] a u1 u2 h0 n0 Z0 pr0 pr1 pr2 pr3 pr4) hZ (hw _ (List.mem_of_getElem? (i := 11) rfl)) (hw _ (List.mem_of_getElem? (i := 10) rfl)) (by decide) (by decide)) (g := (mkF m 1 #[.val (.ref a)] [(.ref a)])) rfl (by rw [hml]; rfl) (Steps.refl _) (a := a) (argsL := []) (rest := []) (lenOf own_pd__28__29_V rfl) rfl (by show 2 * 0 + _ ≤ _; exact Nat.le_of_eq rfl) (hb hby own_d_jdk_38_method_2_1) (fun _ _ => ⟨rfl, e0, (by decide : 0 + 0 ≤ _), (by decide : 0 + 0 ≤ _)⟩)
  dsimp only [Pt.U, Pt.locs, Pt.cells, Pt.slots] at X1 l1 y1 z1 st1 hQ1
  rw [l1, y1, z1] at X1
  obtain ⟨rfl, Nq1, K1, f2, f3, f4, f5⟩ := hQ1
  have N1 := Fr.app N0 Nq1
  refine own_Goes.tr st1 ?_
  have Z6 : n0 ≤ T1.heap.size := Nat.le_trans Z0 K1.1
  have K7 := K0.trans K1 (allS (Or.inl (List.mem_of_getElem? (i := 0) rfl)) all0)
  have O8 := pr6.keep K1 (allS pr4 all0)
  show own_Goes p.tables e below P (T1.setTop (mkF m 4 #[.val (.ref a)] []))
  refine own_Goes.st ?_ (fun _ k => XS.aloadN X1.here hx rfl (hb hby own_d_jdk_38_method_2_4) rfl rfl k)
  show own_Goes p.tables e below P (T1.setTop (mkF m 5 #[.val (.ref a)] [(.ref a)]))
  obtain ⟨T9, X9, e9, st9⟩ := getS2 X1 hx hZ hown (host := "") (Or.inl (hw _ (List.mem_of_getElem? (i := 23) rfl))) Via.refl rfl (pr5.ext O8.2) (g := (mkF m 5 #[.val (.ref a)] [(.ref a)])) rfl (hb hby own_d_jdk_38_method_2_5)
  refine own_Goes.st ?_ st9
  show own_Goes p.tables e below P (T9.setTop (mkF m 8 #[.val (.ref a)] [(.ref de), (.ref a)]))
  obtain ⟨T10, h10, X10, e10, W10, st10⟩ := putF X9 hx hZ hown (host := "") (Or.inl (hw _ (List.mem_of_getElem? (i := 24) rfl))) Via.refl e9 f4 f2 (Or.inl (hw _ (List.mem_of_getElem? (i := 25) rfl))) (hw _ (List.mem_of_getElem? (i := 1) rfl)) (ty := (.array (.object "java/lang/Object"))) (by decide) rfl rfl (g := (mkF m 8 #[.val (.ref a)] [(.ref de), (.ref a)])) rfl rfl (hb hby own_d_jdk_38_method_2_8)
  refine own_Goes.st ?_ st10
  have F11 : Fld Z h10 a "java/util/ArrayList" "elementData" "[Ljava/lang/Object;" (.ref de) := f4.same W10
  have Z12 : n0 ≤ h10.size := by rw [W10.size]; exact Z6
  have K13 := K7.wr W10 (Or.inl (List.mem_of_getElem? (i := 0) rfl))
  have O14 := O8.wr W10 pr4
  have N15 := Fr.snoc X10 N1 pr4
  show own_Goes p.tables e below P (T10.setTop (mkF m 11 #[.val (.ref a)] []))
  obtain ⟨fs, hr, hrun, hended, hW, hsame⟩ := X10.leave (v := none) (fun _ => rfl)
  have F16 : Exa Z h10 a "java/util/ArrayList" := (f2.wr W10)
  have F17 : Fld Z h10 a "java/util/AbstractList" "modCount" "I" (.int (0 : Int32)) := (f3.other W10 (Or.inr (slot_ne (Or.inl (hw _ (List.mem_of_getElem? (i := 22) rfl))) (Or.inl (hw _ (List.mem_of_getElem? (i := 25) rfl))) (by decide) (t := .int) (t' := (.array (.object "java/lang/Object"))) (by decide) (by decide))))
  have F18 : Fld Z h10 a "java/util/ArrayList" "size" "I" (.int (0 : Int32)) := (f5.other W10 (Or.inr (slot_ne (Or.inl (hw _ (List.mem_of_getElem? (i := 62) rfl))) (Or.inl (hw _ (List.mem_of_getElem? (i := 25) rfl))) (by decide) (t := .int) (t' := (.array (.object "java/lang/Object"))) (by decide) (by decide))))
  exact own_Goes.fin _ _ (X10.returnOut hx Bd.returns (hb hby own_d_jdk_38_method_2_11) hr) (hPP _ _ ⟨hrun, hended, _, _, rfl, (by show Q_alnew Z a de u1 u2 h0 n0 _ T10.heap _; rw [e10]; exact ⟨rfl, N15, K13, F16, F17, F11, F18⟩), ⟨_, rfl⟩, hW, hsame.mono (by decide) (by decide)⟩)
theorem own_ef_grow1 (m : MethodId) (x0 : Addr) : entryFrame m #[(.ref x0), (.int (1 : Int32))] 4 = mkF m 0 #[.val (.ref x0), .val (.int (1 : Int32)), .unset, .unset] [] := by first | (simp [entryFrame, mkF, argsToLocals, Value.category]; done) | rfl
theorem own_d_jdk_38_method_6_0 : decode jdk_38_method_6_code 0 = .ok (.aload_n 0, 1) := by decide +kernel
theorem own_d_jdk_38_method_6_1 : decode jdk_38_method_6_code 1 = .ok (.getfield 9, 3) := by decide +kernel
theorem own_d_jdk_38_method_6_4 : decode jdk_38_method_6_code 4 = .ok (.arraylength, 1) := by decide +kernel
theorem own_d_jdk_38_method_6_5 : decode jdk_38_method_6_code 5 = .ok (.istore_n 2, 1) := by decide +kernel
theorem own_d_jdk_38_method_6_6 : decode jdk_38_method_6_code 6 = .ok (.iload_n 2, 1) := by decide +kernel
theorem own_d_jdk_38_method_6_7 : decode jdk_38_method_6_code 7 = .ok (.ifCond .gt 13, 3) := by decide +kernel
theorem own_d_jdk_38_method_6_10 : decode jdk_38_method_6_code 10 = .ok (.aload_n 0, 1) := by decide +kernel
theorem own_d_jdk_38_method_6_11 : decode jdk_38_method_6_code 11 = .ok (.getfield 9, 3) := by decide +kernel
theorem own_d_jdk_38_method_6_14 : decode jdk_38_method_6_code 14 = .ok (.getstatic 39, 3) := by decide +kernel
theorem own_d_jdk_38_method_6_17 : decode jdk_38_method_6_code 17 = .ok (.if_acmp .eq 28, 3) := by decide +kernel
theorem own_d_jdk_38_method_6_45 : decode jdk_38_method_6_code 45 = .ok (.aload_n 0, 1) := by decide +kernel
theorem own_d_jdk_38_method_6_46 : decode jdk_38_method_6_code 46 = .ok (.bipush 10, 2) := by decide +kernel
theorem own_d_jdk_38_method_6_48 : decode jdk_38_method_6_code 48 = .ok (.iload_n 1, 1) := by decide +kernel
theorem own_pd__28_II_29_I : parseMethodDescriptor "(II)I" = some ⟨[.int, .int], some .int⟩ := by decide +kernel
theorem own_d_jdk_38_method_6_49 : decode jdk_38_method_6_code 49 = .ok (.invokestatic 79, 3) := by decide +kernel
theorem own_d_jdk_38_method_6_52 : decode jdk_38_method_6_code 52 = .ok (.anewarray 7, 3) := by decide +kernel
theorem own_d_jdk_38_method_6_55 : decode jdk_38_method_6_code 55 = .ok (.dup_x1, 1) := by decide +kernel
theorem own_d_jdk_38_method_6_56 : decode jdk_38_method_6_code 56 = .ok (.putfield 9, 3) := by decide +kernel
theorem own_d_jdk_38_method_6_59 : decode jdk_38_method_6_code 59 = .ok (.areturn, 1) := by decide +kernel
def Q_grow1 (Z : State) (a : Addr) (de : Addr) (kd : ClassId) (mc : Int32) (h0 : Heap) (n0 : Nat) (rv_ : Option Value) (h_ : Heap) (L_ : List Loc) : Prop := ∃ (b : Addr) (k : ClassId), rv_ = some (.ref b) ∧ Fr n0 L_ ∧ Keep h0 h_ [a] ∧ (Exa Z h_ a "java/util/ArrayList") ∧ (Fld Z h_ a "java/util/AbstractList" "modCount" "I" (.int mc)) ∧ (Fld Z h_ a "java/util/ArrayList" "elementData" "[Ljava/lang/Object;" (.ref b)) ∧ (Fld Z h_ a "java/util/ArrayList" "size" "I" (.int (0 : Int32))) ∧ (h0.size ≤ b) ∧ (Arv Z h_ b k (.object "java/lang/Object") (10 : Int32) [.null, .null, .null, .null, .null, .null, .null, .null, .null, .null] .null) ∧ (Exa Z h_ b "[Ljava/lang/Object;") ∧ (Ovr Z k "java/lang/Object")
set_option maxRecDepth 65536 in
set_option maxHeartbeats 40000000 in
theorem rm_grow1 (l : Launch) (Z : State) (a0 : Array Value) (hw : ∀ d ∈ tables_1, d.before a0 Z = true) (ws : List Jvm.Cond) (a : Addr) (de : Addr) (kd : ClassId) (mc : Int32) (h0 : Heap) (n0 : Nat) (Z0 : n0 ≤ h0.size) (pr0 : Exa Z h0 a "java/util/ArrayList") (pr1 : Fld Z h0 a "java/util/AbstractList" "modCount" "I" (.int mc)) (pr2 : Fld Z h0 a "java/util/ArrayList" "elementData" "[Ljava/lang/Object;" (.ref de)) (pr3 : Fld Z h0 a "java/util/ArrayList" "size" "I" (.int (0 : Int32))) (pr4 : n0 ≤ a) (pr5 : Sta Z Z.heap "java/util/ArrayList" "DEFAULTCAPACITY_EMPTY_ELEMENTDATA" "[Ljava/lang/Object;" (.ref de)) (pr6 : Old Z n0 h0) (pr7 : Arv Z Z.heap de kd (.object "java/lang/Object") (0 : Int32) [] .null) :
    MetFree l (⟨"java/util/ArrayList", "grow", "(I)[Ljava/lang/Object;"⟩ : MethodName) (head1 (Jvm.Cond.code (⟨"java/util/ArrayList", "grow", "(I)[Ljava/lang/Object;"⟩ : MethodName) jdk_38_method_6_code 4 (some (.array (.object "java/lang/Object"))) :: ws) ({ frames := 1, cells := 1, slots := 10, locals := 14 } : Room)) (fun as_ U => as_ = #[(.ref a), (.int (1 : Int32))] ∧ Z.Warmed39 U.vm ∧ U.heap = h0) (fun _ _ _ _ _ => True) (fun _ U o U' => ∃ rv_ L_, o = .returned rv_ ∧ Q_grow1 Z a de kd mc h0 n0 rv_ U'.heap L_ ∧ FrameEnd U o U' L_ ({ frames := 1, cells := 1, slots := 10, locals := 14 } : Room).cells ({ frames := 1, cells := 1, slots := 10, locals := 14 } : Room).slots) := by
  refine MetFree.of_bodySF (plainFor_of_name own_pn_java_util_ArrayList) hisR ?_
  intro p e s m args below meth c s₁ Bd hml0 hP hK
  obtain ⟨rfl, hZ, hh⟩ := hP
  have hx := Bd.exec
  have hby := Bd.bytes
  have hml : c.maxLocals = 4 := hml0
  have hown : s.vm.findClass "java/util/ArrayList" = some m.cls := findClass_of_methodNamed Bd.named
  have hnm := (name_of_methodNamed Bd.named Bd.method).1
  have X0 : Stand p l e ({ frames := 1, cells := 1, slots := 10, locals := 14 } : Room) s m #[(.ref a), (.int (1 : Int32))] below meth c s₁ [] 0 0 := Stand.of_body Bd
  have e0 : s₁.heap = h0 := by rw [← hh, Bd.state]; rfl
  have N0 := Fr.nil n0
  refine own_Goes.of ?_
  refine own_Goes.nm (fun P hPP => ?_)
  refine own_Goes.st ?_ (fun _ k => castTop (own_ef_grow1 m a) k)
  have K0 : Keep h0 h0 [a] := Keep.refl _ _
  show own_Goes p.tables e below P (s₁.setTop (mkF m 0 #[.val (.ref a), .val (.int (1 : Int32)), .unset, .unset] []))
  refine own_Goes.st ?_ (fun _ k => XS.aloadN X0.here hx rfl (hb hby own_d_jdk_38_method_6_0) rfl rfl k)
  show own_Goes p.tables e below P (s₁.setTop (mkF m 1 #[.val (.ref a), .val (.int (1 : Int32)), .unset, .unset] [(.ref a)]))
  obtain ⟨T1, X1, e1, st1⟩ := getF X0 hx hZ hown (host := "") (Or.inl (hw _ (List.mem_of_getElem? (i := 24) rfl))) Via.refl e0 pr2 (g := (mkF m 1 #[.val (.ref a), .val (.int (1 : Int32)), .unset, .unset] [(.ref a)])) rfl rfl (hb hby own_d_jdk_38_method_6_1)
  refine own_Goes.st ?_ st1
  show own_Goes p.tables e below P (T1.setTop (mkF m 4 #[.val (.ref a), .val (.int (1 : Int32)), .unset, .unset] [(.ref de)]))
  have F2 : Arv Z h0 de kd (.object "java/lang/Object") (0 : Int32) [] .null := pr7.ext pr6.2
  have Vc3 := F2
  obtain ⟨cl3, Ar3, qc3, S3, Nn3, Hs3, Gs3⟩ := Vc3
  refine own_Goes.st ?_ (X1.arraylength hx (by rw [e1]; exact Ar3.1) (State.isArrayOf_alike hZ.alike Ar3.2.1) (g := (mkF m 4 #[.val (.ref a), .val (.int (1 : Int32)), .unset, .unset] [(.ref de)])) rfl rfl (hb hby own_d_jdk_38_method_6_4))
  rw [len_of S3 Nn3]
  show own_Goes p.tables e below P (T1.setTop (mkF m 5 #[.val (.ref a), .val (.int (1 : Int32)), .unset, .unset] [(.int (0 : Int32))]))
  refine own_Goes.st ?_ (fun _ k => XS.istoreN X1.here hx rfl (hb hby own_d_jdk_38_method_6_5) rfl (l' := #[.val (.ref a), .val (.int (1 : Int32)), .val (.int (0 : Int32)), .unset]) rfl k)
  show own_Goes p.tables e below P (T1.setTop (mkF m 6 #[.val (.ref a), .val (.int (1 : Int32)), .val (.int (0 : Int32)), .unset] []))
  refine own_Goes.st ?_ (fun _ k => XS.iloadN X1.here hx rfl (hb hby own_d_jdk_38_method_6_6) rfl k)
  show own_Goes p.tables e below P (T1.setTop (mkF m 7 #[.val (.ref a), .val (.int (1 : Int32)), .val (.int (0 : Int32)), .unset] [(.int (0 : Int32))]))
  refine own_Goes.st ?_ (fun _ k => XS.ifNo X1.here hx rfl (hb hby own_d_jdk_38_method_6_7) rfl ((if0 _ _).trans (flt (by decide : ¬ ((0 : Int32) < (0 : Int32)))).2.2.1) k)
  show own_Goes p.tables e below P (T1.setTop (mkF m 10 #[.val (.ref a), .val (.int (1 : Int32)), .val (.int (0 : Int32)), .unset] []))
  refine own_Goes.st ?_ (fun _ k => XS.aloadN X1.here hx rfl (hb hby own_d_jdk_38_method_6_10) rfl rfl k)
  show own_Goes p.tables e below P (T1.setTop (mkF m 11 #[.val (.ref a), .val (.int (1 : Int32)), .val (.int (0 : Int32)), .unset] [(.ref a)]))
  obtain ⟨T4, X4, e4, st4⟩ := getF X1 hx hZ hown (host := "") (Or.inl (hw _ (List.mem_of_getElem? (i := 24) rfl))) Via.refl e1 pr2 (g := (mkF m 11 #[.val (.ref a), .val (.int (1 : Int32)), .val (.int (0 : Int32)), .unset] [(.ref a)])) rfl rfl (hb hby own_d_jdk_38_method_6_11)
  refine own_Goes.st ?_ st4
  show own_Goes p.tables e below P (T4.setTop (mkF m 14 #[.val (.ref a), .val (.int (1 : Int32)), .val (.int (0 : Int32)), .unset] [(.ref de)]))
  obtain ⟨T5, X5, e5, st5⟩ := getS2 X4 hx hZ hown (host := "") (Or.inl (hw _ (List.mem_of_getElem? (i := 23) rfl))) Via.refl e4 (pr5.ext pr6.2) (g := (mkF m 14 #[.val (.ref a), .val (.int (1 : Int32)), .val (.int (0 : Int32)), .unset] [(.ref de)])) rfl (hb hby own_d_jdk_38_method_6_14)
  refine own_Goes.st ?_ st5
  show own_Goes p.tables e below P (T5.setTop (mkF m 17 #[.val (.ref a), .val (.int (1 : Int32)), .val (.int (0 : Int32)), .unset] [(.ref de), (.ref de)]))
  refine own_Goes.st ?_ (fun _ k => Jvm.RoadKit.acmp (g := (mkF m 17 #[.val (.ref a), .val (.int (1 : Int32)), .val (.int (0 : Int32)), .unset] [(.ref de), (.ref de)])) X5 hx rfl rfl rfl (pc0 := 17) (pc' := 45) (same := true) rfl (hb hby own_d_jdk_38_method_6_17) rfl (decide_eq_true rfl) (by decide) (by decide) k)
  show own_Goes p.tables e below P (T5.setTop (mkF m 45 #[.val (.ref a), .val (.int (1 : Int32)), .val (.int (0 : Int32)), .unset] []))
  refine own_Goes.st ?_ (fun _ k => XS.aloadN X5.here hx rfl (hb hby own_d_jdk_38_method_6_45) rfl rfl k)
  show own_Goes p.tables e below P (T5.setTop (mkF m 46 #[.val (.ref a), .val (.int (1 : Int32)), .val (.int (0 : Int32)), .unset] [(.ref a)]))
  refine own_Goes.st ?_ (fun _ k => XS.bipush X5.here hx rfl (hb hby own_d_jdk_38_method_6_46) k)
  show own_Goes p.tables e below P (T5.setTop (mkF m 48 #[.val (.ref a), .val (.int (1 : Int32)), .val (.int (0 : Int32)), .unset] [(.int (10 : Int32)), (.ref a)]))
  refine own_Goes.st ?_ (fun _ k => XS.iloadN X5.here hx rfl (hb hby own_d_jdk_38_method_6_48) rfl k)
  show own_Goes p.tables e below P (T5.setTop (mkF m 49 #[.val (.ref a), .val (.int (1 : Int32)), .val (.int (0 : Int32)), .unset] [(.int (1 : Int32)), (.int (10 : Int32)), (.ref a)]))
  obtain ⟨_, _, ⟨T6, L6, k6, n6⟩, -, X6, ⟨Lc6, hQ6, l6, y6, z6⟩, st6⟩ := Jvm.LawKit.callS X5 hx (y := (⟨"java/lang/Math", "max", "(II)I"⟩ : MethodName)) hown (mvT hZ (hw _ (List.mem_of_getElem? (i := 124) rfl))) (mvT hZ (hw _ (List.mem_of_getElem? (i := 125) rfl))) (mvT hZ (hw _ (List.mem_of_getElem? (i := 126) rfl))) (mvT hZ (hw _ (List.mem_of_getElem? (i := 127) rfl))) (by decide) (backOf (W := 1) (rm_imax l Z a0 hw [] (10 : Int32) (1 : Int32) h0 n0 Z0) hZ (hw _ (List.mem_of_getElem? (i := 127) rfl)) (hw _ (List.mem_of_getElem? (i := 126) rfl)) (by decide) (by decide)) (g := (mkF m 49 #[.val (.ref a), .val (.int (1 : Int32)), .val (.int (0 : Int32)), .unset] [(.int (1 : Int32)), (.int (10 : Int32)), (.ref a)])) rfl (by rw [hml]; rfl) (argsL := [(.int (10 : Int32)), (.int (1 : Int32))]) (rest := [(.ref a)]) (lenOf own_pd__28_II_29_I rfl) rfl (by show 2 * 0 + _ ≤ _; exact Nat.le_of_eq rfl) (hb hby own_d_jdk_38_method_6_49) (fun _ _ => ⟨rfl, e5, (by decide : 0 + 0 ≤ _), (by decide : 0 + 0 ≤ _)⟩)
  dsimp only [Pt.U, Pt.locs, Pt.cells, Pt.slots] at X6 l6 y6 z6 st6 hQ6
  rw [l6, y6, z6] at X6
  obtain ⟨rfl, Nq6, e6⟩ := hQ6
  have N6 := Fr.app N0 Nq6
  refine own_Goes.st ?_ st6
  show own_Goes p.tables e below P (T6.setTop (mkF m 52 #[.val (.ref a), .val (.int (1 : Int32)), .val (.int (0 : Int32)), .unset] [(.int (own_imax (10 : Int32) (1 : Int32))), (.ref a)]))
  rw [(rfl : own_imax (10 : Int32) (1 : Int32) = 10)]
  show own_Goes p.tables e below P (T6.setTop (mkF m 52 #[.val (.ref a), .val (.int (1 : Int32)), .val (.int (0 : Int32)), .unset] [(.int (10 : Int32)), (.ref a)]))
  obtain ⟨T7, h7, k7, X7, e7, E7, A7, J7, O7, st7⟩ := newRE X6 hx hZ hown (hw _ (List.mem_of_getElem? (i := 128) rfl)) (hw _ (List.mem_of_getElem? (i := 129) rfl)) e6 (g := (mkF m 52 #[.val (.ref a), .val (.int (1 : Int32)), .val (.int (0 : Int32)), .unset] [(.int (10 : Int32)), (.ref a)])) rfl (hb hby own_d_jdk_38_method_6_52) rfl (by decide) (cap := 10) (by decide) (by decide) (by decide) (by decide) (ad := "[Ljava/lang/Object;") rfl
  obtain ⟨b7, g7⟩ : ∃ z, z = h0.size := ⟨_, rfl⟩
  rw [← g7] at A7 J7 st7
  have ne8 : a ≠ b7 := Nat.ne_of_lt (Nat.lt_of_lt_of_eq pr0.lt g7.symm)
  have ge_b7 : n0 ≤ b7 := Nat.le_trans Z0 (Nat.le_of_eq g7.symm)
  have sz_b7 : h0.size ≤ b7 := Nat.le_trans K0.1 (Nat.le_of_eq g7.symm)
  refine own_Goes.st ?_ st7
  have Z9 : n0 ≤ h7.size := Nat.le_trans Z0 E7.1
  have K10 := K0.ext E7
  have O11 := pr6.ext E7
  have V12 : Arv Z h7 b7 k7 (.object "java/lang/Object") (10 : Int32) [.null, .null, .null, .null, .null, .null, .null, .null, .null, .null] .null := (Arv.new A7 (by decide)).pad (pad_rep [] _ 10)
  show own_Goes p.tables e below P (T7.setTop (mkF m 55 #[.val (.ref a), .val (.int (1 : Int32)), .val (.int (0 : Int32)), .unset] [(.ref b7), (.ref a)]))
  refine own_Goes.st ?_ (fun _ k => XS.dupX1 X7.here hx rfl (hb hby own_d_jdk_38_method_6_55) rfl rfl rfl k)
  show own_Goes p.tables e below P (T7.setTop (mkF m 56 #[.val (.ref a), .val (.int (1 : Int32)), .val (.int (0 : Int32)), .unset] [(.ref b7), (.ref a), (.ref b7)]))
  have F13 : Fld Z h7 a "java/util/ArrayList" "elementData" "[Ljava/lang/Object;" (.ref de) := (pr2.ext E7)
  have F14 : Exa Z h7 a "java/util/ArrayList" := (pr0.ext E7)
  obtain ⟨T15, h15, X15, e15, W15, st15⟩ := putF X7 hx hZ hown (host := "") (Or.inl (hw _ (List.mem_of_getElem? (i := 24) rfl))) Via.refl e7 F13 F14 (Or.inl (hw _ (List.mem_of_getElem? (i := 25) rfl))) (hw _ (List.mem_of_getElem? (i := 1) rfl)) (ty := (.array (.object "java/lang/Object"))) (by decide) rfl rfl (g := (mkF m 56 #[.val (.ref a), .val (.int (1 : Int32)), .val (.int (0 : Int32)), .unset] [(.ref b7), (.ref a), (.ref b7)])) rfl rfl (hb hby own_d_jdk_38_method_6_56)
  refine own_Goes.st ?_ st15
  have F16 : Fld Z h15 a "java/util/ArrayList" "elementData" "[Ljava/lang/Object;" (.ref b7) := F13.same W15
  have Z17 : n0 ≤ h15.size := by rw [W15.size]; exact Z9
  have K18 := K10.wr W15 (Or.inl (List.mem_of_getElem? (i := 0) rfl))
  have O19 := O11.wr W15 pr4
  have N20 := Fr.snoc X15 N6 pr4
  show own_Goes p.tables e below P (T15.setTop (mkF m 59 #[.val (.ref a), .val (.int (1 : Int32)), .val (.int (0 : Int32)), .unset] [(.ref b7)]))
  obtain ⟨fs, hr, hrun, hended, hW, hsame⟩ := X15.leave (v := some (.ref b7)) (fun h => by rw [Bd.returns] at h; cases h)
  have F21 : Exa Z h15 a "java/util/ArrayList" := (F14.wr W15)
  have F22 : Fld Z h15 a "java/util/AbstractList" "modCount" "I" (.int mc) := ((pr1.ext E7).other W15 (Or.inr (slot_ne (Or.inl (hw _ (List.mem_of_getElem? (i := 22) rfl))) (Or.inl (hw _ (List.mem_of_getElem? (i := 25) rfl))) (by decide) (t := .int) (t' := (.array (.object "java/lang/Object"))) (by decide) (by decide))))
  have F23 : Fld Z h15 a "java/util/ArrayList" "size" "I" (.int (0 : Int32)) := ((pr3.ext E7).other W15 (Or.inr (slot_ne (Or.inl (hw _ (List.mem_of_getElem? (i := 62) rfl))) (Or.inl (hw _ (List.mem_of_getElem? (i := 25) rfl))) (by decide) (t := .int) (t' := (.array (.object "java/lang/Object"))) (by decide) (by decide))))
  have F24 : Arv Z h15 b7 k7 (.object "java/lang/Object") (10 : Int32) [.null, .null, .null, .null, .null, .null, .null, .null, .null, .null] .null := (V12.other W15 (Ne.symm ne8))
  have F25 : Exa Z h15 b7 "[Ljava/lang/Object;" := (J7.wr W15)
  exact own_Goes.fin _ _ (retOut X15 hx (t := (.array (.object "java/lang/Object"))) Bd.returns rfl (Or.inr (Or.inr (Or.inr (Or.inr ⟨rfl, rfl, rfl⟩)))) (hb hby own_d_jdk_38_method_6_59) hr) (hPP _ _ ⟨hrun, hended, _, _, rfl, (by show Q_grow1 Z a de kd mc h0 n0 _ T15.heap _; rw [e15]; exact ⟨b7, k7, rfl, N20, K18, F21, F22, F16, F23, sz_b7, F24, F25, O7⟩), ⟨_, rfl⟩, hW, hsame.mono (by decide) (by decide)⟩)
theorem own_ef_grow0 (m : MethodId) (x0 : Addr) : entryFrame m #[(.ref x0)] 1 = mkF m 0 #[.val (.ref x0)] [] := by first | (simp [entryFrame, mkF, argsToLocals, Value.category]; done) | rfl
theorem own_d_jdk_38_method_7_0 : decode jdk_38_method_7_code 0 = .ok (.aload_n 0, 1) := by decide +kernel
theorem own_d_jdk_38_method_7_1 : decode jdk_38_method_7_code 1 = .ok (.aload_n 0, 1) := by decide +kernel
theorem own_d_jdk_38_method_7_2 : decode jdk_38_method_7_code 2 = .ok (.getfield 48, 3) := by decide +kernel
theorem own_d_jdk_38_method_7_5 : decode jdk_38_method_7_code 5 = .ok (.iconst 1, 1) := by decide +kernel
theorem own_d_jdk_38_method_7_6 : decode jdk_38_method_7_code 6 = .ok (.iadd, 1) := by decide +kernel
theorem own_pd__28_I_29__5b_Ljava_2f_lang_2f_Object_3b_ : parseMethodDescriptor "(I)[Ljava/lang/Object;" = some ⟨[.int], some (.array (.object "java/lang/Object"))⟩ := by decide +kernel
theorem own_d_jdk_38_method_7_7 : decode jdk_38_method_7_code 7 = .ok (.invokevirtual 69, 3) := by decide +kernel
theorem own_d_jdk_38_method_7_10 : decode jdk_38_method_7_code 10 = .ok (.areturn, 1) := by decide +kernel
def Q_grow0 (Z : State) (a : Addr) (de : Addr) (kd : ClassId) (mc : Int32) (h0 : Heap) (n0 : Nat) (rv_ : Option Value) (h_ : Heap) (L_ : List Loc) : Prop := ∃ (b : Addr) (k : ClassId), rv_ = some (.ref b) ∧ Fr n0 L_ ∧ Keep h0 h_ [a] ∧ (Exa Z h_ a "java/util/ArrayList") ∧ (Fld Z h_ a "java/util/AbstractList" "modCount" "I" (.int mc)) ∧ (Fld Z h_ a "java/util/ArrayList" "elementData" "[Ljava/lang/Object;" (.ref b)) ∧ (Fld Z h_ a "java/util/ArrayList" "size" "I" (.int (0 : Int32))) ∧ (h0.size ≤ b) ∧ (Arv Z h_ b k (.object "java/lang/Object") (10 : Int32) [.null, .null, .null, .null, .null, .null, .null, .null, .null, .null] .null) ∧ (Exa Z h_ b "[Ljava/lang/Object;") ∧ (Ovr Z k "java/lang/Object")
set_option maxRecDepth 65536 in
set_option maxHeartbeats 40000000 in
theorem rm_grow0 (l : Launch) (Z : State) (a0 : Array Value) (hw : ∀ d ∈ tables_1, d.before a0 Z = true) (ws : List Jvm.Cond) (a : Addr) (de : Addr) (kd : ClassId) (mc : Int32) (h0 : Heap) (n0 : Nat) (Z0 : n0 ≤ h0.size) (pr0 : Exa Z h0 a "java/util/ArrayList") (pr1 : Fld Z h0 a "java/util/AbstractList" "modCount" "I" (.int mc)) (pr2 : Fld Z h0 a "java/util/ArrayList" "elementData" "[Ljava/lang/Object;" (.ref de)) (pr3 : Fld Z h0 a "java/util/ArrayList" "size" "I" (.int (0 : Int32))) (pr4 : n0 ≤ a) (pr5 : Sta Z Z.heap "java/util/ArrayList" "DEFAULTCAPACITY_EMPTY_ELEMENTDATA" "[Ljava/lang/Object;" (.ref de)) (pr6 : Old Z n0 h0) (pr7 : Arv Z Z.heap de kd (.object "java/lang/Object") (0 : Int32) [] .null) :
    MetFree l (⟨"java/util/ArrayList", "grow", "()[Ljava/lang/Object;"⟩ : MethodName) (head1 (Jvm.Cond.code (⟨"java/util/ArrayList", "grow", "()[Ljava/lang/Object;"⟩ : MethodName) jdk_38_method_7_code 1 (some (.array (.object "java/lang/Object"))) :: ws) ({ frames := 2, cells := 1, slots := 10, locals := 29 } : Room)) (fun as_ U => as_ = #[(.ref a)] ∧ Z.Warmed39 U.vm ∧ U.heap = h0) (fun _ _ _ _ _ => True) (fun _ U o U' => ∃ rv_ L_, o = .returned rv_ ∧ Q_grow0 Z a de kd mc h0 n0 rv_ U'.heap L_ ∧ FrameEnd U o U' L_ ({ frames := 2, cells := 1, slots := 10, locals := 29 } : Room).cells ({ frames := 2, cells := 1, slots := 10, locals := 29 } : Room).slots) := by
  refine MetFree.of_bodySF (plainFor_of_name own_pn_java_util_ArrayList) hisR ?_
  intro p e s m args below meth c s₁ Bd hml0 hP hK
  obtain ⟨rfl, hZ, hh⟩ := hP
  have hx := Bd.exec
  have hby := Bd.bytes
  have hml : c.maxLocals = 1 := hml0
  have hown : s.vm.findClass "java/util/ArrayList" = some m.cls := findClass_of_methodNamed Bd.named
  have hnm := (name_of_methodNamed Bd.named Bd.method).1
  have X0 : Stand p l e ({ frames := 2, cells := 1, slots := 10, locals := 29 } : Room) s m #[(.ref a)] below meth c s₁ [] 0 0 := Stand.of_body Bd
  have e0 : s₁.heap = h0 := by rw [← hh, Bd.state]; rfl
  have N0 := Fr.nil n0
  refine own_Goes.of ?_
  refine own_Goes.nm (fun P hPP => ?_)
  refine own_Goes.st ?_ (fun _ k => castTop (own_ef_grow0 m a) k)
  have K0 : Keep h0 h0 [a] := Keep.refl _ _
  show own_Goes p.tables e below P (s₁.setTop (mkF m 0 #[.val (.ref a)] []))
  refine own_Goes.st ?_ (fun _ k => XS.aloadN X0.here hx rfl (hb hby own_d_jdk_38_method_7_0) rfl rfl k)
  show own_Goes p.tables e below P (s₁.setTop (mkF m 1 #[.val (.ref a)] [(.ref a)]))
  refine own_Goes.st ?_ (fun _ k => XS.aloadN X0.here hx rfl (hb hby own_d_jdk_38_method_7_1) rfl rfl k)
  show own_Goes p.tables e below P (s₁.setTop (mkF m 2 #[.val (.ref a)] [(.ref a), (.ref a)]))
  obtain ⟨T1, X1, e1, st1⟩ := getF X0 hx hZ hown (host := "") (Or.inl (hw _ (List.mem_of_getElem? (i := 61) rfl))) Via.refl e0 pr3 (g := (mkF m 2 #[.val (.ref a)] [(.ref a), (.ref a)])) rfl rfl (hb hby own_d_jdk_38_method_7_2)
  refine own_Goes.st ?_ st1
  show own_Goes p.tables e below P (T1.setTop (mkF m 5 #[.val (.ref a)] [(.int (0 : Int32)), (.ref a)]))
  refine own_Goes.st ?_ (fun _ k => XS.iconst X1.here hx rfl (hb hby own_d_jdk_38_method_7_5) k)
  show own_Goes p.tables e below P (T1.setTop (mkF m 6 #[.val (.ref a)] [(.int (1 : Int32)), (.int (0 : Int32)), (.ref a)]))
  refine own_Goes.st ?_ (fun _ k => XS.iadd X1.here hx rfl (hb hby own_d_jdk_38_method_7_6) rfl k)
  show own_Goes p.tables e below P (T1.setTop (mkF m 7 #[.val (.ref a)] [(.int (1 : Int32)), (.ref a)]))
  obtain ⟨cq2, q2a, q2b⟩ := pr0.cell
  obtain ⟨_, _, ⟨T2, L2, k2, n2⟩, -, X2, ⟨Lc2, hQ2, l2, y2, z2⟩, st2⟩ := X1.privateBack hx (y := (⟨"java/util/ArrayList", "grow", "(I)[Ljava/lang/Object;"⟩ : MethodName)) hown (mvT hZ (hw _ (List.mem_of_getElem? (i := 119) rfl))) (mvT hZ (hw _ (List.mem_of_getElem? (i := 120) rfl))) (mvT hZ (hw _ (List.mem_of_getElem? (i := 122) rfl))) (Cond.privateMethod_at (mvP hZ (hw _ (List.mem_of_getElem? (i := 121) rfl)) (args := #[]))) (mvT hZ (hw _ (List.mem_of_getElem? (i := 123) rfl))) (by decide) (backOf (W := 0) (rm_grow1 l Z a0 hw [] a de kd mc h0 n0 Z0 pr0 pr1 pr2 pr3 pr4 pr5 pr6 pr7) hZ (hw _ (List.mem_of_getElem? (i := 123) rfl)) (hw _ (List.mem_of_getElem? (i := 2) rfl)) (by decide) (by decide)) (g := (mkF m 7 #[.val (.ref a)] [(.int (1 : Int32)), (.ref a)])) rfl (by rw [hml]; rfl) (Steps.refl _) (a := a) (by rw [e1]; exact q2a) q2b (argsL := [(.int (1 : Int32))]) (rest := []) (lenOf own_pd__28_I_29__5b_Ljava_2f_lang_2f_Object_3b_ rfl) rfl (by show 2 * 0 + _ ≤ _; exact Nat.le_of_eq rfl) (hb hby own_d_jdk_38_method_7_7) (fun _ _ => ⟨rfl, e1, (by decide : 0 + 1 ≤ _), (by decide : 0 + 10 ≤ _)⟩)
  dsimp only [Pt.U, Pt.locs, Pt.cells, Pt.slots] at X2 l2 y2 z2 st2 hQ2
  rw [l2, y2, z2] at X2
  obtain ⟨b2, k2, rfl, Nq2, K2, f3, f4, f5, f6, f7, f8, f9, f10⟩ := hQ2
  have N2 := Fr.app N0 Nq2
  refine own_Goes.tr st2 ?_
  have ne11 : a ≠ b2 := Nat.ne_of_lt (Nat.lt_of_lt_of_le pr0.lt f7)
  have ge_b2 : n0 ≤ b2 := Nat.le_trans Z0 f7
  have sz_b2 : h0.size ≤ b2 := Nat.le_trans K0.1 f7
  have Z12 : n0 ≤ T2.heap.size := Nat.le_trans Z0 K2.1
  have K13 := K0.trans K2 (allS (Or.inl (List.mem_of_getElem? (i := 0) rfl)) all0)
  have O14 := pr6.keep K2 (allS pr4 all0)
  show own_Goes p.tables e below P (T2.setTop (mkF m 10 #[.val (.ref a)] [(.ref b2)]))
  obtain ⟨fs, hr, hrun, hended, hW, hsame⟩ := X2.leave (v := some (.ref b2)) (fun h => by rw [Bd.returns] at h; cases h)
  exact own_Goes.fin _ _ (retOut X2 hx (t := (.array (.object "java/lang/Object"))) Bd.returns rfl (Or.inr (Or.inr (Or.inr (Or.inr ⟨rfl, rfl, rfl⟩)))) (hb hby own_d_jdk_38_method_7_10) hr) (hPP _ _ ⟨hrun, hended, _, _, rfl, (by show Q_grow0 Z a de kd mc h0 n0 _ T2.heap _; exact ⟨b2, k2, rfl, N2, K13, f3, f4, f5, f6, sz_b2, f8, f9, f10⟩), ⟨_, rfl⟩, hW, hsame.mono (by decide) (by decide)⟩)
theorem own_ef_add3 (m : MethodId) (x0 : Addr) (x1 : Addr) (x2 : Addr) : entryFrame m #[(.ref x0), (.ref x1), (.ref x2), (.int (0 : Int32))] 4 = mkF m 0 #[.val (.ref x0), .val (.ref x1), .val (.ref x2), .val (.int (0 : Int32))] [] := by first | (simp [entryFrame, mkF, argsToLocals, Value.category]; done) | rfl
theorem own_d_jdk_38_method_24_0 : decode jdk_38_method_24_code 0 = .ok (.iload_n 3, 1) := by decide +kernel
theorem own_d_jdk_38_method_24_1 : decode jdk_38_method_24_code 1 = .ok (.aload_n 2, 1) := by decide +kernel
theorem own_d_jdk_38_method_24_2 : decode jdk_38_method_24_code 2 = .ok (.arraylength, 1) := by decide +kernel
theorem own_d_jdk_38_method_24_3 : decode jdk_38_method_24_code 3 = .ok (.if_icmp .ne 8, 3) := by decide +kernel
theorem own_d_jdk_38_method_24_6 : decode jdk_38_method_24_code 6 = .ok (.aload_n 0, 1) := by decide +kernel
theorem own_pd__28__29__5b_Ljava_2f_lang_2f_Object_3b_ : parseMethodDescriptor "()[Ljava/lang/Object;" = some ⟨[], some (.array (.object "java/lang/Object"))⟩ := by decide +kernel
theorem own_d_jdk_38_method_24_7 : decode jdk_38_method_24_code 7 = .ok (.invokevirtual 129, 3) := by decide +kernel
theorem own_d_jdk_38_method_24_10 : decode jdk_38_method_24_code 10 = .ok (.astore_n 2, 1) := by decide +kernel
theorem own_d_jdk_38_method_24_11 : decode jdk_38_method_24_code 11 = .ok (.aload_n 2, 1) := by decide +kernel
theorem own_d_jdk_38_method_24_12 : decode jdk_38_method_24_code 12 = .ok (.iload_n 3, 1) := by decide +kernel
theorem own_d_jdk_38_method_24_13 : decode jdk_38_method_24_code 13 = .ok (.aload_n 1, 1) := by decide +kernel
theorem own_d_jdk_38_method_24_14 : decode jdk_38_method_24_code 14 = .ok (.aastore, 1) := by decide +kernel
theorem own_d_jdk_38_method_24_15 : decode jdk_38_method_24_code 15 = .ok (.aload_n 0, 1) := by decide +kernel
theorem own_d_jdk_38_method_24_16 : decode jdk_38_method_24_code 16 = .ok (.iload_n 3, 1) := by decide +kernel
theorem own_d_jdk_38_method_24_17 : decode jdk_38_method_24_code 17 = .ok (.iconst 1, 1) := by decide +kernel
theorem own_d_jdk_38_method_24_18 : decode jdk_38_method_24_code 18 = .ok (.iadd, 1) := by decide +kernel
theorem own_d_jdk_38_method_24_19 : decode jdk_38_method_24_code 19 = .ok (.putfield 48, 3) := by decide +kernel
theorem own_d_jdk_38_method_24_22 : decode jdk_38_method_24_code 22 = .ok (.return_, 1) := by decide +kernel
def Q_add3 (Z : State) (a : Addr) (de : Addr) (kd : ClassId) (mc : Int32) (q : Addr) (h0 : Heap) (n0 : Nat) (rv_ : Option Value) (h_ : Heap) (L_ : List Loc) : Prop := ∃ (b : Addr) (k : ClassId), rv_ = none ∧ Fr n0 L_ ∧ Keep h0 h_ [a] ∧ (Exa Z h_ a "java/util/ArrayList") ∧ (Fld Z h_ a "java/util/AbstractList" "modCount" "I" (.int mc)) ∧ (Fld Z h_ a "java/util/ArrayList" "elementData" "[Ljava/lang/Object;" (.ref b)) ∧ (Fld Z h_ a "java/util/ArrayList" "size" "I" (.int (1 : Int32))) ∧ (h0.size ≤ b) ∧ (Arv Z h_ b k (.object "java/lang/Object") (10 : Int32) [(.ref q), .null, .null, .null, .null, .null, .null, .null, .null, .null] .null) ∧ (Exa Z h_ b "[Ljava/lang/Object;") ∧ (Exa Z h_ q "com/example/larder/larder/BooleanValue")
set_option maxRecDepth 65536 in
set_option maxHeartbeats 40000000 in
theorem rm_add3 (l : Launch) (Z : State) (a0 : Array Value) (hw : ∀ d ∈ tables_1, d.before a0 Z = true) (ws : List Jvm.Cond) (a : Addr) (de : Addr) (kd : ClassId) (mc : Int32) (q : Addr) (h0 : Heap) (n0 : Nat) (Z0 : n0 ≤ h0.size) (pr0 : Exa Z h0 a "java/util/ArrayList") (pr1 : Fld Z h0 a "java/util/AbstractList" "modCount" "I" (.int mc)) (pr2 : Fld Z h0 a "java/util/ArrayList" "elementData" "[Ljava/lang/Object;" (.ref de)) (pr3 : Fld Z h0 a "java/util/ArrayList" "size" "I" (.int (0 : Int32))) (pr4 : n0 ≤ a) (pr5 : Sta Z Z.heap "java/util/ArrayList" "DEFAULTCAPACITY_EMPTY_ELEMENTDATA" "[Ljava/lang/Object;" (.ref de)) (pr6 : Old Z n0 h0) (pr7 : Arv Z Z.heap de kd (.object "java/lang/Object") (0 : Int32) [] .null) (pr8 : Exa Z h0 q "com/example/larder/larder/BooleanValue") :
    MetFree l (⟨"java/util/ArrayList", "add", "(Ljava/lang/Object;[Ljava/lang/Object;I)V"⟩ : MethodName) (head1 (Jvm.Cond.code (⟨"java/util/ArrayList", "add", "(Ljava/lang/Object;[Ljava/lang/Object;I)V"⟩ : MethodName) jdk_38_method_24_code 4 none :: ws) ({ frames := 3, cells := 1, slots := 10, locals := 41 } : Room)) (fun as_ U => as_ = #[(.ref a), (.ref q), (.ref de), (.int (0 : Int32))] ∧ Z.Warmed39 U.vm ∧ U.heap = h0) (fun _ _ _ _ _ => True) (fun _ U o U' => ∃ rv_ L_, o = .returned rv_ ∧ Q_add3 Z a de kd mc q h0 n0 rv_ U'.heap L_ ∧ FrameEnd U o U' L_ ({ frames := 3, cells := 1, slots := 10, locals := 41 } : Room).cells ({ frames := 3, cells := 1, slots := 10, locals := 41 } : Room).slots) := by
  refine MetFree.of_bodySF (plainFor_of_name own_pn_java_util_ArrayList) hisR ?_
  intro p e s m args below meth c s₁ Bd hml0 hP hK
  obtain ⟨rfl, hZ, hh⟩ := hP
  have hx := Bd.exec
  have hby := Bd.bytes
  have hml : c.maxLocals = 4 := hml0
  have hown : s.vm.findClass "java/util/ArrayList" = some m.cls := findClass_of_methodNamed Bd.named
  have hnm := (name_of_methodNamed Bd.named Bd.method).1
  have X0 : Stand p l e ({ frames := 3, cells := 1, slots := 10, locals := 41 } : Room) s m #[(.ref a), (.ref q), (.ref de), (.int (0 : Int32))] below meth c s₁ [] 0 0 := Stand.of_body Bd
  have e0 : s₁.heap = h0 := by rw [← hh, Bd.state]; rfl
  have N0 := Fr.nil n0
  refine own_Goes.of ?_
  refine own_Goes.nm (fun P hPP => ?_)
  refine own_Goes.st ?_ (fun _ k => castTop (own_ef_add3 m a q de) k)
  have K0 : Keep h0 h0 [a] := Keep.refl _ _
  show own_Goes p.tables e below P (s₁.setTop (mkF m 0 #[.val (.ref a), .val (.ref q), .val (.ref de), .val (.int (0 : Int32))] []))
  refine own_Goes.st ?_ (fun _ k => XS.iloadN X0.here hx rfl (hb hby own_d_jdk_38_method_24_0) rfl k)
  show own_Goes p.tables e below P (s₁.setTop (mkF m 1 #[.val (.ref a), .val (.ref q), .val (.ref de), .val (.int (0 : Int32))] [(.int (0 : Int32))]))
  refine own_Goes.st ?_ (fun _ k => XS.aloadN X0.here hx rfl (hb hby own_d_jdk_38_method_24_1) rfl rfl k)
  show own_Goes p.tables e below P (s₁.setTop (mkF m 2 #[.val (.ref a), .val (.ref q), .val (.ref de), .val (.int (0 : Int32))] [(.ref de), (.int (0 : Int32))]))
  have F1 : Arv Z h0 de kd (.object "java/lang/Object") (0 : Int32) [] .null := pr7.ext pr6.2
  have Vc2 := F1
  obtain ⟨cl2, Ar2, qc2, S2, Nn2, Hs2, Gs2⟩ := Vc2
  refine own_Goes.st ?_ (X0.arraylength hx (by rw [e0]; exact Ar2.1) (State.isArrayOf_alike hZ.alike Ar2.2.1) (g := (mkF m 2 #[.val (.ref a), .val (.ref q), .val (.ref de), .val (.int (0 : Int32))] [(.ref de), (.int (0 : Int32))])) rfl rfl (hb hby own_d_jdk_38_method_24_2))
  rw [len_of S2 Nn2]
  show own_Goes p.tables e below P (s₁.setTop (mkF m 3 #[.val (.ref a), .val (.ref q), .val (.ref de), .val (.int (0 : Int32))] [(.int (0 : Int32)), (.int (0 : Int32))]))
  refine own_Goes.st ?_ (fun _ k => XS.icmpNo X0.here hx rfl (hb hby own_d_jdk_38_method_24_3) rfl (teq (by decide : (0 : Int32) = (0 : Int32))).2 k)
  show own_Goes p.tables e below P (s₁.setTop (mkF m 6 #[.val (.ref a), .val (.ref q), .val (.ref de), .val (.int (0 : Int32))] []))
  refine own_Goes.st ?_ (fun _ k => XS.aloadN X0.here hx rfl (hb hby own_d_jdk_38_method_24_6) rfl rfl k)
  show own_Goes p.tables e below P (s₁.setTop (mkF m 7 #[.val (.ref a), .val (.ref q), .val (.ref de), .val (.int (0 : Int32))] [(.ref a)]))
  obtain ⟨cq3, q3a, q3b⟩ := pr0.cell
  obtain ⟨_, _, ⟨T3, L3, k3, n3⟩, -, X3, ⟨Lc3, hQ3, l3, y3, z3⟩, st3⟩ := X0.privateBack hx (y := (⟨"java/util/ArrayList", "grow", "()[Ljava/lang/Object;"⟩ : MethodName)) hown (mvT hZ (hw _ (List.mem_of_getElem? (i := 114) rfl))) (mvT hZ (hw _ (List.mem_of_getElem? (i := 115) rfl))) (mvT hZ (hw _ (List.mem_of_getElem? (i := 117) rfl))) (Cond.privateMethod_at (mvP hZ (hw _ (List.mem_of_getElem? (i := 116) rfl)) (args := #[]))) (mvT hZ (hw _ (List.mem_of_getElem? (i := 118) rfl))) (by decide) (backOf (W := 0) (rm_grow0 l Z a0 hw [] a de kd mc h0 n0 Z0 pr0 pr1 pr2 pr3 pr4 pr5 pr6 pr7) hZ (hw _ (List.mem_of_getElem? (i := 118) rfl)) (hw _ (List.mem_of_getElem? (i := 2) rfl)) (by decide) (by decide)) (g := (mkF m 7 #[.val (.ref a), .val (.ref q), .val (.ref de), .val (.int (0 : Int32))] [(.ref a)])) rfl (by rw [hml]; rfl) (Steps.refl _) (a := a) (by rw [e0]; exact q3a) q3b (argsL := []) (rest := []) (lenOf own_pd__28__29__5b_Ljava_2f_lang_2f_Object_3b_ rfl) rfl (by show 2 * 0 + _ ≤ _; exact Nat.le_of_eq rfl) (hb hby own_d_jdk_38_method_24_7) (fun _ _ => ⟨rfl, e0, (by decide : 0 + 1 ≤ _), (by decide : 0 + 10 ≤ _)⟩)
  dsimp only [Pt.U, Pt.locs, Pt.cells, Pt.slots] at X3 l3 y3 z3 st3 hQ3
  rw [l3, y3, z3] at X3
  obtain ⟨b3, k3, rfl, Nq3, K3, f4, f5, f6, f7, f8, f9, f10, f11⟩ := hQ3
  have N3 := Fr.app N0 Nq3
  refine own_Goes.tr st3 ?_
  have ne12 : a ≠ b3 := Nat.ne_of_lt (Nat.lt_of_lt_of_le pr0.lt f8)
  have ne13 : q ≠ b3 := Nat.ne_of_lt (Nat.lt_of_lt_of_le pr8.lt f8)
  have ge_b3 : n0 ≤ b3 := Nat.le_trans Z0 f8
  have sz_b3 : h0.size ≤ b3 := Nat.le_trans K0.1 f8
  have Z14 : n0 ≤ T3.heap.size := Nat.le_trans Z0 K3.1
  have K15 := K0.trans K3 (allS (Or.inl (List.mem_of_getElem? (i := 0) rfl)) all0)
  have O16 := pr6.keep K3 (allS pr4 all0)
  show own_Goes p.tables e below P (T3.setTop (mkF m 10 #[.val (.ref a), .val (.ref q), .val (.ref de), .val (.int (0 : Int32))] [(.ref b3)]))
  refine own_Goes.st ?_ (fun _ k => XS.astoreN X3.here hx rfl (hb hby own_d_jdk_38_method_24_10) rfl rfl (l' := #[.val (.ref a), .val (.ref q), .val (.ref b3), .val (.int (0 : Int32))]) rfl k)
  show own_Goes p.tables e below P (T3.setTop (mkF m 11 #[.val (.ref a), .val (.ref q), .val (.ref b3), .val (.int (0 : Int32))] []))
  refine own_Goes.st ?_ (fun _ k => XS.aloadN X3.here hx rfl (hb hby own_d_jdk_38_method_24_11) rfl rfl k)
  show own_Goes p.tables e below P (T3.setTop (mkF m 12 #[.val (.ref a), .val (.ref q), .val (.ref b3), .val (.int (0 : Int32))] [(.ref b3)]))
  refine own_Goes.st ?_ (fun _ k => XS.iloadN X3.here hx rfl (hb hby own_d_jdk_38_method_24_12) rfl k)
  show own_Goes p.tables e below P (T3.setTop (mkF m 13 #[.val (.ref a), .val (.ref q), .val (.ref b3), .val (.int (0 : Int32))] [(.int (0 : Int32)), (.ref b3)]))
  refine own_Goes.st ?_ (fun _ k => XS.aloadN X3.here hx rfl (hb hby own_d_jdk_38_method_24_13) rfl rfl k)
  show own_Goes p.tables e below P (T3.setTop (mkF m 14 #[.val (.ref a), .val (.ref q), .val (.ref b3), .val (.int (0 : Int32))] [(.ref q), (.int (0 : Int32)), (.ref b3)]))
  have Vc17 := f9
  obtain ⟨cl17, Ar17, qc17, S17, Nn17, Hs17, Gs17⟩ := Vc17
  have hin18 : ¬ ((0 : Int32) < 0 ∨ cl17.slots.size ≤ ((0 : Int32)).toNatClampNeg) := inb_of S17 ⟨by decide, by decide⟩
  have F19 : Exa Z T3.heap q "com/example/larder/larder/BooleanValue" := (pr8.keep K3)
  obtain ⟨T18, h18, X18, e18, W18, st18⟩ := stR X3 hx hZ rfl Ar17 (j := (0 : Int32)) hin18 rfl (Sto.ofV Ar17 qc17 f11 (Ins.of_exa F19 (hw _ (List.mem_of_getElem? (i := 130) rfl)))) (g := (mkF m 14 #[.val (.ref a), .val (.ref q), .val (.ref b3), .val (.int (0 : Int32))] [(.ref q), (.int (0 : Int32)), (.ref b3)])) rfl rfl (hb hby own_d_jdk_38_method_24_14)
  refine own_Goes.st ?_ st18
  have V20 : Arv Z h18 b3 k3 (.object "java/lang/Object") (10 : Int32) [(.ref q), .null, .null, .null, .null, .null, .null, .null, .null, .null] .null := Arv.set Ar17 qc17 S17 Nn17 Hs17 Gs17 rfl W18 0 rfl (Nat.le_of_ble_eq_true rfl)
  have Z21 : n0 ≤ h18.size := by rw [W18.size]; exact Z14
  have K22 := K15.wr W18 (Or.inr sz_b3)
  have O23 := O16.wr W18 ge_b3
  have N24 := Fr.snoc X18 N3 ge_b3
  show own_Goes p.tables e below P (T18.setTop (mkF m 15 #[.val (.ref a), .val (.ref q), .val (.ref b3), .val (.int (0 : Int32))] []))
  refine own_Goes.st ?_ (fun _ k => XS.aloadN X18.here hx rfl (hb hby own_d_jdk_38_method_24_15) rfl rfl k)
  show own_Goes p.tables e below P (T18.setTop (mkF m 16 #[.val (.ref a), .val (.ref q), .val (.ref b3), .val (.int (0 : Int32))] [(.ref a)]))
  refine own_Goes.st ?_ (fun _ k => XS.iloadN X18.here hx rfl (hb hby own_d_jdk_38_method_24_16) rfl k)
  show own_Goes p.tables e below P (T18.setTop (mkF m 17 #[.val (.ref a), .val (.ref q), .val (.ref b3), .val (.int (0 : Int32))] [(.int (0 : Int32)), (.ref a)]))
  refine own_Goes.st ?_ (fun _ k => XS.iconst X18.here hx rfl (hb hby own_d_jdk_38_method_24_17) k)
  show own_Goes p.tables e below P (T18.setTop (mkF m 18 #[.val (.ref a), .val (.ref q), .val (.ref b3), .val (.int (0 : Int32))] [(.int (1 : Int32)), (.int (0 : Int32)), (.ref a)]))
  refine own_Goes.st ?_ (fun _ k => XS.iadd X18.here hx rfl (hb hby own_d_jdk_38_method_24_18) rfl k)
  show own_Goes p.tables e below P (T18.setTop (mkF m 19 #[.val (.ref a), .val (.ref q), .val (.ref b3), .val (.int (0 : Int32))] [(.int (1 : Int32)), (.ref a)]))
  have F25 : Fld Z h18 a "java/util/ArrayList" "size" "I" (.int (0 : Int32)) := (f7.other W18 (Or.inl ne12))
  have F26 : Exa Z h18 a "java/util/ArrayList" := (f4.wr W18)
  obtain ⟨T27, h27, X27, e27, W27, st27⟩ := putF X18 hx hZ hown (host := "") (Or.inl (hw _ (List.mem_of_getElem? (i := 61) rfl))) Via.refl e18 F25 F26 (Or.inl (hw _ (List.mem_of_getElem? (i := 62) rfl))) (hw _ (List.mem_of_getElem? (i := 1) rfl)) (ty := .int) (by decide) rfl rfl (g := (mkF m 19 #[.val (.ref a), .val (.ref q), .val (.ref b3), .val (.int (0 : Int32))] [(.int (1 : Int32)), (.ref a)])) rfl rfl (hb hby own_d_jdk_38_method_24_19)
  refine own_Goes.st ?_ st27
  have F28 : Fld Z h27 a "java/util/ArrayList" "size" "I" (.int (1 : Int32)) := F25.same W27
  have Z29 : n0 ≤ h27.size := by rw [W27.size]; exact Z21
  have K30 := K22.wr W27 (Or.inl (List.mem_of_getElem? (i := 0) rfl))
  have O31 := O23.wr W27 pr4
  have N32 := Fr.snoc X27 N24 pr4
  show own_Goes p.tables e below P (T27.setTop (mkF m 22 #[.val (.ref a), .val (.ref q), .val (.ref b3), .val (.int (0 : Int32))] []))
  have F33 : Fld Z h27 a "java/util/ArrayList" "elementData" "[Ljava/lang/Object;" (.ref b3) := ((f6.other W18 (Or.inl ne12)).other W27 (Or.inr (slot_ne (Or.inl (hw _ (List.mem_of_getElem? (i := 25) rfl))) (Or.inl (hw _ (List.mem_of_getElem? (i := 62) rfl))) (by decide) (t := (.array (.object "java/lang/Object"))) (t' := .int) (by decide) (by decide))))
  obtain ⟨fs, hr, hrun, hended, hW, hsame⟩ := X27.leave (v := none) (fun _ => rfl)
  have F34 : Exa Z h27 a "java/util/ArrayList" := (F26.wr W27)
  have F35 : Fld Z h27 a "java/util/AbstractList" "modCount" "I" (.int mc) := ((f5.other W18 (Or.inl ne12)).other W27 (Or.inr (slot_ne (Or.inl (hw _ (List.mem_of_getElem? (i := 22) rfl))) (Or.inl (hw _ (List.mem_of_getElem? (i := 62) rfl))) (by decide) (t := .int) (t' := .int) (by decide) (by decide))))
  have F36 : Arv Z h27 b3 k3 (.object "java/lang/Object") (10 : Int32) [(.ref q), .null, .null, .null, .null, .null, .null, .null, .null, .null] .null := (V20.other W27 (Ne.symm ne12))
  have F37 : Exa Z h27 b3 "[Ljava/lang/Object;" := ((f10.wr W18).wr W27)
  have F38 : Exa Z h27 q "com/example/larder/larder/BooleanValue" := ((F19.wr W18).wr W27)
  exact own_Goes.fin _ _ (X27.returnOut hx Bd.returns (hb hby own_d_jdk_38_method_24_22) hr) (hPP _ _ ⟨hrun, hended, _, _, rfl, (by show Q_add3 Z a de kd mc q h0 n0 _ T27.heap _; rw [e27]; exact ⟨b3, k3, rfl, N32, K30, F34, F35, F33, F28, sz_b3, F36, F37, F38⟩), ⟨_, rfl⟩, hW, hsame.mono (by decide) (by decide)⟩)
theorem own_ef_add (m : MethodId) (x0 : Addr) (x1 : Addr) : entryFrame m #[(.ref x0), (.ref x1)] 2 = mkF m 0 #[.val (.ref x0), .val (.ref x1)] [] := by first | (simp [entryFrame, mkF, argsToLocals, Value.category]; done) | rfl
theorem own_d_jdk_38_method_25_0 : decode jdk_38_method_25_code 0 = .ok (.aload_n 0, 1) := by decide +kernel
theorem own_d_jdk_38_method_25_1 : decode jdk_38_method_25_code 1 = .ok (.dup, 1) := by decide +kernel
theorem own_d_jdk_38_method_25_2 : decode jdk_38_method_25_code 2 = .ok (.getfield 63, 3) := by decide +kernel
theorem own_d_jdk_38_method_25_5 : decode jdk_38_method_25_code 5 = .ok (.iconst 1, 1) := by decide +kernel
theorem own_d_jdk_38_method_25_6 : decode jdk_38_method_25_code 6 = .ok (.iadd, 1) := by decide +kernel
theorem own_d_jdk_38_method_25_7 : decode jdk_38_method_25_code 7 = .ok (.putfield 63, 3) := by decide +kernel
theorem own_d_jdk_38_method_25_10 : decode jdk_38_method_25_code 10 = .ok (.aload_n 0, 1) := by decide +kernel
theorem own_d_jdk_38_method_25_11 : decode jdk_38_method_25_code 11 = .ok (.aload_n 1, 1) := by decide +kernel
theorem own_d_jdk_38_method_25_12 : decode jdk_38_method_25_code 12 = .ok (.aload_n 0, 1) := by decide +kernel
theorem own_d_jdk_38_method_25_13 : decode jdk_38_method_25_code 13 = .ok (.getfield 9, 3) := by decide +kernel
theorem own_d_jdk_38_method_25_16 : decode jdk_38_method_25_code 16 = .ok (.aload_n 0, 1) := by decide +kernel
theorem own_d_jdk_38_method_25_17 : decode jdk_38_method_25_code 17 = .ok (.getfield 48, 3) := by decide +kernel
theorem own_pd__28_Ljava_2f_lang_2f_Object_3b__5b_Ljava_2f_lang_2f_Object_3b_I_29_V : parseMethodDescriptor "(Ljava/lang/Object;[Ljava/lang/Object;I)V" = some ⟨[(.object "java/lang/Object"), (.array (.object "java/lang/Object")), .int], none⟩ := by decide +kernel
theorem own_d_jdk_38_method_25_20 : decode jdk_38_method_25_code 20 = .ok (.invokevirtual 131, 3) := by decide +kernel
theorem own_d_jdk_38_method_25_23 : decode jdk_38_method_25_code 23 = .ok (.iconst 1, 1) := by decide +kernel
theorem own_d_jdk_38_method_25_24 : decode jdk_38_method_25_code 24 = .ok (.ireturn, 1) := by decide +kernel
def Q_add (Z : State) (a : Addr) (de : Addr) (kd : ClassId) (q : Addr) (h0 : Heap) (n0 : Nat) (rv_ : Option Value) (h_ : Heap) (L_ : List Loc) : Prop := ∃ (b : Addr) (k : ClassId), rv_ = some (.int (1 : Int32)) ∧ Fr n0 L_ ∧ Keep h0 h_ [a] ∧ (Exa Z h_ a "java/util/ArrayList") ∧ (Fld Z h_ a "java/util/AbstractList" "modCount" "I" (.int (1 : Int32))) ∧ (Fld Z h_ a "java/util/ArrayList" "elementData" "[Ljava/lang/Object;" (.ref b)) ∧ (Fld Z h_ a "java/util/ArrayList" "size" "I" (.int (1 : Int32))) ∧ (h0.size ≤ b) ∧ (Arv Z h_ b k (.object "java/lang/Object") (10 : Int32) [(.ref q), .null, .null, .null, .null, .null, .null, .null, .null, .null] .null) ∧ (Exa Z h_ b "[Ljava/lang/Object;") ∧ (Exa Z h_ q "com/example/larder/larder/BooleanValue")
set_option maxRecDepth 65536 in
set_option maxHeartbeats 40000000 in
theorem rm_add (l : Launch) (Z : State) (a0 : Array Value) (hw : ∀ d ∈ tables_1, d.before a0 Z = true) (ws : List Jvm.Cond) (a : Addr) (de : Addr) (kd : ClassId) (q : Addr) (h0 : Heap) (n0 : Nat) (Z0 : n0 ≤ h0.size) (pr0 : Exa Z h0 a "java/util/ArrayList") (pr1 : Fld Z h0 a "java/util/AbstractList" "modCount" "I" (.int (0 : Int32))) (pr2 : Fld Z h0 a "java/util/ArrayList" "elementData" "[Ljava/lang/Object;" (.ref de)) (pr3 : Fld Z h0 a "java/util/ArrayList" "size" "I" (.int (0 : Int32))) (pr4 : n0 ≤ a) (pr5 : Sta Z Z.heap "java/util/ArrayList" "DEFAULTCAPACITY_EMPTY_ELEMENTDATA" "[Ljava/lang/Object;" (.ref de)) (pr6 : Old Z n0 h0) (pr7 : Arv Z Z.heap de kd (.object "java/lang/Object") (0 : Int32) [] .null) (pr8 : Exa Z h0 q "com/example/larder/larder/BooleanValue") :
    MetFree l (⟨"java/util/ArrayList", "add", "(Ljava/lang/Object;)Z"⟩ : MethodName) (head1 (Jvm.Cond.code (⟨"java/util/ArrayList", "add", "(Ljava/lang/Object;)Z"⟩ : MethodName) jdk_38_method_25_code 2 (some .boolean) :: ws) ({ frames := 4, cells := 1, slots := 10, locals := 56 } : Room)) (fun as_ U => as_ = #[(.ref a), (.ref q)] ∧ Z.Warmed39 U.vm ∧ U.heap = h0) (fun _ _ _ _ _ => True) (fun _ U o U' => ∃ rv_ L_, o = .returned rv_ ∧ Q_add Z a de kd q h0 n0 rv_ U'.heap L_ ∧ FrameEnd U o U' L_ ({ frames := 4, cells := 1, slots := 10, locals := 56 } : Room).cells ({ frames := 4, cells := 1, slots := 10, locals := 56 } : Room).slots) := by
  refine MetFree.of_bodySF (plainFor_of_name own_pn_java_util_ArrayList) hisR ?_
  intro p e s m args below meth c s₁ Bd hml0 hP hK
  obtain ⟨rfl, hZ, hh⟩ := hP
  have hx := Bd.exec
  have hby := Bd.bytes
  have hml : c.maxLocals = 2 := hml0
  have hown : s.vm.findClass "java/util/ArrayList" = some m.cls := findClass_of_methodNamed Bd.named
  have hnm := (name_of_methodNamed Bd.named Bd.method).1
  have X0 : Stand p l e ({ frames := 4, cells := 1, slots := 10, locals := 56 } : Room) s m #[(.ref a), (.ref q)] below meth c s₁ [] 0 0 := Stand.of_body Bd
  have e0 : s₁.heap = h0 := by rw [← hh, Bd.state]; rfl
  have N0 := Fr.nil n0
  refine own_Goes.of ?_
  refine own_Goes.nm (fun P hPP => ?_)
  refine own_Goes.st ?_ (fun _ k => castTop (own_ef_add m a q) k)
  have K0 : Keep h0 h0 [a] := Keep.refl _ _
  show own_Goes p.tables e below P (s₁.setTop (mkF m 0 #[.val (.ref a), .val (.ref q)] []))
  refine own_Goes.st ?_ (fun _ k => XS.aloadN X0.here hx rfl (hb hby own_d_jdk_38_method_25_0) rfl rfl k)
  show own_Goes p.tables e below P (s₁.setTop (mkF m 1 #[.val (.ref a), .val (.ref q)] [(.ref a)]))
  refine own_Goes.st ?_ (fun _ k => XS.dup X0.here hx rfl (hb hby own_d_jdk_38_method_25_1) rfl rfl k)
  show own_Goes p.tables e below P (s₁.setTop (mkF m 2 #[.val (.ref a), .val (.ref q)] [(.ref a), (.ref a)]))
  obtain ⟨T1, X1, e1, st1⟩ := getF X0 hx hZ hown (host := "") (Or.inl (hw _ (List.mem_of_getElem? (i := 107) rfl))) (Via.of (hw _ (List.mem_of_getElem? (i := 108) rfl))) e0 pr1 (g := (mkF m 2 #[.val (.ref a), .val (.ref q)] [(.ref a), (.ref a)])) rfl rfl (hb hby own_d_jdk_38_method_25_2)
  refine own_Goes.st ?_ st1
  show own_Goes p.tables e below P (T1.setTop (mkF m 5 #[.val (.ref a), .val (.ref q)] [(.int (0 : Int32)), (.ref a)]))
  refine own_Goes.st ?_ (fun _ k => XS.iconst X1.here hx rfl (hb hby own_d_jdk_38_method_25_5) k)
  show own_Goes p.tables e below P (T1.setTop (mkF m 6 #[.val (.ref a), .val (.ref q)] [(.int (1 : Int32)), (.int (0 : Int32)), (.ref a)]))
  refine own_Goes.st ?_ (fun _ k => XS.iadd X1.here hx rfl (hb hby own_d_jdk_38_method_25_6) rfl k)
  show own_Goes p.tables e below P (T1.setTop (mkF m 7 #[.val (.ref a), .val (.ref q)] [(.int (1 : Int32)), (.ref a)]))
  obtain ⟨T2, h2, X2, e2, W2, st2⟩ := putF X1 hx hZ hown (host := "") (Or.inl (hw _ (List.mem_of_getElem? (i := 107) rfl))) (Via.of (hw _ (List.mem_of_getElem? (i := 108) rfl))) e1 pr1 pr0 (Or.inl (hw _ (List.mem_of_getElem? (i := 22) rfl))) (hw _ (List.mem_of_getElem? (i := 1) rfl)) (ty := .int) (by decide) rfl rfl (g := (mkF m 7 #[.val (.ref a), .val (.ref q)] [(.int (1 : Int32)), (.ref a)])) rfl rfl (hb hby own_d_jdk_38_method_25_7)
  refine own_Goes.st ?_ st2
  have F3 : Fld Z h2 a "java/util/AbstractList" "modCount" "I" (.int (1 : Int32)) := pr1.same W2
  have Z4 : n0 ≤ h2.size := by rw [W2.size]; exact Z0
  have K5 := K0.wr W2 (Or.inl (List.mem_of_getElem? (i := 0) rfl))
  have O6 := pr6.wr W2 pr4
  have N7 := Fr.snoc X2 N0 pr4
  show own_Goes p.tables e below P (T2.setTop (mkF m 10 #[.val (.ref a), .val (.ref q)] []))
  refine own_Goes.st ?_ (fun _ k => XS.aloadN X2.here hx rfl (hb hby own_d_jdk_38_method_25_10) rfl rfl k)
  show own_Goes p.tables e below P (T2.setTop (mkF m 11 #[.val (.ref a), .val (.ref q)] [(.ref a)]))
  refine own_Goes.st ?_ (fun _ k => XS.aloadN X2.here hx rfl (hb hby own_d_jdk_38_method_25_11) rfl rfl k)
  show own_Goes p.tables e below P (T2.setTop (mkF m 12 #[.val (.ref a), .val (.ref q)] [(.ref q), (.ref a)]))
  refine own_Goes.st ?_ (fun _ k => XS.aloadN X2.here hx rfl (hb hby own_d_jdk_38_method_25_12) rfl rfl k)
  show own_Goes p.tables e below P (T2.setTop (mkF m 13 #[.val (.ref a), .val (.ref q)] [(.ref a), (.ref q), (.ref a)]))
  have F8 : Fld Z h2 a "java/util/ArrayList" "elementData" "[Ljava/lang/Object;" (.ref de) := (pr2.other W2 (Or.inr (slot_ne (Or.inl (hw _ (List.mem_of_getElem? (i := 25) rfl))) (Or.inl (hw _ (List.mem_of_getElem? (i := 22) rfl))) (by decide) (t := (.array (.object "java/lang/Object"))) (t' := .int) (by decide) (by decide))))
  obtain ⟨T9, X9, e9, st9⟩ := getF X2 hx hZ hown (host := "") (Or.inl (hw _ (List.mem_of_getElem? (i := 24) rfl))) Via.refl e2 F8 (g := (mkF m 13 #[.val (.ref a), .val (.ref q)] [(.ref a), (.ref q), (.ref a)])) rfl rfl (hb hby own_d_jdk_38_method_25_13)
  refine own_Goes.st ?_ st9
  show own_Goes p.tables e below P (T9.setTop (mkF m 16 #[.val (.ref a), .val (.ref q)] [(.ref de), (.ref q), (.ref a)]))
  refine own_Goes.st ?_ (fun _ k => XS.aloadN X9.here hx rfl (hb hby own_d_jdk_38_method_25_16) rfl rfl k)
  show own_Goes p.tables e below P (T9.setTop (mkF m 17 #[.val (.ref a), .val (.ref q)] [(.ref a), (.ref de), (.ref q), (.ref a)]))
  have F10 : Fld Z h2 a "java/util/ArrayList" "size" "I" (.int (0 : Int32)) := (pr3.other W2 (Or.inr (slot_ne (Or.inl (hw _ (List.mem_of_getElem? (i := 62) rfl))) (Or.inl (hw _ (List.mem_of_getElem? (i := 22) rfl))) (by decide) (t := .int) (t' := .int) (by decide) (by decide))))
  obtain ⟨T11, X11, e11, st11⟩ := getF X9 hx hZ hown (host := "") (Or.inl (hw _ (List.mem_of_getElem? (i := 61) rfl))) Via.refl e9 F10 (g := (mkF m 17 #[.val (.ref a), .val (.ref q)] [(.ref a), (.ref de), (.ref q), (.ref a)])) rfl rfl (hb hby own_d_jdk_38_method_25_17)
  refine own_Goes.st ?_ st11
  show own_Goes p.tables e below P (T11.setTop (mkF m 20 #[.val (.ref a), .val (.ref q)] [(.int (0 : Int32)), (.ref de), (.ref q), (.ref a)]))
  have F12 : Exa Z h2 a "java/util/ArrayList" := (pr0.wr W2)
  have F13 : Exa Z h2 q "com/example/larder/larder/BooleanValue" := (pr8.wr W2)
  obtain ⟨cq14, q14a, q14b⟩ := F12.cell
  obtain ⟨_, _, ⟨T14, L14, k14, n14⟩, -, X14, ⟨Lc14, hQ14, l14, y14, z14⟩, st14⟩ := X11.privateBack hx (y := (⟨"java/util/ArrayList", "add", "(Ljava/lang/Object;[Ljava/lang/Object;I)V"⟩ : MethodName)) hown (mvT hZ (hw _ (List.mem_of_getElem? (i := 109) rfl))) (mvT hZ (hw _ (List.mem_of_getElem? (i := 110) rfl))) (mvT hZ (hw _ (List.mem_of_getElem? (i := 112) rfl))) (Cond.privateMethod_at (mvP hZ (hw _ (List.mem_of_getElem? (i := 111) rfl)) (args := #[]))) (mvT hZ (hw _ (List.mem_of_getElem? (i := 113) rfl))) (by decide) (backOf (W := 0) (rm_add3 l Z a0 hw [] a de kd (1 : Int32) q h2 n0 Z4 F12 F3 F8 F10 pr4 pr5 O6 pr7 F13) hZ (hw _ (List.mem_of_getElem? (i := 113) rfl)) (hw _ (List.mem_of_getElem? (i := 2) rfl)) (by decide) (by decide)) (g := (mkF m 20 #[.val (.ref a), .val (.ref q)] [(.int (0 : Int32)), (.ref de), (.ref q), (.ref a)])) rfl (by rw [hml]; rfl) (Steps.refl _) (a := a) (by rw [e11]; exact q14a) q14b (argsL := [(.ref q), (.ref de), (.int (0 : Int32))]) (rest := []) (lenOf own_pd__28_Ljava_2f_lang_2f_Object_3b__5b_Ljava_2f_lang_2f_Object_3b_I_29_V rfl) rfl (by show 2 * 0 + _ ≤ _; exact Nat.le_of_eq rfl) (hb hby own_d_jdk_38_method_25_20) (fun _ _ => ⟨rfl, e11, (by decide : 0 + 1 ≤ _), (by decide : 0 + 10 ≤ _)⟩)
  dsimp only [Pt.U, Pt.locs, Pt.cells, Pt.slots] at X14 l14 y14 z14 st14 hQ14
  rw [l14, y14, z14] at X14
  obtain ⟨b14, k14, rfl, Nq14, K14, f15, f16, f17, f18, f19, f20, f21, f22⟩ := hQ14
  have N14 := Fr.app N7 Nq14
  refine own_Goes.tr st14 ?_
  have ne23 : a ≠ b14 := Nat.ne_of_lt (Nat.lt_of_lt_of_le F12.lt f19)
  have ne24 : q ≠ b14 := Nat.ne_of_lt (Nat.lt_of_lt_of_le F13.lt f19)
  have ge_b14 : n0 ≤ b14 := Nat.le_trans Z4 f19
  have sz_b14 : h0.size ≤ b14 := Nat.le_trans K5.1 f19
  have Z25 : n0 ≤ T14.heap.size := Nat.le_trans Z4 K14.1
  have K26 := K5.trans K14 (allS (Or.inl (List.mem_of_getElem? (i := 0) rfl)) all0)
  have O27 := O6.keep K14 (allS pr4 all0)
  show own_Goes p.tables e below P (T14.setTop (mkF m 23 #[.val (.ref a), .val (.ref q)] []))
  refine own_Goes.st ?_ (fun _ k => XS.iconst X14.here hx rfl (hb hby own_d_jdk_38_method_25_23) k)
  show own_Goes p.tables e below P (T14.setTop (mkF m 24 #[.val (.ref a), .val (.ref q)] [(.int (1 : Int32))]))
  obtain ⟨fs, hr, hrun, hended, hW, hsame⟩ := X14.leave (v := some (.int (1 : Int32))) (fun h => by rw [Bd.returns] at h; cases h)
  exact own_Goes.fin _ _ (retOut X14 hx (t := .boolean) Bd.returns rfl (Or.inl ⟨rfl, Or.inr (Or.inl rfl), _, rfl⟩) (hb hby own_d_jdk_38_method_25_24) hr) (hPP _ _ ⟨hrun, hended, _, _, rfl, (by show Q_add Z a de kd q h0 n0 _ T14.heap _; exact ⟨b14, k14, rfl, N14, K26, f15, f16, f17, f18, sz_b14, f20, f21, f22⟩), ⟨_, rfl⟩, hW, hsame.mono (by decide) (by decide)⟩)
theorem own_ef_lof0 (m : MethodId) : entryFrame m #[] 0 = mkF m 0 #[] [] := by first | (simp [entryFrame, mkF, argsToLocals, Value.category]; done) | rfl
theorem own_pn_java_util_List : plainName "java/util/List" = true := by first | (simp [plainName, overriddenIn]; done) | decide +kernel
theorem own_d_jdk_40_method_36_0 : decode jdk_40_method_36_code 0 = .ok (.getstatic 90, 3) := by decide +kernel
theorem own_d_jdk_40_method_36_3 : decode jdk_40_method_36_code 3 = .ok (.areturn, 1) := by decide +kernel
def Q_lof0 (Z : State) (el : Addr) (h0 : Heap) (n0 : Nat) (rv_ : Option Value) (h_ : Heap) (L_ : List Loc) : Prop := rv_ = some (.ref el) ∧ Fr n0 L_ ∧ h_ = h0
set_option maxRecDepth 65536 in
set_option maxHeartbeats 40000000 in
theorem rm_lof0 (l : Launch) (Z : State) (a0 : Array Value) (hw : ∀ d ∈ tables_1, d.before a0 Z = true) (ws : List Jvm.Cond) (el : Addr) (h0 : Heap) (n0 : Nat) (Z0 : n0 ≤ h0.size) (pr0 : Sta Z Z.heap "java/util/ImmutableCollections" "EMPTY_LIST" "Ljava/util/ImmutableCollections$ListN;" (.ref el)) (pr1 : Old Z n0 h0) :
    MetFree l (⟨"java/util/List", "of", "()Ljava/util/List;"⟩ : MethodName) (head1 (Jvm.Cond.code (⟨"java/util/List", "of", "()Ljava/util/List;"⟩ : MethodName) jdk_40_method_36_code 0 (some (.object "java/util/List")) :: ws) ({ frames := 0, cells := 0, slots := 0, locals := 0 } : Room)) (fun as_ U => as_ = #[] ∧ Z.Warmed39 U.vm ∧ U.heap = h0) (fun _ _ _ _ _ => True) (fun _ U o U' => ∃ rv_ L_, o = .returned rv_ ∧ Q_lof0 Z el h0 n0 rv_ U'.heap L_ ∧ FrameEnd U o U' L_ ({ frames := 0, cells := 0, slots := 0, locals := 0 } : Room).cells ({ frames := 0, cells := 0, slots := 0, locals := 0 } : Room).slots) := by
  refine MetFree.of_bodySF (plainFor_of_name own_pn_java_util_List) hisR ?_
  intro p e s m args below meth c s₁ Bd hml0 hP hK
  obtain ⟨rfl, hZ, hh⟩ := hP
  have hx := Bd.exec
  have hby := Bd.bytes
  have hml : c.maxLocals = 0 := hml0
  have hown : s.vm.findClass "java/util/List" = some m.cls := findClass_of_methodNamed Bd.named
  have hnm := (name_of_methodNamed Bd.named Bd.method).1
  have X0 : Stand p l e ({ frames := 0, cells := 0, slots := 0, locals := 0 } : Room) s m #[] below meth c s₁ [] 0 0 := Stand.of_body Bd
  have e0 : s₁.heap = h0 := by rw [← hh, Bd.state]; rfl
  have N0 := Fr.nil n0
  refine own_Goes.of ?_
  refine own_Goes.nm (fun P hPP => ?_)
  refine own_Goes.st ?_ (fun _ k => castTop (own_ef_lof0 m) k)
  show own_Goes p.tables e below P (s₁.setTop (mkF m 0 #[] []))
  obtain ⟨T1, X1, e1, st1⟩ := getS2 X0 hx hZ hown (host := "") (Or.inl (hw _ (List.mem_of_getElem? (i := 66) rfl))) Via.refl e0 (pr0.ext pr1.2) (g := (mkF m 0 #[] [])) rfl (hb hby own_d_jdk_40_method_36_0)
  refine own_Goes.st ?_ st1
  show own_Goes p.tables e below P (T1.setTop (mkF m 3 #[] [(.ref el)]))
  obtain ⟨fs, hr, hrun, hended, hW, hsame⟩ := X1.leave (v := some (.ref el)) (fun h => by rw [Bd.returns] at h; cases h)
  exact own_Goes.fin _ _ (retOut X1 hx (t := (.object "java/util/List")) Bd.returns rfl (Or.inr (Or.inr (Or.inr (Or.inr ⟨rfl, rfl, rfl⟩)))) (hb hby own_d_jdk_40_method_36_3) hr) (hPP _ _ ⟨hrun, hended, _, _, rfl, (by show Q_lof0 Z el h0 n0 _ T1.heap _; rw [e1]; exact ⟨rfl, N0, rfl⟩), ⟨_, rfl⟩, hW, hsame.mono (by decide) (by decide)⟩)
theorem own_ef_lcEL (m : MethodId) (x0 : Addr) : entryFrame m #[(.ref x0)] 2 = mkF m 0 #[.val (.ref x0), .unset] [] := by first | (simp [entryFrame, mkF, argsToLocals, Value.category]; done) | rfl
theorem own_pn_java_util_ImmutableCollections : plainName "java/util/ImmutableCollections" = true := by first | (simp [plainName, overriddenIn]; done) | decide +kernel
theorem own_d_jdk_56_method_3_0 : decode jdk_56_method_3_code 0 = .ok (.aload_n 0, 1) := by decide +kernel
theorem own_d_jdk_56_method_3_1 : decode jdk_56_method_3_code 1 = .ok (.instanceof 10, 3) := by decide +kernel
theorem own_d_jdk_56_method_3_4 : decode jdk_56_method_3_code 4 = .ok (.ifCond .ne 22, 3) := by decide +kernel
theorem own_d_jdk_56_method_3_7 : decode jdk_56_method_3_code 7 = .ok (.aload_n 0, 1) := by decide +kernel
theorem own_d_jdk_56_method_3_8 : decode jdk_56_method_3_code 8 = .ok (.instanceof 12, 3) := by decide +kernel
theorem own_d_jdk_56_method_3_11 : decode jdk_56_method_3_code 11 = .ok (.ifCond .eq 20, 3) := by decide +kernel
theorem own_d_jdk_56_method_3_14 : decode jdk_56_method_3_code 14 = .ok (.aload_n 0, 1) := by decide +kernel
theorem own_d_jdk_56_method_3_15 : decode jdk_56_method_3_code 15 = .ok (.checkcast 12, 3) := by decide +kernel
theorem own_d_jdk_56_method_3_18 : decode jdk_56_method_3_code 18 = .ok (.astore_n 1, 1) := by decide +kernel
theorem own_d_jdk_56_method_3_19 : decode jdk_56_method_3_code 19 = .ok (.aload_n 1, 1) := by decide +kernel
theorem own_d_jdk_56_method_3_20 : decode jdk_56_method_3_code 20 = .ok (.getfield 14, 3) := by decide +kernel
theorem own_d_jdk_56_method_3_23 : decode jdk_56_method_3_code 23 = .ok (.ifCond .ne 8, 3) := by decide +kernel
theorem own_d_jdk_56_method_3_26 : decode jdk_56_method_3_code 26 = .ok (.aload_n 0, 1) := by decide +kernel
theorem own_d_jdk_56_method_3_27 : decode jdk_56_method_3_code 27 = .ok (.checkcast 18, 3) := by decide +kernel
theorem own_d_jdk_56_method_3_30 : decode jdk_56_method_3_code 30 = .ok (.areturn, 1) := by decide +kernel
def Q_lcEL (Z : State) (el : Addr) (h0 : Heap) (n0 : Nat) (rv_ : Option Value) (h_ : Heap) (L_ : List Loc) : Prop := rv_ = some (.ref el) ∧ Fr n0 L_ ∧ h_ = h0
set_option maxRecDepth 65536 in
set_option maxHeartbeats 40000000 in
theorem rm_lcEL (l : Launch) (Z : State) (a0 : Array Value) (hw : ∀ d ∈ tables_1, d.before a0 Z = true) (ws : List Jvm.Cond) (el : Addr) (h0 : Heap) (n0 : Nat) (Z0 : n0 ≤ h0.size) (pr0 : Old Z n0 h0) (pr1 : Exa Z Z.heap el "java/util/ImmutableCollections$ListN") (pr2 : Fld Z Z.heap el "java/util/ImmutableCollections$ListN" "allowNulls" "Z" (.int (0 : Int32))) :
    MetFree l (⟨"java/util/ImmutableCollections", "listCopy", "(Ljava/util/Collection;)Ljava/util/List;"⟩ : MethodName) (head1 (Jvm.Cond.code (⟨"java/util/ImmutableCollections", "listCopy", "(Ljava/util/Collection;)Ljava/util/List;"⟩ : MethodName) jdk_56_method_3_code 2 (some (.object "java/util/List")) :: ws) ({ frames := 0, cells := 0, slots := 0, locals := 0 } : Room)) (fun as_ U => as_ = #[(.ref el)] ∧ Z.Warmed39 U.vm ∧ U.heap = h0) (fun _ _ _ _ _ => True) (fun _ U o U' => ∃ rv_ L_, o = .returned rv_ ∧ Q_lcEL Z el h0 n0 rv_ U'.heap L_ ∧ FrameEnd U o U' L_ ({ frames := 0, cells := 0, slots := 0, locals := 0 } : Room).cells ({ frames := 0, cells := 0, slots := 0, locals := 0 } : Room).slots) := by
  refine MetFree.of_bodySF (plainFor_of_name own_pn_java_util_ImmutableCollections) hisR ?_
  intro p e s m args below meth c s₁ Bd hml0 hP hK
  obtain ⟨rfl, hZ, hh⟩ := hP
  have hx := Bd.exec
  have hby := Bd.bytes
  have hml : c.maxLocals = 2 := hml0
  have hown : s.vm.findClass "java/util/ImmutableCollections" = some m.cls := findClass_of_methodNamed Bd.named
  have hnm := (name_of_methodNamed Bd.named Bd.method).1
  have X0 : Stand p l e ({ frames := 0, cells := 0, slots := 0, locals := 0 } : Room) s m #[(.ref el)] below meth c s₁ [] 0 0 := Stand.of_body Bd
  have e0 : s₁.heap = h0 := by rw [← hh, Bd.state]; rfl
  have N0 := Fr.nil n0
  refine own_Goes.of ?_
  refine own_Goes.nm (fun P hPP => ?_)
  refine own_Goes.st ?_ (fun _ k => castTop (own_ef_lcEL m el) k)
  show own_Goes p.tables e below P (s₁.setTop (mkF m 0 #[.val (.ref el), .unset] []))
  refine own_Goes.st ?_ (fun _ k => XS.aloadN X0.here hx rfl (hb hby own_d_jdk_56_method_3_0) rfl rfl k)
  show own_Goes p.tables e below P (s₁.setTop (mkF m 1 #[.val (.ref el), .unset] [(.ref el)]))
  have F2 : Exa Z h0 el "java/util/ImmutableCollections$ListN" := pr1.ext pr0.2
  obtain ⟨T1, X1, e1, st1⟩ := instNo X0 hx hZ hown (hw _ (List.mem_of_getElem? (i := 46) rfl)) e0 F2 (own_NSno (hw _ (List.mem_of_getElem? (i := 90) rfl)) (own_found_ins (hw _ (List.mem_of_getElem? (i := 165) rfl))) (NS.step (hw _ (List.mem_of_getElem? (i := 90) rfl)) (NS.step (hw _ (List.mem_of_getElem? (i := 91) rfl)) (NS.step (hw _ (List.mem_of_getElem? (i := 92) rfl)) (NS.step (hw _ (List.mem_of_getElem? (i := 49) rfl)) (own_NSroot (hw _ (List.mem_of_getElem? (i := 50) rfl)) (own_found_ins (hw _ (List.mem_of_getElem? (i := 165) rfl))) (by decide)) (by decide)) (by decide)) (by decide)) (by decide)) (by decide)) (g := (mkF m 1 #[.val (.ref el), .unset] [(.ref el)])) rfl rfl (hb hby own_d_jdk_56_method_3_1)
  refine own_Goes.st ?_ st1
  show own_Goes p.tables e below P (T1.setTop (mkF m 4 #[.val (.ref el), .unset] [(.int (0 : Int32))]))
  refine own_Goes.st ?_ (fun _ k => XS.ifNo X1.here hx rfl (hb hby own_d_jdk_56_method_3_4) rfl ((if0 _ _).trans (teq (by decide : (0 : Int32) = (0 : Int32))).2) k)
  show own_Goes p.tables e below P (T1.setTop (mkF m 7 #[.val (.ref el), .unset] []))
  refine own_Goes.st ?_ (fun _ k => XS.aloadN X1.here hx rfl (hb hby own_d_jdk_56_method_3_7) rfl rfl k)
  show own_Goes p.tables e below P (T1.setTop (mkF m 8 #[.val (.ref el), .unset] [(.ref el)]))
  have F4 : Exa Z h0 el "java/util/ImmutableCollections$ListN" := pr1.ext pr0.2
  obtain ⟨T3, X3, e3, st3⟩ := instY X1 hx hZ hown (hw _ (List.mem_of_getElem? (i := 51) rfl)) e1 (Ins.self F4) (g := (mkF m 8 #[.val (.ref el), .unset] [(.ref el)])) rfl rfl (hb hby own_d_jdk_56_method_3_8)
  refine own_Goes.st ?_ st3
  show own_Goes p.tables e below P (T3.setTop (mkF m 11 #[.val (.ref el), .unset] [(.int (1 : Int32))]))
  refine own_Goes.st ?_ (fun _ k => XS.ifNo X3.here hx rfl (hb hby own_d_jdk_56_method_3_11) rfl ((if0 _ _).trans (feq (by decide : ¬ ((1 : Int32) = (0 : Int32)))).1) k)
  show own_Goes p.tables e below P (T3.setTop (mkF m 14 #[.val (.ref el), .unset] []))
  refine own_Goes.st ?_ (fun _ k => XS.aloadN X3.here hx rfl (hb hby own_d_jdk_56_method_3_14) rfl rfl k)
  show own_Goes p.tables e below P (T3.setTop (mkF m 15 #[.val (.ref el), .unset] [(.ref el)]))
  have F6 : Exa Z h0 el "java/util/ImmutableCollections$ListN" := pr1.ext pr0.2
  obtain ⟨T5, X5, e5, st5⟩ := castY X3 hx hZ hown (hw _ (List.mem_of_getElem? (i := 51) rfl)) e3 (Ins.self F6) (g := (mkF m 15 #[.val (.ref el), .unset] [(.ref el)])) rfl rfl (hb hby own_d_jdk_56_method_3_15)
  refine own_Goes.st ?_ st5
  show own_Goes p.tables e below P (T5.setTop (mkF m 18 #[.val (.ref el), .unset] [(.ref el)]))
  refine own_Goes.st ?_ (fun _ k => XS.astoreN X5.here hx rfl (hb hby own_d_jdk_56_method_3_18) rfl rfl (l' := #[.val (.ref el), .val (.ref el)]) rfl k)
  show own_Goes p.tables e below P (T5.setTop (mkF m 19 #[.val (.ref el), .val (.ref el)] []))
  refine own_Goes.st ?_ (fun _ k => XS.aloadN X5.here hx rfl (hb hby own_d_jdk_56_method_3_19) rfl rfl k)
  show own_Goes p.tables e below P (T5.setTop (mkF m 20 #[.val (.ref el), .val (.ref el)] [(.ref el)]))
  have F7 : Fld Z h0 el "java/util/ImmutableCollections$ListN" "allowNulls" "Z" (.int (0 : Int32)) := pr2.ext pr0.2
  obtain ⟨T8, X8, e8, st8⟩ := getF X5 hx hZ hown (Or.inr (hw _ (List.mem_of_getElem? (i := 94) rfl))) Via.refl e5 F7 (g := (mkF m 20 #[.val (.ref el), .val (.ref el)] [(.ref el)])) rfl rfl (hb hby own_d_jdk_56_method_3_20)
  refine own_Goes.st ?_ st8
  show own_Goes p.tables e below P (T8.setTop (mkF m 23 #[.val (.ref el), .val (.ref el)] [(.int (0 : Int32))]))
  refine own_Goes.st ?_ (fun _ k => XS.ifNo X8.here hx rfl (hb hby own_d_jdk_56_method_3_23) rfl ((if0 _ _).trans (teq (by decide : (0 : Int32) = (0 : Int32))).2) k)
  show own_Goes p.tables e below P (T8.setTop (mkF m 26 #[.val (.ref el), .val (.ref el)] []))
  refine own_Goes.st ?_ (fun _ k => XS.aloadN X8.here hx rfl (hb hby own_d_jdk_56_method_3_26) rfl rfl k)
  show own_Goes p.tables e below P (T8.setTop (mkF m 27 #[.val (.ref el), .val (.ref el)] [(.ref el)]))
  have F10 : Exa Z h0 el "java/util/ImmutableCollections$ListN" := pr1.ext pr0.2
  obtain ⟨T9, X9, e9, st9⟩ := castY X8 hx hZ hown (hw _ (List.mem_of_getElem? (i := 96) rfl)) e8 (Ins.of_exa F10 (hw _ (List.mem_of_getElem? (i := 97) rfl))) (g := (mkF m 27 #[.val (.ref el), .val (.ref el)] [(.ref el)])) rfl rfl (hb hby own_d_jdk_56_method_3_27)
  refine own_Goes.st ?_ st9
  show own_Goes p.tables e below P (T9.setTop (mkF m 30 #[.val (.ref el), .val (.ref el)] [(.ref el)]))
  obtain ⟨fs, hr, hrun, hended, hW, hsame⟩ := X9.leave (v := some (.ref el)) (fun h => by rw [Bd.returns] at h; cases h)
  exact own_Goes.fin _ _ (retOut X9 hx (t := (.object "java/util/List")) Bd.returns rfl (Or.inr (Or.inr (Or.inr (Or.inr ⟨rfl, rfl, rfl⟩)))) (hb hby own_d_jdk_56_method_3_30) hr) (hPP _ _ ⟨hrun, hended, _, _, rfl, (by show Q_lcEL Z el h0 n0 _ T9.heap _; rw [e9]; exact ⟨rfl, N0, rfl⟩), ⟨_, rfl⟩, hW, hsame.mono (by decide) (by decide)⟩)
theorem own_ef_cpEL (m : MethodId) (x0 : Addr) : entryFrame m #[(.ref x0)] 1 = mkF m 0 #[.val (.ref x0)] [] := by first | (simp [entryFrame, mkF, argsToLocals, Value.category]; done) | rfl
theorem own_d_jdk_40_method_48_0 : decode jdk_40_method_48_code 0 = .ok (.aload_n 0, 1) := by decide +kernel
theorem own_pd__28_Ljava_2f_util_2f_Collection_3b__29_Ljava_2f_util_2f_List_3b_ : parseMethodDescriptor "(Ljava/util/Collection;)Ljava/util/List;" = some ⟨[(.object "java/util/Collection")], some (.object "java/util/List")⟩ := by decide +kernel
theorem own_d_jdk_40_method_48_1 : decode jdk_40_method_48_code 1 = .ok (.invokestatic 112, 3) := by decide +kernel
theorem own_d_jdk_40_method_48_4 : decode jdk_40_method_48_code 4 = .ok (.areturn, 1) := by decide +kernel
def Q_cpEL (Z : State) (el : Addr) (h0 : Heap) (n0 : Nat) (rv_ : Option Value) (h_ : Heap) (L_ : List Loc) : Prop := rv_ = some (.ref el) ∧ Fr n0 L_ ∧ h_ = h0
set_option maxRecDepth 65536 in
set_option maxHeartbeats 40000000 in
theorem rm_cpEL (l : Launch) (Z : State) (a0 : Array Value) (hw : ∀ d ∈ tables_1, d.before a0 Z = true) (ws : List Jvm.Cond) (el : Addr) (h0 : Heap) (n0 : Nat) (Z0 : n0 ≤ h0.size) (pr0 : Old Z n0 h0) (pr1 : Exa Z Z.heap el "java/util/ImmutableCollections$ListN") (pr2 : Fld Z Z.heap el "java/util/ImmutableCollections$ListN" "allowNulls" "Z" (.int (0 : Int32))) :
    MetFree l (⟨"java/util/List", "copyOf", "(Ljava/util/Collection;)Ljava/util/List;"⟩ : MethodName) (head1 (Jvm.Cond.code (⟨"java/util/List", "copyOf", "(Ljava/util/Collection;)Ljava/util/List;"⟩ : MethodName) jdk_40_method_48_code 1 (some (.object "java/util/List")) :: ws) ({ frames := 1, cells := 0, slots := 0, locals := 13 } : Room)) (fun as_ U => as_ = #[(.ref el)] ∧ Z.Warmed39 U.vm ∧ U.heap = h0) (fun _ _ _ _ _ => True) (fun _ U o U' => ∃ rv_ L_, o = .returned rv_ ∧ Q_cpEL Z el h0 n0 rv_ U'.heap L_ ∧ FrameEnd U o U' L_ ({ frames := 1, cells := 0, slots := 0, locals := 13 } : Room).cells ({ frames := 1, cells := 0, slots := 0, locals := 13 } : Room).slots) := by
  refine MetFree.of_bodySF (plainFor_of_name own_pn_java_util_List) hisR ?_
  intro p e s m args below meth c s₁ Bd hml0 hP hK
  obtain ⟨rfl, hZ, hh⟩ := hP
  have hx := Bd.exec
  have hby := Bd.bytes
  have hml : c.maxLocals = 1 := hml0
  have hown : s.vm.findClass "java/util/List" = some m.cls := findClass_of_methodNamed Bd.named
  have hnm := (name_of_methodNamed Bd.named Bd.method).1
  have X0 : Stand p l e ({ frames := 1, cells := 0, slots := 0, locals := 13 } : Room) s m #[(.ref el)] below meth c s₁ [] 0 0 := Stand.of_body Bd
  have e0 : s₁.heap = h0 := by rw [← hh, Bd.state]; rfl
  have N0 := Fr.nil n0
  refine own_Goes.of ?_
  refine own_Goes.nm (fun P hPP => ?_)
  refine own_Goes.st ?_ (fun _ k => castTop (own_ef_cpEL m el) k)
  show own_Goes p.tables e below P (s₁.setTop (mkF m 0 #[.val (.ref el)] []))
  refine own_Goes.st ?_ (fun _ k => XS.aloadN X0.here hx rfl (hb hby own_d_jdk_40_method_48_0) rfl rfl k)
  show own_Goes p.tables e below P (s₁.setTop (mkF m 1 #[.val (.ref el)] [(.ref el)]))
  obtain ⟨_, _, ⟨T1, L1, k1, n1⟩, -, X1, ⟨Lc1, hQ1, l1, y1, z1⟩, st1⟩ := Jvm.LawKit.callS X0 hx (y := (⟨"java/util/ImmutableCollections", "listCopy", "(Ljava/util/Collection;)Ljava/util/List;"⟩ : MethodName)) hown (mvT hZ (hw _ (List.mem_of_getElem? (i := 42) rfl))) (mvT hZ (hw _ (List.mem_of_getElem? (i := 43) rfl))) (mvT hZ (hw _ (List.mem_of_getElem? (i := 44) rfl))) (mvT hZ (hw _ (List.mem_of_getElem? (i := 45) rfl))) (by decide) (backOf (W := 0) (rm_lcEL l Z a0 hw [] el h0 n0 Z0 pr0 pr1 pr2) hZ (hw _ (List.mem_of_getElem? (i := 45) rfl)) (hw _ (List.mem_of_getElem? (i := 44) rfl)) (by decide) (by decide)) (g := (mkF m 1 #[.val (.ref el)] [(.ref el)])) rfl (by rw [hml]; rfl) (argsL := [(.ref el)]) (rest := []) (lenOf own_pd__28_Ljava_2f_util_2f_Collection_3b__29_Ljava_2f_util_2f_List_3b_ rfl) rfl (by show 2 * 0 + _ ≤ _; exact Nat.le_of_eq rfl) (hb hby own_d_jdk_40_method_48_1) (fun _ _ => ⟨rfl, e0, (by decide : 0 + 0 ≤ _), (by decide : 0 + 0 ≤ _)⟩)
  dsimp only [Pt.U, Pt.locs, Pt.cells, Pt.slots] at X1 l1 y1 z1 st1 hQ1
  rw [l1, y1, z1] at X1
  obtain ⟨rfl, Nq1, e1⟩ := hQ1
  have N1 := Fr.app N0 Nq1
  refine own_Goes.st ?_ st1
  show own_Goes p.tables e below P (T1.setTop (mkF m 4 #[.val (.ref el)] [(.ref el)]))
  obtain ⟨fs, hr, hrun, hended, hW, hsame⟩ := X1.leave (v := some (.ref el)) (fun h => by rw [Bd.returns] at h; cases h)
  exact own_Goes.fin _ _ (retOut X1 hx (t := (.object "java/util/List")) Bd.returns rfl (Or.inr (Or.inr (Or.inr (Or.inr ⟨rfl, rfl, rfl⟩)))) (hb hby own_d_jdk_40_method_48_4) hr) (hPP _ _ ⟨hrun, hended, _, _, rfl, (by show Q_cpEL Z el h0 n0 _ T1.heap _; rw [e1]; exact ⟨rfl, N1, rfl⟩), ⟨_, rfl⟩, hW, hsame.mono (by decide) (by decide)⟩)
theorem own_ef_bvl0 (m : MethodId) (x0 : Addr) (x2 : Addr) : entryFrame m #[(.ref x0), (.int (0 : Int32)), (.ref x2)] 3 = mkF m 0 #[.val (.ref x0), .val (.int (0 : Int32)), .val (.ref x2)] [] := by first | (simp [entryFrame, mkF, argsToLocals, Value.category]; done) | rfl
theorem own_pn_com_example_larder_larder_BooleanValue : plainName "com/example/larder/larder/BooleanValue" = true := by first | (simp [plainName, overriddenIn]; done) | decide +kernel
theorem own_d_prog_7_method_1_0 : decode prog_7_method_1_code 0 = .ok (.aload_n 0, 1) := by decide +kernel
theorem own_d_prog_7_method_1_1 : decode prog_7_method_1_code 1 = .ok (.invokespecial 1, 3) := by decide +kernel
theorem own_d_prog_7_method_1_4 : decode prog_7_method_1_code 4 = .ok (.aload_n 2, 1) := by decide +kernel
theorem own_d_prog_7_method_1_5 : decode prog_7_method_1_code 5 = .ok (.invokestatic 7, 3) := by decide +kernel
theorem own_d_prog_7_method_1_8 : decode prog_7_method_1_code 8 = .ok (.astore_n 2, 1) := by decide +kernel
theorem own_d_prog_7_method_1_9 : decode prog_7_method_1_code 9 = .ok (.aload_n 0, 1) := by decide +kernel
theorem own_d_prog_7_method_1_10 : decode prog_7_method_1_code 10 = .ok (.iload_n 1, 1) := by decide +kernel
theorem own_d_prog_7_method_1_11 : decode prog_7_method_1_code 11 = .ok (.putfield 13, 3) := by decide +kernel
theorem own_d_prog_7_method_1_14 : decode prog_7_method_1_code 14 = .ok (.aload_n 0, 1) := by decide +kernel
theorem own_d_prog_7_method_1_15 : decode prog_7_method_1_code 15 = .ok (.aload_n 2, 1) := by decide +kernel
theorem own_d_prog_7_method_1_16 : decode prog_7_method_1_code 16 = .ok (.putfield 19, 3) := by decide +kernel
theorem own_d_prog_7_method_1_19 : decode prog_7_method_1_code 19 = .ok (.return_, 1) := by decide +kernel
def Q_bvl0 (Z : State) (a : Addr) (el : Addr) (u1 : Value) (u2 : Value) (h0 : Heap) (n0 : Nat) (rv_ : Option Value) (h_ : Heap) (L_ : List Loc) : Prop := rv_ = none ∧ Fr n0 L_ ∧ Keep h0 h_ [a] ∧ (Exa Z h_ a "com/example/larder/larder/BooleanValue")
set_option maxRecDepth 65536 in
set_option maxHeartbeats 40000000 in
theorem rm_bvl0 (l : Launch) (Z : State) (a0 : Array Value) (hw : ∀ d ∈ tables_1, d.before a0 Z = true) (ws : List Jvm.Cond) (a : Addr) (el : Addr) (u1 : Value) (u2 : Value) (h0 : Heap) (n0 : Nat) (Z0 : n0 ≤ h0.size) (pr0 : Exa Z h0 a "com/example/larder/larder/BooleanValue") (pr1 : Fld Z h0 a "com/example/larder/larder/BooleanValue" "value" "Z" u1) (pr2 : Fld Z h0 a "com/example/larder/larder/BooleanValue" "annotations" "Ljava/util/List;" u2) (pr3 : n0 ≤ a) (pr4 : Old Z n0 h0) (pr5 : Exa Z Z.heap el "java/util/ImmutableCollections$ListN") (pr6 : Fld Z Z.heap el "java/util/ImmutableCollections$ListN" "allowNulls" "Z" (.int (0 : Int32))) :
    MetFree l (⟨"com/example/larder/larder/BooleanValue", "<init>", "(ZLjava/util/List;)V"⟩ : MethodName) (head1 (Jvm.Cond.code (⟨"com/example/larder/larder/BooleanValue", "<init>", "(ZLjava/util/List;)V"⟩ : MethodName) prog_7_method_1_code 3 none :: ws) ({ frames := 2, cells := 0, slots := 0, locals := 25 } : Room)) (fun as_ U => as_ = #[(.ref a), (.int (0 : Int32)), (.ref el)] ∧ Z.Warmed39 U.vm ∧ U.heap = h0) (fun _ _ _ _ _ => True) (fun _ U o U' => ∃ rv_ L_, o = .returned rv_ ∧ Q_bvl0 Z a el u1 u2 h0 n0 rv_ U'.heap L_ ∧ FrameEnd U o U' L_ ({ frames := 2, cells := 0, slots := 0, locals := 25 } : Room).cells ({ frames := 2, cells := 0, slots := 0, locals := 25 } : Room).slots) := by
  refine MetFree.of_bodySF (plainFor_of_name own_pn_com_example_larder_larder_BooleanValue) hisR ?_
  intro p e s m args below meth c s₁ Bd hml0 hP hK
  obtain ⟨rfl, hZ, hh⟩ := hP
  have hx := Bd.exec
  have hby := Bd.bytes
  have hml : c.maxLocals = 3 := hml0
  have hown : s.vm.findClass "com/example/larder/larder/BooleanValue" = some m.cls := findClass_of_methodNamed Bd.named
  have hnm := (name_of_methodNamed Bd.named Bd.method).1
  have X0 : Stand p l e ({ frames := 2, cells := 0, slots := 0, locals := 25 } : Room) s m #[(.ref a), (.int (0 : Int32)), (.ref el)] below meth c s₁ [] 0 0 := Stand.of_body Bd
  have e0 : s₁.heap = h0 := by rw [← hh, Bd.state]; rfl
  have N0 := Fr.nil n0
  refine own_Goes.of ?_
  refine own_Goes.nm (fun P hPP => ?_)
  refine own_Goes.st ?_ (fun _ k => castTop (own_ef_bvl0 m a el) k)
  have K0 : Keep h0 h0 [a] := Keep.refl _ _
  show own_Goes p.tables e below P (s₁.setTop (mkF m 0 #[.val (.ref a), .val (.int (0 : Int32)), .val (.ref el)] []))
  refine own_Goes.st ?_ (fun _ k => XS.aloadN X0.here hx rfl (hb hby own_d_prog_7_method_1_0) rfl rfl k)
  show own_Goes p.tables e below P (s₁.setTop (mkF m 1 #[.val (.ref a), .val (.int (0 : Int32)), .val (.ref el)] [(.ref a)]))
  obtain ⟨_, _, ⟨T1, L1, k1, n1⟩, -, X1, ⟨Lc1, hQ1, l1, y1, z1⟩, st1⟩ := X0.specialBack hx (y := (⟨"java/lang/Record", "<init>", "()V"⟩ : MethodName)) rfl hown (mvT hZ (hw _ (List.mem_of_getElem? (i := 88) rfl))) (mvT hZ (hw _ (List.mem_of_getElem? (i := 33) rfl))) (mvT hZ (hw _ (List.mem_of_getElem? (i := 36) rfl))) (by decide) (backOf (W := 0) (rm_rec l Z a0 hw [] a h0 n0 Z0) hZ (hw _ (List.mem_of_getElem? (i := 36) rfl)) (hw _ (List.mem_of_getElem? (i := 35) rfl)) (by decide) (by decide)) (g := (mkF m 1 #[.val (.ref a), .val (.int (0 : Int32)), .val (.ref el)] [(.ref a)])) rfl (by rw [hml]; rfl) (Steps.refl _) (a := a) (argsL := []) (rest := []) (lenOf own_pd__28__29_V rfl) rfl (by show 2 * 0 + _ ≤ _; exact Nat.le_of_eq rfl) (hb hby own_d_prog_7_method_1_1) (fun _ _ => ⟨rfl, e0, (by decide : 0 + 0 ≤ _), (by decide : 0 + 0 ≤ _)⟩)
  dsimp only [Pt.U, Pt.locs, Pt.cells, Pt.slots] at X1 l1 y1 z1 st1 hQ1
  rw [l1, y1, z1] at X1
  obtain ⟨rfl, Nq1, e1⟩ := hQ1
  have N1 := Fr.app N0 Nq1
  refine own_Goes.tr st1 ?_
  show own_Goes p.tables e below P (T1.setTop (mkF m 4 #[.val (.ref a), .val (.int (0 : Int32)), .val (.ref el)] []))
  refine own_Goes.st ?_ (fun _ k => XS.aloadN X1.here hx rfl (hb hby own_d_prog_7_method_1_4) rfl rfl k)
  show own_Goes p.tables e below P (T1.setTop (mkF m 5 #[.val (.ref a), .val (.int (0 : Int32)), .val (.ref el)] [(.ref el)]))
  obtain ⟨_, _, ⟨T2, L2, k2, n2⟩, -, X2, ⟨Lc2, hQ2, l2, y2, z2⟩, st2⟩ := Jvm.LawKit.callS X1 hx (y := (⟨"java/util/List", "copyOf", "(Ljava/util/Collection;)Ljava/util/List;"⟩ : MethodName)) hown (mvT hZ (hw _ (List.mem_of_getElem? (i := 89) rfl))) (mvT hZ (hw _ (List.mem_of_getElem? (i := 39) rfl))) (mvT hZ (hw _ (List.mem_of_getElem? (i := 40) rfl))) (mvT hZ (hw _ (List.mem_of_getElem? (i := 41) rfl))) (by decide) (backOf (W := 0) (rm_cpEL l Z a0 hw [] el h0 n0 Z0 pr4 pr5 pr6) hZ (hw _ (List.mem_of_getElem? (i := 41) rfl)) (hw _ (List.mem_of_getElem? (i := 40) rfl)) (by decide) (by decide)) (g := (mkF m 5 #[.val (.ref a), .val (.int (0 : Int32)), .val (.ref el)] [(.ref el)])) rfl (by rw [hml]; rfl) (argsL := [(.ref el)]) (rest := []) (lenOf own_pd__28_Ljava_2f_util_2f_Collection_3b__29_Ljava_2f_util_2f_List_3b_ rfl) rfl (by show 2 * 0 + _ ≤ _; exact Nat.le_of_eq rfl) (hb hby own_d_prog_7_method_1_5) (fun _ _ => ⟨rfl, e1, (by decide : 0 + 0 ≤ _), (by decide : 0 + 0 ≤ _)⟩)
  dsimp only [Pt.U, Pt.locs, Pt.cells, Pt.slots] at X2 l2 y2 z2 st2 hQ2
  rw [l2, y2, z2] at X2
  obtain ⟨rfl, Nq2, e2⟩ := hQ2
  have N2 := Fr.app N1 Nq2
  refine own_Goes.st ?_ st2
  show own_Goes p.tables e below P (T2.setTop (mkF m 8 #[.val (.ref a), .val (.int (0 : Int32)), .val (.ref el)] [(.ref el)]))
  refine own_Goes.st ?_ (fun _ k => XS.astoreN X2.here hx rfl (hb hby own_d_prog_7_method_1_8) rfl rfl (l' := #[.val (.ref a), .val (.int (0 : Int32)), .val (.ref el)]) rfl k)
  show own_Goes p.tables e below P (T2.setTop (mkF m 9 #[.val (.ref a), .val (.int (0 : Int32)), .val (.ref el)] []))
  refine own_Goes.st ?_ (fun _ k => XS.aloadN X2.here hx rfl (hb hby own_d_prog_7_method_1_9) rfl rfl k)
  show own_Goes p.tables e below P (T2.setTop (mkF m 10 #[.val (.ref a), .val (.int (0 : Int32)), .val (.ref el)] [(.ref a)]))
  refine own_Goes.st ?_ (fun _ k => XS.iloadN X2.here hx rfl (hb hby own_d_prog_7_method_1_10) rfl k)
  show own_Goes p.tables e below P (T2.setTop (mkF m 11 #[.val (.ref a), .val (.int (0 : Int32)), .val (.ref el)] [(.int (0 : Int32)), (.ref a)]))
  obtain ⟨T3, h3, X3, e3, W3, st3⟩ := putF X2 hx hZ hown (host := "") (Or.inl (hw _ (List.mem_of_getElem? (i := 98) rfl))) Via.refl e2 pr1 pr0 (Or.inr ⟨(hw _ (List.mem_of_getElem? (i := 99) rfl)), rfl, hnm⟩) (hw _ (List.mem_of_getElem? (i := 79) rfl)) (ty := .boolean) (by decide) rfl rfl (g := (mkF m 11 #[.val (.ref a), .val (.int (0 : Int32)), .val (.ref el)] [(.int (0 : Int32)), (.ref a)])) rfl rfl (hb hby own_d_prog_7_method_1_11)
  refine own_Goes.st ?_ st3
  have F4 : Fld Z h3 a "com/example/larder/larder/BooleanValue" "value" "Z" (.int (0 : Int32)) := pr1.same W3
  have Z5 : n0 ≤ h3.size := by rw [W3.size]; exact Z0
  have K6 := K0.wr W3 (Or.inl (List.mem_of_getElem? (i := 0) rfl))
  have O7 := pr4.wr W3 pr3
  have N8 := Fr.snoc X3 N2 pr3
  show own_Goes p.tables e below P (T3.setTop (mkF m 14 #[.val (.ref a), .val (.int (0 : Int32)), .val (.ref el)] []))
  refine own_Goes.st ?_ (fun _ k => XS.aloadN X3.here hx rfl (hb hby own_d_prog_7_method_1_14) rfl rfl k)
  show own_Goes p.tables e below P (T3.setTop (mkF m 15 #[.val (.ref a), .val (.int (0 : Int32)), .val (.ref el)] [(.ref a)]))
  refine own_Goes.st ?_ (fun _ k => XS.aloadN X3.here hx rfl (hb hby own_d_prog_7_method_1_15) rfl rfl k)
  show own_Goes p.tables e below P (T3.setTop (mkF m 16 #[.val (.ref a), .val (.int (0 : Int32)), .val (.ref el)] [(.ref el), (.ref a)]))
  have F9 : Fld Z h3 a "com/example/larder/larder/BooleanValue" "annotations" "Ljava/util/List;" u2 := (pr2.other W3 (Or.inr (slot_ne (Or.inr (hw _ (List.mem_of_getElem? (i := 101) rfl))) (Or.inr (hw _ (List.mem_of_getElem? (i := 99) rfl))) (by decide) (t := (.object "java/util/List")) (t' := .boolean) (by decide) (by decide))))
  have F10 : Exa Z h3 a "com/example/larder/larder/BooleanValue" := (pr0.wr W3)
  obtain ⟨T11, h11, X11, e11, W11, st11⟩ := putF X3 hx hZ hown (host := "") (Or.inl (hw _ (List.mem_of_getElem? (i := 100) rfl))) Via.refl e3 F9 F10 (Or.inr ⟨(hw _ (List.mem_of_getElem? (i := 101) rfl)), rfl, hnm⟩) (hw _ (List.mem_of_getElem? (i := 79) rfl)) (ty := (.object "java/util/List")) (by decide) rfl rfl (g := (mkF m 16 #[.val (.ref a), .val (.int (0 : Int32)), .val (.ref el)] [(.ref el), (.ref a)])) rfl rfl (hb hby own_d_prog_7_method_1_16)
  refine own_Goes.st ?_ st11
  have F12 : Fld Z h11 a "com/example/larder/larder/BooleanValue" "annotations" "Ljava/util/List;" (.ref el) := F9.same W11
  have Z13 : n0 ≤ h11.size := by rw [W11.size]; exact Z5
  have K14 := K6.wr W11 (Or.inl (List.mem_of_getElem? (i := 0) rfl))
  have O15 := O7.wr W11 pr3
  have N16 := Fr.snoc X11 N8 pr3
  show own_Goes p.tables e below P (T11.setTop (mkF m 19 #[.val (.ref a), .val (.int (0 : Int32)), .val (.ref el)] []))
  obtain ⟨fs, hr, hrun, hended, hW, hsame⟩ := X11.leave (v := none) (fun _ => rfl)
  have F17 : Exa Z h11 a "com/example/larder/larder/BooleanValue" := (F10.wr W11)
  exact own_Goes.fin _ _ (X11.returnOut hx Bd.returns (hb hby own_d_prog_7_method_1_19) hr) (hPP _ _ ⟨hrun, hended, _, _, rfl, (by show Q_bvl0 Z a el u1 u2 h0 n0 _ T11.heap _; rw [e11]; exact ⟨rfl, N16, K14, F17⟩), ⟨_, rfl⟩, hW, hsame.mono (by decide) (by decide)⟩)
theorem own_ef_bvn0 (m : MethodId) (x0 : Addr) : entryFrame m #[(.ref x0), (.int (0 : Int32))] 2 = mkF m 0 #[.val (.ref x0), .val (.int (0 : Int32))] [] := by first | (simp [entryFrame, mkF, argsToLocals, Value.category]; done) | rfl
theorem own_d_prog_7_method_2_0 : decode prog_7_method_2_code 0 = .ok (.aload_n 0, 1) := by decide +kernel
theorem own_d_prog_7_method_2_1 : decode prog_7_method_2_code 1 = .ok (.iload_n 1, 1) := by decide +kernel
theorem own_pd__28__29_Ljava_2f_util_2f_List_3b_ : parseMethodDescriptor "()Ljava/util/List;" = some ⟨[], some (.object "java/util/List")⟩ := by decide +kernel
theorem own_d_prog_7_method_2_2 : decode prog_7_method_2_code 2 = .ok (.invokestatic 23, 3) := by decide +kernel
theorem own_pd__28_ZLjava_2f_util_2f_List_3b__29_V : parseMethodDescriptor "(ZLjava/util/List;)V" = some ⟨[.boolean, (.object "java/util/List")], none⟩ := by decide +kernel
theorem own_d_prog_7_method_2_5 : decode prog_7_method_2_code 5 = .ok (.invokespecial 27, 3) := by decide +kernel
theorem own_d_prog_7_method_2_8 : decode prog_7_method_2_code 8 = .ok (.return_, 1) := by decide +kernel
def Q_bvn0 (Z : State) (a : Addr) (el : Addr) (u1 : Value) (u2 : Value) (h0 : Heap) (n0 : Nat) (rv_ : Option Value) (h_ : Heap) (L_ : List Loc) : Prop := rv_ = none ∧ Fr n0 L_ ∧ Keep h0 h_ [a] ∧ (Exa Z h_ a "com/example/larder/larder/BooleanValue")
set_option maxRecDepth 65536 in
set_option maxHeartbeats 40000000 in
theorem rm_bvn0 (l : Launch) (Z : State) (a0 : Array Value) (hw : ∀ d ∈ tables_1, d.before a0 Z = true) (ws : List Jvm.Cond) (a : Addr) (el : Addr) (u1 : Value) (u2 : Value) (h0 : Heap) (n0 : Nat) (Z0 : n0 ≤ h0.size) (pr0 : Exa Z h0 a "com/example/larder/larder/BooleanValue") (pr1 : Fld Z h0 a "com/example/larder/larder/BooleanValue" "value" "Z" u1) (pr2 : Fld Z h0 a "com/example/larder/larder/BooleanValue" "annotations" "Ljava/util/List;" u2) (pr3 : n0 ≤ a) (pr4 : Sta Z Z.heap "java/util/ImmutableCollections" "EMPTY_LIST" "Ljava/util/ImmutableCollections$ListN;" (.ref el)) (pr5 : Old Z n0 h0) (pr6 : Exa Z Z.heap el "java/util/ImmutableCollections$ListN") (pr7 : Fld Z Z.heap el "java/util/ImmutableCollections$ListN" "allowNulls" "Z" (.int (0 : Int32))) :
    MetFree l (⟨"com/example/larder/larder/BooleanValue", "<init>", "(Z)V"⟩ : MethodName) (head1 (Jvm.Cond.code (⟨"com/example/larder/larder/BooleanValue", "<init>", "(Z)V"⟩ : MethodName) prog_7_method_2_code 2 none :: ws) ({ frames := 3, cells := 0, slots := 0, locals := 39 } : Room)) (fun as_ U => as_ = #[(.ref a), (.int (0 : Int32))] ∧ Z.Warmed39 U.vm ∧ U.heap = h0) (fun _ _ _ _ _ => True) (fun _ U o U' => ∃ rv_ L_, o = .returned rv_ ∧ Q_bvn0 Z a el u1 u2 h0 n0 rv_ U'.heap L_ ∧ FrameEnd U o U' L_ ({ frames := 3, cells := 0, slots := 0, locals := 39 } : Room).cells ({ frames := 3, cells := 0, slots := 0, locals := 39 } : Room).slots) := by
  refine MetFree.of_bodySF (plainFor_of_name own_pn_com_example_larder_larder_BooleanValue) hisR ?_
  intro p e s m args below meth c s₁ Bd hml0 hP hK
  obtain ⟨rfl, hZ, hh⟩ := hP
  have hx := Bd.exec
  have hby := Bd.bytes
  have hml : c.maxLocals = 2 := hml0
  have hown : s.vm.findClass "com/example/larder/larder/BooleanValue" = some m.cls := findClass_of_methodNamed Bd.named
  have hnm := (name_of_methodNamed Bd.named Bd.method).1
  have X0 : Stand p l e ({ frames := 3, cells := 0, slots := 0, locals := 39 } : Room) s m #[(.ref a), (.int (0 : Int32))] below meth c s₁ [] 0 0 := Stand.of_body Bd
  have e0 : s₁.heap = h0 := by rw [← hh, Bd.state]; rfl
  have N0 := Fr.nil n0
  refine own_Goes.of ?_
  refine own_Goes.nm (fun P hPP => ?_)
  refine own_Goes.st ?_ (fun _ k => castTop (own_ef_bvn0 m a) k)
  have K0 : Keep h0 h0 [a] := Keep.refl _ _
  show own_Goes p.tables e below P (s₁.setTop (mkF m 0 #[.val (.ref a), .val (.int (0 : Int32))] []))
  refine own_Goes.st ?_ (fun _ k => XS.aloadN X0.here hx rfl (hb hby own_d_prog_7_method_2_0) rfl rfl k)
  show own_Goes p.tables e below P (s₁.setTop (mkF m 1 #[.val (.ref a), .val (.int (0 : Int32))] [(.ref a)]))
  refine own_Goes.st ?_ (fun _ k => XS.iloadN X0.here hx rfl (hb hby own_d_prog_7_method_2_1) rfl k)
  show own_Goes p.tables e below P (s₁.setTop (mkF m 2 #[.val (.ref a), .val (.int (0 : Int32))] [(.int (0 : Int32)), (.ref a)]))
  obtain ⟨_, _, ⟨T1, L1, k1, n1⟩, -, X1, ⟨Lc1, hQ1, l1, y1, z1⟩, st1⟩ := Jvm.LawKit.callS X0 hx (y := (⟨"java/util/List", "of", "()Ljava/util/List;"⟩ : MethodName)) hown (mvT hZ (hw _ (List.mem_of_getElem? (i := 84) rfl))) (mvT hZ (hw _ (List.mem_of_getElem? (i := 64) rfl))) (mvT hZ (hw _ (List.mem_of_getElem? (i := 40) rfl))) (mvT hZ (hw _ (List.mem_of_getElem? (i := 65) rfl))) (by decide) (backOf (W := 2) (rm_lof0 l Z a0 hw [] el h0 n0 Z0 pr4 pr5) hZ (hw _ (List.mem_of_getElem? (i := 65) rfl)) (hw _ (List.mem_of_getElem? (i := 40) rfl)) (by decide) (by decide)) (g := (mkF m 2 #[.val (.ref a), .val (.int (0 : Int32))] [(.int (0 : Int32)), (.ref a)])) rfl (by rw [hml]; rfl) (argsL := []) (rest := [(.int (0 : Int32)), (.ref a)]) (lenOf own_pd__28__29_Ljava_2f_util_2f_List_3b_ rfl) rfl (by show 2 * 0 + _ ≤ _; exact Nat.le_of_eq rfl) (hb hby own_d_prog_7_method_2_2) (fun _ _ => ⟨rfl, e0, (by decide : 0 + 0 ≤ _), (by decide : 0 + 0 ≤ _)⟩)
  dsimp only [Pt.U, Pt.locs, Pt.cells, Pt.slots] at X1 l1 y1 z1 st1 hQ1
  rw [l1, y1, z1] at X1
  obtain ⟨rfl, Nq1, e1⟩ := hQ1
  have N1 := Fr.app N0 Nq1
  refine own_Goes.st ?_ st1
  show own_Goes p.tables e below P (T1.setTop (mkF m 5 #[.val (.ref a), .val (.int (0 : Int32))] [(.ref el), (.int (0 : Int32)), (.ref a)]))
  obtain ⟨_, _, ⟨T2, L2, k2, n2⟩, -, X2, ⟨Lc2, hQ2, l2, y2, z2⟩, st2⟩ := X1.specialBack hx (y := (⟨"com/example/larder/larder/BooleanValue", "<init>", "(ZLjava/util/List;)V"⟩ : MethodName)) rfl hown (mvT hZ (hw _ (List.mem_of_getElem? (i := 85) rfl))) (mvT hZ (hw _ (List.mem_of_getElem? (i := 86) rfl))) (mvT hZ (hw _ (List.mem_of_getElem? (i := 87) rfl))) (by decide) (backOf (W := 0) (rm_bvl0 l Z a0 hw [] a el u1 u2 h0 n0 Z0 pr0 pr1 pr2 pr3 pr5 pr6 pr7) hZ (hw _ (List.mem_of_getElem? (i := 87) rfl)) (hw _ (List.mem_of_getElem? (i := 80) rfl)) (by decide) (by decide)) (g := (mkF m 5 #[.val (.ref a), .val (.int (0 : Int32))] [(.ref el), (.int (0 : Int32)), (.ref a)])) rfl (by rw [hml]; rfl) (Steps.refl _) (a := a) (argsL := [(.int (0 : Int32)), (.ref el)]) (rest := []) (lenOf own_pd__28_ZLjava_2f_util_2f_List_3b__29_V rfl) rfl (by show 2 * 0 + _ ≤ _; exact Nat.le_of_eq rfl) (hb hby own_d_prog_7_method_2_5) (fun _ _ => ⟨rfl, e1, (by decide : 0 + 0 ≤ _), (by decide : 0 + 0 ≤ _)⟩)
  dsimp only [Pt.U, Pt.locs, Pt.cells, Pt.slots] at X2 l2 y2 z2 st2 hQ2
  rw [l2, y2, z2] at X2
  obtain ⟨rfl, Nq2, K2, f3⟩ := hQ2
  have N2 := Fr.app N1 Nq2
  refine own_Goes.tr st2 ?_
  have Z4 : n0 ≤ T2.heap.size := Nat.le_trans Z0 K2.1
  have K5 := K0.trans K2 (allS (Or.inl (List.mem_of_getElem? (i := 0) rfl)) all0)
  have O6 := pr5.keep K2 (allS pr3 all0)
  show own_Goes p.tables e below P (T2.setTop (mkF m 8 #[.val (.ref a), .val (.int (0 : Int32))] []))
  obtain ⟨fs, hr, hrun, hended, hW, hsame⟩ := X2.leave (v := none) (fun _ => rfl)
  exact own_Goes.fin _ _ (X2.returnOut hx Bd.returns (hb hby own_d_prog_7_method_2_8) hr) (hPP _ _ ⟨hrun, hended, _, _, rfl, (by show Q_bvn0 Z a el u1 u2 h0 n0 _ T2.heap _; exact ⟨rfl, N2, K5, f3⟩), ⟨_, rfl⟩, hW, hsame.mono (by decide) (by decide)⟩)
theorem own_ef_bvl1 (m : MethodId) (x0 : Addr) (x2 : Addr) : entryFrame m #[(.ref x0), (.int (1 : Int32)), (.ref x2)] 3 = mkF m 0 #[.val (.ref x0), .val (.int (1 : Int32)), .val (.ref x2)] [] := by first | (simp [entryFrame, mkF, argsToLocals, Value.category]; done) | rfl
def Q_bvl1 (Z : State) (a : Addr) (el : Addr) (u1 : Value) (u2 : Value) (h0 : Heap) (n0 : Nat) (rv_ : Option Value) (h_ : Heap) (L_ : List Loc) : Prop := rv_ = none ∧ Fr n0 L_ ∧ Keep h0 h_ [a] ∧ (Exa Z h_ a "com/example/larder/larder/BooleanValue")
set_option maxRecDepth 65536 in
set_option maxHeartbeats 40000000 in
theorem rm_bvl1 (l : Launch) (Z : State) (a0 : Array Value) (hw : ∀ d ∈ tables_1, d.before a0 Z = true) (ws : List Jvm.Cond) (a : Addr) (el : Addr) (u1 : Value) (u2 : Value) (h0 : Heap) (n0 : Nat) (Z0 : n0 ≤ h0.size) (pr0 : Exa Z h0 a "com/example/larder/larder/BooleanValue") (pr1 : Fld Z h0 a "com/example/larder/larder/BooleanValue" "value" "Z" u1) (pr2 : Fld Z h0 a "com/example/larder/larder/BooleanValue" "annotations" "Ljava/util/List;" u2) (pr3 : n0 ≤ a) (pr4 : Old Z n0 h0) (pr5 : Exa Z Z.heap el "java/util/ImmutableCollections$ListN") (pr6 : Fld Z Z.heap el "java/util/ImmutableCollections$ListN" "allowNulls" "Z" (.int (0 : Int32))) :
    MetFree l (⟨"com/example/larder/larder/BooleanValue", "<init>", "(ZLjava/util/List;)V"⟩ : MethodName) (head1 (Jvm.Cond.code (⟨"com/example/larder/larder/BooleanValue", "<init>", "(ZLjava/util/List;)V"⟩ : MethodName) prog_7_method_1_code 3 none :: ws) ({ frames := 2, cells := 0, slots := 0, locals := 25 } : Room)) (fun as_ U => as_ = #[(.ref a), (.int (1 : Int32)), (.ref el)] ∧ Z.Warmed39 U.vm ∧ U.heap = h0) (fun _ _ _ _ _ => True) (fun _ U o U' => ∃ rv_ L_, o = .returned rv_ ∧ Q_bvl1 Z a el u1 u2 h0 n0 rv_ U'.heap L_ ∧ FrameEnd U o U' L_ ({ frames := 2, cells := 0, slots := 0, locals := 25 } : Room).cells ({ frames := 2, cells := 0, slots := 0, locals := 25 } : Room).slots) := by
  refine MetFree.of_bodySF (plainFor_of_name own_pn_com_example_larder_larder_BooleanValue) hisR ?_
  intro p e s m args below meth c s₁ Bd hml0 hP hK
  obtain ⟨rfl, hZ, hh⟩ := hP
  have hx := Bd.exec
  have hby := Bd.bytes
  have hml : c.maxLocals = 3 := hml0
  have hown : s.vm.findClass "com/example/larder/larder/BooleanValue" = some m.cls := findClass_of_methodNamed Bd.named
  have hnm := (name_of_methodNamed Bd.named Bd.method).1
  have X0 : Stand p l e ({ frames := 2, cells := 0, slots := 0, locals := 25 } : Room) s m #[(.ref a), (.int (1 : Int32)), (.ref el)] below meth c s₁ [] 0 0 := Stand.of_body Bd
  have e0 : s₁.heap = h0 := by rw [← hh, Bd.state]; rfl
  have N0 := Fr.nil n0
  refine own_Goes.of ?_
  refine own_Goes.nm (fun P hPP => ?_)
  refine own_Goes.st ?_ (fun _ k => castTop (own_ef_bvl1 m a el) k)
  have K0 : Keep h0 h0 [a] := Keep.refl _ _
  show own_Goes p.tables e below P (s₁.setTop (mkF m 0 #[.val (.ref a), .val (.int (1 : Int32)), .val (.ref el)] []))
  refine own_Goes.st ?_ (fun _ k => XS.aloadN X0.here hx rfl (hb hby own_d_prog_7_method_1_0) rfl rfl k)
  show own_Goes p.tables e below P (s₁.setTop (mkF m 1 #[.val (.ref a), .val (.int (1 : Int32)), .val (.ref el)] [(.ref a)]))
  obtain ⟨_, _, ⟨T1, L1, k1, n1⟩, -, X1, ⟨Lc1, hQ1, l1, y1, z1⟩, st1⟩ := X0.specialBack hx (y := (⟨"java/lang/Record", "<init>", "()V"⟩ : MethodName)) rfl hown (mvT hZ (hw _ (List.mem_of_getElem? (i := 88) rfl))) (mvT hZ (hw _ (List.mem_of_getElem? (i := 33) rfl))) (mvT hZ (hw _ (List.mem_of_getElem? (i := 36) rfl))) (by decide) (backOf (W := 0) (rm_rec l Z a0 hw [] a h0 n0 Z0) hZ (hw _ (List.mem_of_getElem? (i := 36) rfl)) (hw _ (List.mem_of_getElem? (i := 35) rfl)) (by decide) (by decide)) (g := (mkF m 1 #[.val (.ref a), .val (.int (1 : Int32)), .val (.ref el)] [(.ref a)])) rfl (by rw [hml]; rfl) (Steps.refl _) (a := a) (argsL := []) (rest := []) (lenOf own_pd__28__29_V rfl) rfl (by show 2 * 0 + _ ≤ _; exact Nat.le_of_eq rfl) (hb hby own_d_prog_7_method_1_1) (fun _ _ => ⟨rfl, e0, (by decide : 0 + 0 ≤ _), (by decide : 0 + 0 ≤ _)⟩)
  dsimp only [Pt.U, Pt.locs, Pt.cells, Pt.slots] at X1 l1 y1 z1 st1 hQ1
  rw [l1, y1, z1] at X1
  obtain ⟨rfl, Nq1, e1⟩ := hQ1
  have N1 := Fr.app N0 Nq1
  refine own_Goes.tr st1 ?_
  show own_Goes p.tables e below P (T1.setTop (mkF m 4 #[.val (.ref a), .val (.int (1 : Int32)), .val (.ref el)] []))
  refine own_Goes.st ?_ (fun _ k => XS.aloadN X1.here hx rfl (hb hby own_d_prog_7_method_1_4) rfl rfl k)
  show own_Goes p.tables e below P (T1.setTop (mkF m 5 #[.val (.ref a), .val (.int (1 : Int32)), .val (.ref el)] [(.ref el)]))
  obtain ⟨_, _, ⟨T2, L2, k2, n2⟩, -, X2, ⟨Lc2, hQ2, l2, y2, z2⟩, st2⟩ := Jvm.LawKit.callS X1 hx (y := (⟨"java/util/List", "copyOf", "(Ljava/util/Collection;)Ljava/util/List;"⟩ : MethodName)) hown (mvT hZ (hw _ (List.mem_of_getElem? (i := 89) rfl))) (mvT hZ (hw _ (List.mem_of_getElem? (i := 39) rfl))) (mvT hZ (hw _ (List.mem_of_getElem? (i := 40) rfl))) (mvT hZ (hw _ (List.mem_of_getElem? (i := 41) rfl))) (by decide) (backOf (W := 0) (rm_cpEL l Z a0 hw [] el h0 n0 Z0 pr4 pr5 pr6) hZ (hw _ (List.mem_of_getElem? (i := 41) rfl)) (hw _ (List.mem_of_getElem? (i := 40) rfl)) (by decide) (by decide)) (g := (mkF m 5 #[.val (.ref a), .val (.int (1 : Int32)), .val (.ref el)] [(.ref el)])) rfl (by rw [hml]; rfl) (argsL := [(.ref el)]) (rest := []) (lenOf own_pd__28_Ljava_2f_util_2f_Collection_3b__29_Ljava_2f_util_2f_List_3b_ rfl) rfl (by show 2 * 0 + _ ≤ _; exact Nat.le_of_eq rfl) (hb hby own_d_prog_7_method_1_5) (fun _ _ => ⟨rfl, e1, (by decide : 0 + 0 ≤ _), (by decide : 0 + 0 ≤ _)⟩)
  dsimp only [Pt.U, Pt.locs, Pt.cells, Pt.slots] at X2 l2 y2 z2 st2 hQ2
  rw [l2, y2, z2] at X2
  obtain ⟨rfl, Nq2, e2⟩ := hQ2
  have N2 := Fr.app N1 Nq2
  refine own_Goes.st ?_ st2
  show own_Goes p.tables e below P (T2.setTop (mkF m 8 #[.val (.ref a), .val (.int (1 : Int32)), .val (.ref el)] [(.ref el)]))
  refine own_Goes.st ?_ (fun _ k => XS.astoreN X2.here hx rfl (hb hby own_d_prog_7_method_1_8) rfl rfl (l' := #[.val (.ref a), .val (.int (1 : Int32)), .val (.ref el)]) rfl k)
  show own_Goes p.tables e below P (T2.setTop (mkF m 9 #[.val (.ref a), .val (.int (1 : Int32)), .val (.ref el)] []))
  refine own_Goes.st ?_ (fun _ k => XS.aloadN X2.here hx rfl (hb hby own_d_prog_7_method_1_9) rfl rfl k)
  show own_Goes p.tables e below P (T2.setTop (mkF m 10 #[.val (.ref a), .val (.int (1 : Int32)), .val (.ref el)] [(.ref a)]))
  refine own_Goes.st ?_ (fun _ k => XS.iloadN X2.here hx rfl (hb hby own_d_prog_7_method_1_10) rfl k)
  show own_Goes p.tables e below P (T2.setTop (mkF m 11 #[.val (.ref a), .val (.int (1 : Int32)), .val (.ref el)] [(.int (1 : Int32)), (.ref a)]))
  obtain ⟨T3, h3, X3, e3, W3, st3⟩ := putF X2 hx hZ hown (host := "") (Or.inl (hw _ (List.mem_of_getElem? (i := 98) rfl))) Via.refl e2 pr1 pr0 (Or.inr ⟨(hw _ (List.mem_of_getElem? (i := 99) rfl)), rfl, hnm⟩) (hw _ (List.mem_of_getElem? (i := 79) rfl)) (ty := .boolean) (by decide) rfl rfl (g := (mkF m 11 #[.val (.ref a), .val (.int (1 : Int32)), .val (.ref el)] [(.int (1 : Int32)), (.ref a)])) rfl rfl (hb hby own_d_prog_7_method_1_11)
  refine own_Goes.st ?_ st3
  have F4 : Fld Z h3 a "com/example/larder/larder/BooleanValue" "value" "Z" (.int (1 : Int32)) := pr1.same W3
  have Z5 : n0 ≤ h3.size := by rw [W3.size]; exact Z0
  have K6 := K0.wr W3 (Or.inl (List.mem_of_getElem? (i := 0) rfl))
  have O7 := pr4.wr W3 pr3
  have N8 := Fr.snoc X3 N2 pr3
  show own_Goes p.tables e below P (T3.setTop (mkF m 14 #[.val (.ref a), .val (.int (1 : Int32)), .val (.ref el)] []))
  refine own_Goes.st ?_ (fun _ k => XS.aloadN X3.here hx rfl (hb hby own_d_prog_7_method_1_14) rfl rfl k)
  show own_Goes p.tables e below P (T3.setTop (mkF m 15 #[.val (.ref a), .val (.int (1 : Int32)), .val (.ref el)] [(.ref a)]))
  refine own_Goes.st ?_ (fun _ k => XS.aloadN X3.here hx rfl (hb hby own_d_prog_7_method_1_15) rfl rfl k)
  show own_Goes p.tables e below P (T3.setTop (mkF m 16 #[.val (.ref a), .val (.int (1 : Int32)), .val (.ref el)] [(.ref el), (.ref a)]))
  have F9 : Fld Z h3 a "com/example/larder/larder/BooleanValue" "annotations" "Ljava/util/List;" u2 := (pr2.other W3 (Or.inr (slot_ne (Or.inr (hw _ (List.mem_of_getElem? (i := 101) rfl))) (Or.inr (hw _ (List.mem_of_getElem? (i := 99) rfl))) (by decide) (t := (.object "java/util/List")) (t' := .boolean) (by decide) (by decide))))
  have F10 : Exa Z h3 a "com/example/larder/larder/BooleanValue" := (pr0.wr W3)
  obtain ⟨T11, h11, X11, e11, W11, st11⟩ := putF X3 hx hZ hown (host := "") (Or.inl (hw _ (List.mem_of_getElem? (i := 100) rfl))) Via.refl e3 F9 F10 (Or.inr ⟨(hw _ (List.mem_of_getElem? (i := 101) rfl)), rfl, hnm⟩) (hw _ (List.mem_of_getElem? (i := 79) rfl)) (ty := (.object "java/util/List")) (by decide) rfl rfl (g := (mkF m 16 #[.val (.ref a), .val (.int (1 : Int32)), .val (.ref el)] [(.ref el), (.ref a)])) rfl rfl (hb hby own_d_prog_7_method_1_16)
  refine own_Goes.st ?_ st11
  have F12 : Fld Z h11 a "com/example/larder/larder/BooleanValue" "annotations" "Ljava/util/List;" (.ref el) := F9.same W11
  have Z13 : n0 ≤ h11.size := by rw [W11.size]; exact Z5
  have K14 := K6.wr W11 (Or.inl (List.mem_of_getElem? (i := 0) rfl))
  have O15 := O7.wr W11 pr3
  have N16 := Fr.snoc X11 N8 pr3
  show own_Goes p.tables e below P (T11.setTop (mkF m 19 #[.val (.ref a), .val (.int (1 : Int32)), .val (.ref el)] []))
  obtain ⟨fs, hr, hrun, hended, hW, hsame⟩ := X11.leave (v := none) (fun _ => rfl)
  have F17 : Exa Z h11 a "com/example/larder/larder/BooleanValue" := (F10.wr W11)
  exact own_Goes.fin _ _ (X11.returnOut hx Bd.returns (hb hby own_d_prog_7_method_1_19) hr) (hPP _ _ ⟨hrun, hended, _, _, rfl, (by show Q_bvl1 Z a el u1 u2 h0 n0 _ T11.heap _; rw [e11]; exact ⟨rfl, N16, K14, F17⟩), ⟨_, rfl⟩, hW, hsame.mono (by decide) (by decide)⟩)
theorem own_ef_bvn1 (m : MethodId) (x0 : Addr) : entryFrame m #[(.ref x0), (.int (1 : Int32))] 2 = mkF m 0 #[.val (.ref x0), .val (.int (1 : Int32))] [] := by first | (simp [entryFrame, mkF, argsToLocals, Value.category]; done) | rfl
def Q_bvn1 (Z : State) (a : Addr) (el : Addr) (u1 : Value) (u2 : Value) (h0 : Heap) (n0 : Nat) (rv_ : Option Value) (h_ : Heap) (L_ : List Loc) : Prop := rv_ = none ∧ Fr n0 L_ ∧ Keep h0 h_ [a] ∧ (Exa Z h_ a "com/example/larder/larder/BooleanValue")
set_option maxRecDepth 65536 in
set_option maxHeartbeats 40000000 in
theorem rm_bvn1 (l : Launch) (Z : State) (a0 : Array Value) (hw : ∀ d ∈ tables_1, d.before a0 Z = true) (ws : List Jvm.Cond) (a : Addr) (el : Addr) (u1 : Value) (u2 : Value) (h0 : Heap) (n0 : Nat) (Z0 : n0 ≤ h0.size) (pr0 : Exa Z h0 a "com/example/larder/larder/BooleanValue") (pr1 : Fld Z h0 a "com/example/larder/larder/BooleanValue" "value" "Z" u1) (pr2 : Fld Z h0 a "com/example/larder/larder/BooleanValue" "annotations" "Ljava/util/List;" u2) (pr3 : n0 ≤ a) (pr4 : Sta Z Z.heap "java/util/ImmutableCollections" "EMPTY_LIST" "Ljava/util/ImmutableCollections$ListN;" (.ref el)) (pr5 : Old Z n0 h0) (pr6 : Exa Z Z.heap el "java/util/ImmutableCollections$ListN") (pr7 : Fld Z Z.heap el "java/util/ImmutableCollections$ListN" "allowNulls" "Z" (.int (0 : Int32))) :
    MetFree l (⟨"com/example/larder/larder/BooleanValue", "<init>", "(Z)V"⟩ : MethodName) (head1 (Jvm.Cond.code (⟨"com/example/larder/larder/BooleanValue", "<init>", "(Z)V"⟩ : MethodName) prog_7_method_2_code 2 none :: ws) ({ frames := 3, cells := 0, slots := 0, locals := 39 } : Room)) (fun as_ U => as_ = #[(.ref a), (.int (1 : Int32))] ∧ Z.Warmed39 U.vm ∧ U.heap = h0) (fun _ _ _ _ _ => True) (fun _ U o U' => ∃ rv_ L_, o = .returned rv_ ∧ Q_bvn1 Z a el u1 u2 h0 n0 rv_ U'.heap L_ ∧ FrameEnd U o U' L_ ({ frames := 3, cells := 0, slots := 0, locals := 39 } : Room).cells ({ frames := 3, cells := 0, slots := 0, locals := 39 } : Room).slots) := by
  refine MetFree.of_bodySF (plainFor_of_name own_pn_com_example_larder_larder_BooleanValue) hisR ?_
  intro p e s m args below meth c s₁ Bd hml0 hP hK
  obtain ⟨rfl, hZ, hh⟩ := hP
  have hx := Bd.exec
  have hby := Bd.bytes
  have hml : c.maxLocals = 2 := hml0
  have hown : s.vm.findClass "com/example/larder/larder/BooleanValue" = some m.cls := findClass_of_methodNamed Bd.named
  have hnm := (name_of_methodNamed Bd.named Bd.method).1
  have X0 : Stand p l e ({ frames := 3, cells := 0, slots := 0, locals := 39 } : Room) s m #[(.ref a), (.int (1 : Int32))] below meth c s₁ [] 0 0 := Stand.of_body Bd
  have e0 : s₁.heap = h0 := by rw [← hh, Bd.state]; rfl
  have N0 := Fr.nil n0
  refine own_Goes.of ?_
  refine own_Goes.nm (fun P hPP => ?_)
  refine own_Goes.st ?_ (fun _ k => castTop (own_ef_bvn1 m a) k)
  have K0 : Keep h0 h0 [a] := Keep.refl _ _
  show own_Goes p.tables e below P (s₁.setTop (mkF m 0 #[.val (.ref a), .val (.int (1 : Int32))] []))
  refine own_Goes.st ?_ (fun _ k => XS.aloadN X0.here hx rfl (hb hby own_d_prog_7_method_2_0) rfl rfl k)
  show own_Goes p.tables e below P (s₁.setTop (mkF m 1 #[.val (.ref a), .val (.int (1 : Int32))] [(.ref a)]))
  refine own_Goes.st ?_ (fun _ k => XS.iloadN X0.here hx rfl (hb hby own_d_prog_7_method_2_1) rfl k)
  show own_Goes p.tables e below P (s₁.setTop (mkF m 2 #[.val (.ref a), .val (.int (1 : Int32))] [(.int (1 : Int32)), (.ref a)]))
  obtain ⟨_, _, ⟨T1, L1, k1, n1⟩, -, X1, ⟨Lc1, hQ1, l1, y1, z1⟩, st1⟩ := Jvm.LawKit.callS X0 hx (y := (⟨"java/util/List", "of", "()Ljava/util/List;"⟩ : MethodName)) hown (mvT hZ (hw _ (List.mem_of_getElem? (i := 84) rfl))) (mvT hZ (hw _ (List.mem_of_getElem? (i := 64) rfl))) (mvT hZ (hw _ (List.mem_of_getElem? (i := 40) rfl))) (mvT hZ (hw _ (List.mem_of_getElem? (i := 65) rfl))) (by decide) (backOf (W := 2) (rm_lof0 l Z a0 hw [] el h0 n0 Z0 pr4 pr5) hZ (hw _ (List.mem_of_getElem? (i := 65) rfl)) (hw _ (List.mem_of_getElem? (i := 40) rfl)) (by decide) (by decide)) (g := (mkF m 2 #[.val (.ref a), .val (.int (1 : Int32))] [(.int (1 : Int32)), (.ref a)])) rfl (by rw [hml]; rfl) (argsL := []) (rest := [(.int (1 : Int32)), (.ref a)]) (lenOf own_pd__28__29_Ljava_2f_util_2f_List_3b_ rfl) rfl (by show 2 * 0 + _ ≤ _; exact Nat.le_of_eq rfl) (hb hby own_d_prog_7_method_2_2) (fun _ _ => ⟨rfl, e0, (by decide : 0 + 0 ≤ _), (by decide : 0 + 0 ≤ _)⟩)
  dsimp only [Pt.U, Pt.locs, Pt.cells, Pt.slots] at X1 l1 y1 z1 st1 hQ1
  rw [l1, y1, z1] at X1
  obtain ⟨rfl, Nq1, e1⟩ := hQ1
  have N1 := Fr.app N0 Nq1
  refine own_Goes.st ?_ st1
  show own_Goes p.tables e below P (T1.setTop (mkF m 5 #[.val (.ref a), .val (.int (1 : Int32))] [(.ref el), (.int (1 : Int32)), (.ref a)]))
  obtain ⟨_, _, ⟨T2, L2, k2, n2⟩, -, X2, ⟨Lc2, hQ2, l2, y2, z2⟩, st2⟩ := X1.specialBack hx (y := (⟨"com/example/larder/larder/BooleanValue", "<init>", "(ZLjava/util/List;)V"⟩ : MethodName)) rfl hown (mvT hZ (hw _ (List.mem_of_getElem? (i := 85) rfl))) (mvT hZ (hw _ (List.mem_of_getElem? (i := 86) rfl))) (mvT hZ (hw _ (List.mem_of_getElem? (i := 87) rfl))) (by decide) (backOf (W := 0) (rm_bvl1 l Z a0 hw [] a el u1 u2 h0 n0 Z0 pr0 pr1 pr2 pr3 pr5 pr6 pr7) hZ (hw _ (List.mem_of_getElem? (i := 87) rfl)) (hw _ (List.mem_of_getElem? (i := 80) rfl)) (by decide) (by decide)) (g := (mkF m 5 #[.val (.ref a), .val (.int (1 : Int32))] [(.ref el), (.int (1 : Int32)), (.ref a)])) rfl (by rw [hml]; rfl) (Steps.refl _) (a := a) (argsL := [(.int (1 : Int32)), (.ref el)]) (rest := []) (lenOf own_pd__28_ZLjava_2f_util_2f_List_3b__29_V rfl) rfl (by show 2 * 0 + _ ≤ _; exact Nat.le_of_eq rfl) (hb hby own_d_prog_7_method_2_5) (fun _ _ => ⟨rfl, e1, (by decide : 0 + 0 ≤ _), (by decide : 0 + 0 ≤ _)⟩)
  dsimp only [Pt.U, Pt.locs, Pt.cells, Pt.slots] at X2 l2 y2 z2 st2 hQ2
  rw [l2, y2, z2] at X2
  obtain ⟨rfl, Nq2, K2, f3⟩ := hQ2
  have N2 := Fr.app N1 Nq2
  refine own_Goes.tr st2 ?_
  have Z4 : n0 ≤ T2.heap.size := Nat.le_trans Z0 K2.1
  have K5 := K0.trans K2 (allS (Or.inl (List.mem_of_getElem? (i := 0) rfl)) all0)
  have O6 := pr5.keep K2 (allS pr3 all0)
  show own_Goes p.tables e below P (T2.setTop (mkF m 8 #[.val (.ref a), .val (.int (1 : Int32))] []))
  obtain ⟨fs, hr, hrun, hended, hW, hsame⟩ := X2.leave (v := none) (fun _ => rfl)
  exact own_Goes.fin _ _ (X2.returnOut hx Bd.returns (hb hby own_d_prog_7_method_2_8) hr) (hPP _ _ ⟨hrun, hended, _, _, rfl, (by show Q_bvn1 Z a el u1 u2 h0 n0 _ T2.heap _; exact ⟨rfl, N2, K5, f3⟩), ⟨_, rfl⟩, hW, hsame.mono (by decide) (by decide)⟩)
theorem own_ef_emp0 (m : MethodId) (x0 : Addr) : entryFrame m #[(.ref x0)] 1 = mkF m 0 #[.val (.ref x0)] [] := by first | (simp [entryFrame, mkF, argsToLocals, Value.category]; done) | rfl
theorem own_d_jdk_38_method_9_0 : decode jdk_38_method_9_code 0 = .ok (.aload_n 0, 1) := by decide +kernel
theorem own_d_jdk_38_method_9_1 : decode jdk_38_method_9_code 1 = .ok (.getfield 48, 3) := by decide +kernel
theorem own_d_jdk_38_method_9_4 : decode jdk_38_method_9_code 4 = .ok (.ifCond .ne 7, 3) := by decide +kernel
theorem own_d_jdk_38_method_9_7 : decode jdk_38_method_9_code 7 = .ok (.iconst 1, 1) := by decide +kernel
theorem own_d_jdk_38_method_9_8 : decode jdk_38_method_9_code 8 = .ok (.goto 4, 3) := by decide +kernel
theorem own_d_jdk_38_method_9_12 : decode jdk_38_method_9_code 12 = .ok (.ireturn, 1) := by decide +kernel
def Q_emp0 (Z : State) (a : Addr) (h0 : Heap) (n0 : Nat) (rv_ : Option Value) (h_ : Heap) (L_ : List Loc) : Prop := rv_ = some (.int (1 : Int32)) ∧ Fr n0 L_ ∧ h_ = h0
set_option maxRecDepth 65536 in
set_option maxHeartbeats 40000000 in
theorem rm_emp0 (l : Launch) (Z : State) (a0 : Array Value) (hw : ∀ d ∈ tables_1, d.before a0 Z = true) (ws : List Jvm.Cond) (a : Addr) (h0 : Heap) (n0 : Nat) (Z0 : n0 ≤ h0.size) (pr0 : Fld Z h0 a "java/util/ArrayList" "size" "I" (.int (0 : Int32))) :
    MetFree l (⟨"java/util/ArrayList", "isEmpty", "()Z"⟩ : MethodName) (head1 (Jvm.Cond.code (⟨"java/util/ArrayList", "isEmpty", "()Z"⟩ : MethodName) jdk_38_method_9_code 1 (some .boolean) :: ws) ({ frames := 0, cells := 0, slots := 0, locals := 0 } : Room)) (fun as_ U => as_ = #[(.ref a)] ∧ Z.Warmed39 U.vm ∧ U.heap = h0) (fun _ _ _ _ _ => True) (fun _ U o U' => ∃ rv_ L_, o = .returned rv_ ∧ Q_emp0 Z a h0 n0 rv_ U'.heap L_ ∧ FrameEnd U o U' L_ ({ frames := 0, cells := 0, slots := 0, locals := 0 } : Room).cells ({ frames := 0, cells := 0, slots := 0, locals := 0 } : Room).slots) := by
  refine MetFree.of_bodySF (plainFor_of_name own_pn_java_util_ArrayList) hisR ?_
  intro p e s m args below meth c s₁ Bd hml0 hP hK
  obtain ⟨rfl, hZ, hh⟩ := hP
  have hx := Bd.exec
  have hby := Bd.bytes
  have hml : c.maxLocals = 1 := hml0
  have hown : s.vm.findClass "java/util/ArrayList" = some m.cls := findClass_of_methodNamed Bd.named
  have hnm := (name_of_methodNamed Bd.named Bd.method).1
  have X0 : Stand p l e ({ frames := 0, cells := 0, slots := 0, locals := 0 } : Room) s m #[(.ref a)] below meth c s₁ [] 0 0 := Stand.of_body Bd
  have e0 : s₁.heap = h0 := by rw [← hh, Bd.state]; rfl
  have N0 := Fr.nil n0
  refine own_Goes.of ?_
  refine own_Goes.nm (fun P hPP => ?_)
  refine own_Goes.st ?_ (fun _ k => castTop (own_ef_emp0 m a) k)
  show own_Goes p.tables e below P (s₁.setTop (mkF m 0 #[.val (.ref a)] []))
  refine own_Goes.st ?_ (fun _ k => XS.aloadN X0.here hx rfl (hb hby own_d_jdk_38_method_9_0) rfl rfl k)
  show own_Goes p.tables e below P (s₁.setTop (mkF m 1 #[.val (.ref a)] [(.ref a)]))
  obtain ⟨T1, X1, e1, st1⟩ := getF X0 hx hZ hown (host := "") (Or.inl (hw _ (List.mem_of_getElem? (i := 61) rfl))) Via.refl e0 pr0 (g := (mkF m 1 #[.val (.ref a)] [(.ref a)])) rfl rfl (hb hby own_d_jdk_38_method_9_1)
  refine own_Goes.st ?_ st1
  show own_Goes p.tables e below P (T1.setTop (mkF m 4 #[.val (.ref a)] [(.int (0 : Int32))]))
  refine own_Goes.st ?_ (fun _ k => XS.ifNo X1.here hx rfl (hb hby own_d_jdk_38_method_9_4) rfl ((if0 _ _).trans (teq (by decide : (0 : Int32) = (0 : Int32))).2) k)
  show own_Goes p.tables e below P (T1.setTop (mkF m 7 #[.val (.ref a)] []))
  refine own_Goes.st ?_ (fun _ k => XS.iconst X1.here hx rfl (hb hby own_d_jdk_38_method_9_7) k)
  show own_Goes p.tables e below P (T1.setTop (mkF m 8 #[.val (.ref a)] [(.int (1 : Int32))]))
  refine own_Goes.st ?_ (fun _ k => XS.goto X1.here hx rfl (pc0 := 8) (pc' := 12) rfl (hb hby own_d_jdk_38_method_9_8) (by decide) (by decide) k)
  show own_Goes p.tables e below P (T1.setTop (mkF m 12 #[.val (.ref a)] [(.int (1 : Int32))]))
  obtain ⟨fs, hr, hrun, hended, hW, hsame⟩ := X1.leave (v := some (.int (1 : Int32))) (fun h => by rw [Bd.returns] at h; cases h)
  exact own_Goes.fin _ _ (retOut X1 hx (t := .boolean) Bd.returns rfl (Or.inl ⟨rfl, Or.inr (Or.inl rfl), _, rfl⟩) (hb hby own_d_jdk_38_method_9_12) hr) (hPP _ _ ⟨hrun, hended, _, _, rfl, (by show Q_emp0 Z a h0 n0 _ T1.heap _; rw [e1]; exact ⟨rfl, N0, rfl⟩), ⟨_, rfl⟩, hW, hsame.mono (by decide) (by decide)⟩)
theorem own_ef_emp1 (m : MethodId) (x0 : Addr) : entryFrame m #[(.ref x0)] 1 = mkF m 0 #[.val (.ref x0)] [] := by first | (simp [entryFrame, mkF, argsToLocals, Value.category]; done) | rfl
theorem own_d_jdk_38_method_9_11 : decode jdk_38_method_9_code 11 = .ok (.iconst 0, 1) := by decide +kernel
def Q_emp1 (Z : State) (a : Addr) (h0 : Heap) (n0 : Nat) (rv_ : Option Value) (h_ : Heap) (L_ : List Loc) : Prop := rv_ = some (.int (0 : Int32)) ∧ Fr n0 L_ ∧ h_ = h0
set_option maxRecDepth 65536 in
set_option maxHeartbeats 40000000 in
theorem rm_emp1 (l : Launch) (Z : State) (a0 : Array Value) (hw : ∀ d ∈ tables_1, d.before a0 Z = true) (ws : List Jvm.Cond) (a : Addr) (h0 : Heap) (n0 : Nat) (Z0 : n0 ≤ h0.size) (pr0 : Fld Z h0 a "java/util/ArrayList" "size" "I" (.int (1 : Int32))) :
    MetFree l (⟨"java/util/ArrayList", "isEmpty", "()Z"⟩ : MethodName) (head1 (Jvm.Cond.code (⟨"java/util/ArrayList", "isEmpty", "()Z"⟩ : MethodName) jdk_38_method_9_code 1 (some .boolean) :: ws) ({ frames := 0, cells := 0, slots := 0, locals := 0 } : Room)) (fun as_ U => as_ = #[(.ref a)] ∧ Z.Warmed39 U.vm ∧ U.heap = h0) (fun _ _ _ _ _ => True) (fun _ U o U' => ∃ rv_ L_, o = .returned rv_ ∧ Q_emp1 Z a h0 n0 rv_ U'.heap L_ ∧ FrameEnd U o U' L_ ({ frames := 0, cells := 0, slots := 0, locals := 0 } : Room).cells ({ frames := 0, cells := 0, slots := 0, locals := 0 } : Room).slots) := by
  refine MetFree.of_bodySF (plainFor_of_name own_pn_java_util_ArrayList) hisR ?_
  intro p e s m args below meth c s₁ Bd hml0 hP hK
  obtain ⟨rfl, hZ, hh⟩ := hP
  have hx := Bd.exec
  have hby := Bd.bytes
  have hml : c.maxLocals = 1 := hml0
  have hown : s.vm.findClass "java/util/ArrayList" = some m.cls := findClass_of_methodNamed Bd.named
  have hnm := (name_of_methodNamed Bd.named Bd.method).1
  have X0 : Stand p l e ({ frames := 0, cells := 0, slots := 0, locals := 0 } : Room) s m #[(.ref a)] below meth c s₁ [] 0 0 := Stand.of_body Bd
  have e0 : s₁.heap = h0 := by rw [← hh, Bd.state]; rfl
  have N0 := Fr.nil n0
  refine own_Goes.of ?_
  refine own_Goes.nm (fun P hPP => ?_)
  refine own_Goes.st ?_ (fun _ k => castTop (own_ef_emp1 m a) k)
  show own_Goes p.tables e below P (s₁.setTop (mkF m 0 #[.val (.ref a)] []))
  refine own_Goes.st ?_ (fun _ k => XS.aloadN X0.here hx rfl (hb hby own_d_jdk_38_method_9_0) rfl rfl k)
  show own_Goes p.tables e below P (s₁.setTop (mkF m 1 #[.val (.ref a)] [(.ref a)]))
  obtain ⟨T1, X1, e1, st1⟩ := getF X0 hx hZ hown (host := "") (Or.inl (hw _ (List.mem_of_getElem? (i := 61) rfl))) Via.refl e0 pr0 (g := (mkF m 1 #[.val (.ref a)] [(.ref a)])) rfl rfl (hb hby own_d_jdk_38_method_9_1)
  refine own_Goes.st ?_ st1
  show own_Goes p.tables e below P (T1.setTop (mkF m 4 #[.val (.ref a)] [(.int (1 : Int32))]))
  refine own_Goes.st ?_ (fun _ k => XS.ifYes X1.here hx rfl (pc0 := 4) (pc' := 11) rfl (hb hby own_d_jdk_38_method_9_4) rfl ((if0 _ _).trans (feq (by decide : ¬ ((1 : Int32) = (0 : Int32)))).2) (by decide) (by decide) k)
  show own_Goes p.tables e below P (T1.setTop (mkF m 11 #[.val (.ref a)] []))
  refine own_Goes.st ?_ (fun _ k => XS.iconst X1.here hx rfl (hb hby own_d_jdk_38_method_9_11) k)
  show own_Goes p.tables e below P (T1.setTop (mkF m 12 #[.val (.ref a)] [(.int (0 : Int32))]))
  obtain ⟨fs, hr, hrun, hended, hW, hsame⟩ := X1.leave (v := some (.int (0 : Int32))) (fun h => by rw [Bd.returns] at h; cases h)
  exact own_Goes.fin _ _ (retOut X1 hx (t := .boolean) Bd.returns rfl (Or.inl ⟨rfl, Or.inr (Or.inl rfl), _, rfl⟩) (hb hby own_d_jdk_38_method_9_12) hr) (hPP _ _ ⟨hrun, hended, _, _, rfl, (by show Q_emp1 Z a h0 n0 _ T1.heap _; rw [e1]; exact ⟨rfl, N0, rfl⟩), ⟨_, rfl⟩, hW, hsame.mono (by decide) (by decide)⟩)
theorem own_ef_lcE (m : MethodId) (x0 : Addr) : entryFrame m #[(.ref x0)] 2 = mkF m 0 #[.val (.ref x0), .unset] [] := by first | (simp [entryFrame, mkF, argsToLocals, Value.category]; done) | rfl
theorem own_d_jdk_56_method_3_31 : decode jdk_56_method_3_code 31 = .ok (.aload_n 0, 1) := by decide +kernel
theorem own_pd__28__29_Z : parseMethodDescriptor "()Z" = some ⟨[], some .boolean⟩ := by decide +kernel
theorem own_d_jdk_56_method_3_32 : decode jdk_56_method_3_code 32 = .ok (.invokeinterface 20 1, 5) := by decide +kernel
theorem own_d_jdk_56_method_3_37 : decode jdk_56_method_3_code 37 = .ok (.ifCond .eq 7, 3) := by decide +kernel
theorem own_d_jdk_56_method_3_40 : decode jdk_56_method_3_code 40 = .ok (.invokestatic 26, 3) := by decide +kernel
theorem own_d_jdk_56_method_3_43 : decode jdk_56_method_3_code 43 = .ok (.areturn, 1) := by decide +kernel
def Q_lcE (Z : State) (a : Addr) (el : Addr) (h0 : Heap) (n0 : Nat) (rv_ : Option Value) (h_ : Heap) (L_ : List Loc) : Prop := rv_ = some (.ref el) ∧ Fr n0 L_ ∧ h_ = h0
set_option maxRecDepth 65536 in
set_option maxHeartbeats 40000000 in
theorem rm_lcE (l : Launch) (Z : State) (a0 : Array Value) (hw : ∀ d ∈ tables_1, d.before a0 Z = true) (ws : List Jvm.Cond) (a : Addr) (el : Addr) (h0 : Heap) (n0 : Nat) (Z0 : n0 ≤ h0.size) (pr0 : Exa Z h0 a "java/util/ArrayList") (pr1 : Fld Z h0 a "java/util/ArrayList" "size" "I" (.int (0 : Int32))) (pr2 : Sta Z Z.heap "java/util/ImmutableCollections" "EMPTY_LIST" "Ljava/util/ImmutableCollections$ListN;" (.ref el)) (pr3 : Old Z n0 h0) :
    MetFree l (⟨"java/util/ImmutableCollections", "listCopy", "(Ljava/util/Collection;)Ljava/util/List;"⟩ : MethodName) (head1 (Jvm.Cond.code (⟨"java/util/ImmutableCollections", "listCopy", "(Ljava/util/Collection;)Ljava/util/List;"⟩ : MethodName) jdk_56_method_3_code 2 (some (.object "java/util/List")) :: ws) ({ frames := 1, cells := 0, slots := 0, locals := 12 } : Room)) (fun as_ U => as_ = #[(.ref a)] ∧ Z.Warmed39 U.vm ∧ U.heap = h0) (fun _ _ _ _ _ => True) (fun _ U o U' => ∃ rv_ L_, o = .returned rv_ ∧ Q_lcE Z a el h0 n0 rv_ U'.heap L_ ∧ FrameEnd U o U' L_ ({ frames := 1, cells := 0, slots := 0, locals := 12 } : Room).cells ({ frames := 1, cells := 0, slots := 0, locals := 12 } : Room).slots) := by
  refine MetFree.of_bodySF (plainFor_of_name own_pn_java_util_ImmutableCollections) hisR ?_
  intro p e s m args below meth c s₁ Bd hml0 hP hK
  obtain ⟨rfl, hZ, hh⟩ := hP
  have hx := Bd.exec
  have hby := Bd.bytes
  have hml : c.maxLocals = 2 := hml0
  have hown : s.vm.findClass "java/util/ImmutableCollections" = some m.cls := findClass_of_methodNamed Bd.named
  have hnm := (name_of_methodNamed Bd.named Bd.method).1
  have X0 : Stand p l e ({ frames := 1, cells := 0, slots := 0, locals := 12 } : Room) s m #[(.ref a)] below meth c s₁ [] 0 0 := Stand.of_body Bd
  have e0 : s₁.heap = h0 := by rw [← hh, Bd.state]; rfl
  have N0 := Fr.nil n0
  refine own_Goes.of ?_
  refine own_Goes.nm (fun P hPP => ?_)
  refine own_Goes.st ?_ (fun _ k => castTop (own_ef_lcE m a) k)
  show own_Goes p.tables e below P (s₁.setTop (mkF m 0 #[.val (.ref a), .unset] []))
  refine own_Goes.st ?_ (fun _ k => XS.aloadN X0.here hx rfl (hb hby own_d_jdk_56_method_3_0) rfl rfl k)
  show own_Goes p.tables e below P (s₁.setTop (mkF m 1 #[.val (.ref a), .unset] [(.ref a)]))
  obtain ⟨T1, X1, e1, st1⟩ := instNo X0 hx hZ hown (hw _ (List.mem_of_getElem? (i := 46) rfl)) e0 pr0 (own_NSno (hw _ (List.mem_of_getElem? (i := 47) rfl)) (own_found_ins (hw _ (List.mem_of_getElem? (i := 165) rfl))) (NS.step (hw _ (List.mem_of_getElem? (i := 47) rfl)) (NS.step (hw _ (List.mem_of_getElem? (i := 48) rfl)) (NS.step (hw _ (List.mem_of_getElem? (i := 49) rfl)) (own_NSroot (hw _ (List.mem_of_getElem? (i := 50) rfl)) (own_found_ins (hw _ (List.mem_of_getElem? (i := 165) rfl))) (by decide)) (by decide)) (by decide)) (by decide)) (by decide)) (g := (mkF m 1 #[.val (.ref a), .unset] [(.ref a)])) rfl rfl (hb hby own_d_jdk_56_method_3_1)
  refine own_Goes.st ?_ st1
  show own_Goes p.tables e below P (T1.setTop (mkF m 4 #[.val (.ref a), .unset] [(.int (0 : Int32))]))
  refine own_Goes.st ?_ (fun _ k => XS.ifNo X1.here hx rfl (hb hby own_d_jdk_56_method_3_4) rfl ((if0 _ _).trans (teq (by decide : (0 : Int32) = (0 : Int32))).2) k)
  show own_Goes p.tables e below P (T1.setTop (mkF m 7 #[.val (.ref a), .unset] []))
  refine own_Goes.st ?_ (fun _ k => XS.aloadN X1.here hx rfl (hb hby own_d_jdk_56_method_3_7) rfl rfl k)
  show own_Goes p.tables e below P (T1.setTop (mkF m 8 #[.val (.ref a), .unset] [(.ref a)]))
  obtain ⟨T2, X2, e2, st2⟩ := instNo X1 hx hZ hown (hw _ (List.mem_of_getElem? (i := 51) rfl)) e1 pr0 (own_NSno (hw _ (List.mem_of_getElem? (i := 47) rfl)) (own_found_sup (hw _ (List.mem_of_getElem? (i := 90) rfl))) (NS.step (hw _ (List.mem_of_getElem? (i := 47) rfl)) (NS.step (hw _ (List.mem_of_getElem? (i := 48) rfl)) (NS.step (hw _ (List.mem_of_getElem? (i := 49) rfl)) (own_NSroot (hw _ (List.mem_of_getElem? (i := 50) rfl)) (own_found_sup (hw _ (List.mem_of_getElem? (i := 90) rfl))) (by decide)) (by decide)) (by decide)) (by decide)) (by decide)) (g := (mkF m 8 #[.val (.ref a), .unset] [(.ref a)])) rfl rfl (hb hby own_d_jdk_56_method_3_8)
  refine own_Goes.st ?_ st2
  show own_Goes p.tables e below P (T2.setTop (mkF m 11 #[.val (.ref a), .unset] [(.int (0 : Int32))]))
  refine own_Goes.st ?_ (fun _ k => XS.ifYes X2.here hx rfl (pc0 := 11) (pc' := 31) rfl (hb hby own_d_jdk_56_method_3_11) rfl ((if0 _ _).trans (teq (by decide : (0 : Int32) = (0 : Int32))).1) (by decide) (by decide) k)
  show own_Goes p.tables e below P (T2.setTop (mkF m 31 #[.val (.ref a), .unset] []))
  refine own_Goes.st ?_ (fun _ k => XS.aloadN X2.here hx rfl (hb hby own_d_jdk_56_method_3_31) rfl rfl k)
  show own_Goes p.tables e below P (T2.setTop (mkF m 32 #[.val (.ref a), .unset] [(.ref a)]))
  obtain ⟨cq3, kq3, q3a, q3b, q3c⟩ := isOf hZ e2 pr0
  obtain ⟨_, _, ⟨T3, L3, k3, n3⟩, -, X3, ⟨Lc3, hQ3, l3, y3, z3⟩, st3⟩ := X2.interfaceBack hx (xi := (⟨"java/util/Collection", "isEmpty", "()Z"⟩ : MethodName)) (y := (⟨"java/util/ArrayList", "isEmpty", "()Z"⟩ : MethodName)) hown (mvT hZ (hw _ (List.mem_of_getElem? (i := 52) rfl))) (mvT hZ (hw _ (List.mem_of_getElem? (i := 53) rfl))) (mvT hZ (hw _ (List.mem_of_getElem? (i := 54) rfl))) (mvT hZ (hw _ (List.mem_of_getElem? (i := 55) rfl))) (mvT hZ (hw _ (List.mem_of_getElem? (i := 56) rfl))) (mvT hZ (hw _ (List.mem_of_getElem? (i := 57) rfl))) (mvT hZ (hw _ (List.mem_of_getElem? (i := 58) rfl))) (mvT hZ (hw _ (List.mem_of_getElem? (i := 59) rfl))) (by decide) (backOf (W := 0) (rm_emp0 l Z a0 hw [] a h0 n0 Z0 pr1) hZ (hw _ (List.mem_of_getElem? (i := 60) rfl)) (hw _ (List.mem_of_getElem? (i := 2) rfl)) (by decide) (by decide)) q3a q3b q3c (g := (mkF m 32 #[.val (.ref a), .unset] [(.ref a)])) rfl (by rw [hml]; rfl) (Steps.refl _) (argsL := []) (rest := []) (lenOf own_pd__28__29_Z rfl) rfl (by show 2 * 0 + _ ≤ _; exact Nat.le_of_eq rfl) (hb hby own_d_jdk_56_method_3_32) (fun _ _ => ⟨rfl, e2, (by decide : 0 + 0 ≤ _), (by decide : 0 + 0 ≤ _)⟩)
  dsimp only [Pt.U, Pt.locs, Pt.cells, Pt.slots] at X3 l3 y3 z3 st3 hQ3
  rw [l3, y3, z3] at X3
  obtain ⟨rfl, Nq3, e3⟩ := hQ3
  have N3 := Fr.app N0 Nq3
  refine own_Goes.tr st3 ?_
  show own_Goes p.tables e below P (T3.setTop (mkF m 37 #[.val (.ref a), .unset] [(.int (1 : Int32))]))
  refine own_Goes.st ?_ (fun _ k => XS.ifNo X3.here hx rfl (hb hby own_d_jdk_56_method_3_37) rfl ((if0 _ _).trans (feq (by decide : ¬ ((1 : Int32) = (0 : Int32)))).1) k)
  show own_Goes p.tables e below P (T3.setTop (mkF m 40 #[.val (.ref a), .unset] []))
  obtain ⟨_, _, ⟨T4, L4, k4, n4⟩, -, X4, ⟨Lc4, hQ4, l4, y4, z4⟩, st4⟩ := Jvm.LawKit.callS X3 hx (y := (⟨"java/util/List", "of", "()Ljava/util/List;"⟩ : MethodName)) hown (mvT hZ (hw _ (List.mem_of_getElem? (i := 63) rfl))) (mvT hZ (hw _ (List.mem_of_getElem? (i := 64) rfl))) (mvT hZ (hw _ (List.mem_of_getElem? (i := 40) rfl))) (mvT hZ (hw _ (List.mem_of_getElem? (i := 65) rfl))) (by decide) (backOf (W := 0) (rm_lof0 l Z a0 hw [] el h0 n0 Z0 pr2 pr3) hZ (hw _ (List.mem_of_getElem? (i := 65) rfl)) (hw _ (List.mem_of_getElem? (i := 40) rfl)) (by decide) (by decide)) (g := (mkF m 40 #[.val (.ref a), .unset] [])) rfl (by rw [hml]; rfl) (argsL := []) (rest := []) (lenOf own_pd__28__29_Ljava_2f_util_2f_List_3b_ rfl) rfl (by show 2 * 0 + _ ≤ _; exact Nat.le_of_eq rfl) (hb hby own_d_jdk_56_method_3_40) (fun _ _ => ⟨rfl, e3, (by decide : 0 + 0 ≤ _), (by decide : 0 + 0 ≤ _)⟩)
  dsimp only [Pt.U, Pt.locs, Pt.cells, Pt.slots] at X4 l4 y4 z4 st4 hQ4
  rw [l4, y4, z4] at X4
  obtain ⟨rfl, Nq4, e4⟩ := hQ4
  have N4 := Fr.app N3 Nq4
  refine own_Goes.st ?_ st4
  show own_Goes p.tables e below P (T4.setTop (mkF m 43 #[.val (.ref a), .unset] [(.ref el)]))
  obtain ⟨fs, hr, hrun, hended, hW, hsame⟩ := X4.leave (v := some (.ref el)) (fun h => by rw [Bd.returns] at h; cases h)
  exact own_Goes.fin _ _ (retOut X4 hx (t := (.object "java/util/List")) Bd.returns rfl (Or.inr (Or.inr (Or.inr (Or.inr ⟨rfl, rfl, rfl⟩)))) (hb hby own_d_jdk_56_method_3_43) hr) (hPP _ _ ⟨hrun, hended, _, _, rfl, (by show Q_lcE Z a el h0 n0 _ T4.heap _; rw [e4]; exact ⟨rfl, N4, rfl⟩), ⟨_, rfl⟩, hW, hsame.mono (by decide) (by decide)⟩)
theorem own_ef_cpE (m : MethodId) (x0 : Addr) : entryFrame m #[(.ref x0)] 1 = mkF m 0 #[.val (.ref x0)] [] := by first | (simp [entryFrame, mkF, argsToLocals, Value.category]; done) | rfl
def Q_cpE (Z : State) (a : Addr) (el : Addr) (h0 : Heap) (n0 : Nat) (rv_ : Option Value) (h_ : Heap) (L_ : List Loc) : Prop := rv_ = some (.ref el) ∧ Fr n0 L_ ∧ h_ = h0
set_option maxRecDepth 65536 in
set_option maxHeartbeats 40000000 in
theorem rm_cpE (l : Launch) (Z : State) (a0 : Array Value) (hw : ∀ d ∈ tables_1, d.before a0 Z = true) (ws : List Jvm.Cond) (a : Addr) (el : Addr) (h0 : Heap) (n0 : Nat) (Z0 : n0 ≤ h0.size) (pr0 : Exa Z h0 a "java/util/ArrayList") (pr1 : Fld Z h0 a "java/util/ArrayList" "size" "I" (.int (0 : Int32))) (pr2 : Sta Z Z.heap "java/util/ImmutableCollections" "EMPTY_LIST" "Ljava/util/ImmutableCollections$ListN;" (.ref el)) (pr3 : Old Z n0 h0) :
    MetFree l (⟨"java/util/List", "copyOf", "(Ljava/util/Collection;)Ljava/util/List;"⟩ : MethodName) (head1 (Jvm.Cond.code (⟨"java/util/List", "copyOf", "(Ljava/util/Collection;)Ljava/util/List;"⟩ : MethodName) jdk_40_method_48_code 1 (some (.object "java/util/List")) :: ws) ({ frames := 2, cells := 0, slots := 0, locals := 25 } : Room)) (fun as_ U => as_ = #[(.ref a)] ∧ Z.Warmed39 U.vm ∧ U.heap = h0) (fun _ _ _ _ _ => True) (fun _ U o U' => ∃ rv_ L_, o = .returned rv_ ∧ Q_cpE Z a el h0 n0 rv_ U'.heap L_ ∧ FrameEnd U o U' L_ ({ frames := 2, cells := 0, slots := 0, locals := 25 } : Room).cells ({ frames := 2, cells := 0, slots := 0, locals := 25 } : Room).slots) := by
  refine MetFree.of_bodySF (plainFor_of_name own_pn_java_util_List) hisR ?_
  intro p e s m args below meth c s₁ Bd hml0 hP hK
  obtain ⟨rfl, hZ, hh⟩ := hP
  have hx := Bd.exec
  have hby := Bd.bytes
  have hml : c.maxLocals = 1 := hml0
  have hown : s.vm.findClass "java/util/List" = some m.cls := findClass_of_methodNamed Bd.named
  have hnm := (name_of_methodNamed Bd.named Bd.method).1
  have X0 : Stand p l e ({ frames := 2, cells := 0, slots := 0, locals := 25 } : Room) s m #[(.ref a)] below meth c s₁ [] 0 0 := Stand.of_body Bd
  have e0 : s₁.heap = h0 := by rw [← hh, Bd.state]; rfl
  have N0 := Fr.nil n0
  refine own_Goes.of ?_
  refine own_Goes.nm (fun P hPP => ?_)
  refine own_Goes.st ?_ (fun _ k => castTop (own_ef_cpE m a) k)
  show own_Goes p.tables e below P (s₁.setTop (mkF m 0 #[.val (.ref a)] []))
  refine own_Goes.st ?_ (fun _ k => XS.aloadN X0.here hx rfl (hb hby own_d_jdk_40_method_48_0) rfl rfl k)
  show own_Goes p.tables e below P (s₁.setTop (mkF m 1 #[.val (.ref a)] [(.ref a)]))
  obtain ⟨_, _, ⟨T1, L1, k1, n1⟩, -, X1, ⟨Lc1, hQ1, l1, y1, z1⟩, st1⟩ := Jvm.LawKit.callS X0 hx (y := (⟨"java/util/ImmutableCollections", "listCopy", "(Ljava/util/Collection;)Ljava/util/List;"⟩ : MethodName)) hown (mvT hZ (hw _ (List.mem_of_getElem? (i := 42) rfl))) (mvT hZ (hw _ (List.mem_of_getElem? (i := 43) rfl))) (mvT hZ (hw _ (List.mem_of_getElem? (i := 44) rfl))) (mvT hZ (hw _ (List.mem_of_getElem? (i := 45) rfl))) (by decide) (backOf (W := 0) (rm_lcE l Z a0 hw [] a el h0 n0 Z0 pr0 pr1 pr2 pr3) hZ (hw _ (List.mem_of_getElem? (i := 45) rfl)) (hw _ (List.mem_of_getElem? (i := 44) rfl)) (by decide) (by decide)) (g := (mkF m 1 #[.val (.ref a)] [(.ref a)])) rfl (by rw [hml]; rfl) (argsL := [(.ref a)]) (rest := []) (lenOf own_pd__28_Ljava_2f_util_2f_Collection_3b__29_Ljava_2f_util_2f_List_3b_ rfl) rfl (by show 2 * 0 + _ ≤ _; exact Nat.le_of_eq rfl) (hb hby own_d_jdk_40_method_48_1) (fun _ _ => ⟨rfl, e0, (by decide : 0 + 0 ≤ _), (by decide : 0 + 0 ≤ _)⟩)
  dsimp only [Pt.U, Pt.locs, Pt.cells, Pt.slots] at X1 l1 y1 z1 st1 hQ1
  rw [l1, y1, z1] at X1
  obtain ⟨rfl, Nq1, e1⟩ := hQ1
  have N1 := Fr.app N0 Nq1
  refine own_Goes.st ?_ st1
  show own_Goes p.tables e below P (T1.setTop (mkF m 4 #[.val (.ref a)] [(.ref el)]))
  obtain ⟨fs, hr, hrun, hended, hW, hsame⟩ := X1.leave (v := some (.ref el)) (fun h => by rw [Bd.returns] at h; cases h)
  exact own_Goes.fin _ _ (retOut X1 hx (t := (.object "java/util/List")) Bd.returns rfl (Or.inr (Or.inr (Or.inr (Or.inr ⟨rfl, rfl, rfl⟩)))) (hb hby own_d_jdk_40_method_48_4) hr) (hPP _ _ ⟨hrun, hended, _, _, rfl, (by show Q_cpE Z a el h0 n0 _ T1.heap _; rw [e1]; exact ⟨rfl, N1, rfl⟩), ⟨_, rfl⟩, hW, hsame.mono (by decide) (by decide)⟩)
theorem own_ef_cp3 (m : MethodId) (x0 : Addr) (x2 : Addr) : entryFrame m #[(.ref x0), (.int (1 : Int32)), (.ref x2)] 4 = mkF m 0 #[.val (.ref x0), .val (.int (1 : Int32)), .val (.ref x2), .unset] [] := by first | (simp [entryFrame, mkF, argsToLocals, Value.category]; done) | rfl
theorem own_pn_java_util_Arrays : plainName "java/util/Arrays" = true := by first | (simp [plainName, overriddenIn]; done) | decide +kernel
theorem own_d_jdk_65_method_120_0 : decode jdk_65_method_120_code 0 = .ok (.aload_n 2, 1) := by decide +kernel
theorem own_d_jdk_65_method_120_1 : decode jdk_65_method_120_code 1 = .ok (.ldc 110, 2) := by decide +kernel
theorem own_d_jdk_65_method_120_3 : decode jdk_65_method_120_code 3 = .ok (.if_acmp .ne 10, 3) := by decide +kernel
theorem own_d_jdk_65_method_120_6 : decode jdk_65_method_120_code 6 = .ok (.iload_n 1, 1) := by decide +kernel
theorem own_d_jdk_65_method_120_7 : decode jdk_65_method_120_code 7 = .ok (.anewarray 2, 3) := by decide +kernel
theorem own_d_jdk_65_method_120_10 : decode jdk_65_method_120_code 10 = .ok (.goto 14, 3) := by decide +kernel
theorem own_d_jdk_65_method_120_24 : decode jdk_65_method_120_code 24 = .ok (.astore_n 3, 1) := by decide +kernel
theorem own_d_jdk_65_method_120_25 : decode jdk_65_method_120_code 25 = .ok (.aload_n 0, 1) := by decide +kernel
theorem own_d_jdk_65_method_120_26 : decode jdk_65_method_120_code 26 = .ok (.iconst 0, 1) := by decide +kernel
theorem own_d_jdk_65_method_120_27 : decode jdk_65_method_120_code 27 = .ok (.aload_n 3, 1) := by decide +kernel
theorem own_d_jdk_65_method_120_28 : decode jdk_65_method_120_code 28 = .ok (.iconst 0, 1) := by decide +kernel
theorem own_d_jdk_65_method_120_29 : decode jdk_65_method_120_code 29 = .ok (.aload_n 0, 1) := by decide +kernel
theorem own_d_jdk_65_method_120_30 : decode jdk_65_method_120_code 30 = .ok (.arraylength, 1) := by decide +kernel
theorem own_d_jdk_65_method_120_31 : decode jdk_65_method_120_code 31 = .ok (.iload_n 1, 1) := by decide +kernel
theorem own_d_jdk_65_method_120_32 : decode jdk_65_method_120_code 32 = .ok (.invokestatic 304, 3) := by decide +kernel
theorem own_d_jdk_65_method_120_35 : decode jdk_65_method_120_code 35 = .ok (.invokestatic 150, 3) := by decide +kernel
theorem own_d_jdk_65_method_120_38 : decode jdk_65_method_120_code 38 = .ok (.aload_n 3, 1) := by decide +kernel
theorem own_d_jdk_65_method_120_39 : decode jdk_65_method_120_code 39 = .ok (.areturn, 1) := by decide +kernel
def Q_cp3 (Z : State) (b : Addr) (k : ClassId) (q : Addr) (mr : Addr) (h0 : Heap) (n0 : Nat) (rv_ : Option Value) (h_ : Heap) (L_ : List Loc) : Prop := ∃ (r : Addr) (kr : ClassId), rv_ = some (.ref r) ∧ Fr n0 L_ ∧ Keep h0 h_ [] ∧ (h0.size ≤ r) ∧ (Arv Z h_ r kr (.object "java/lang/Object") (1 : Int32) [(.ref q)] .null)
set_option maxRecDepth 65536 in
set_option maxHeartbeats 40000000 in
theorem rm_cp3 (l : Launch) (Z : State) (a0 : Array Value) (hw : ∀ d ∈ tables_1, d.before a0 Z = true) (ws : List Jvm.Cond) (b : Addr) (k : ClassId) (q : Addr) (mr : Addr) (h0 : Heap) (n0 : Nat) (Z0 : n0 ≤ h0.size) (pr0 : Arv Z h0 b k (.object "java/lang/Object") (10 : Int32) [(.ref q), .null, .null, .null, .null, .null, .null, .null, .null, .null] .null) (pr1 : Exa Z h0 q "com/example/larder/larder/BooleanValue") (pr2 : own_Mir Z "[Ljava/lang/Object;" mr) :
    MetFree l (⟨"java/util/Arrays", "copyOf", "([Ljava/lang/Object;ILjava/lang/Class;)[Ljava/lang/Object;"⟩ : MethodName) (head1 (Jvm.Cond.code (⟨"java/util/Arrays", "copyOf", "([Ljava/lang/Object;ILjava/lang/Class;)[Ljava/lang/Object;"⟩ : MethodName) jdk_65_method_120_code 4 (some (.array (.object "java/lang/Object"))) :: ws) ({ frames := 1, cells := 1, slots := 1, locals := 18 } : Room)) (fun as_ U => as_ = #[(.ref b), (.int (1 : Int32)), (.ref mr)] ∧ Z.Warmed39 U.vm ∧ U.heap = h0) (fun _ _ _ _ _ => True) (fun _ U o U' => ∃ rv_ L_, o = .returned rv_ ∧ Q_cp3 Z b k q mr h0 n0 rv_ U'.heap L_ ∧ FrameEnd U o U' L_ ({ frames := 1, cells := 1, slots := 1, locals := 18 } : Room).cells ({ frames := 1, cells := 1, slots := 1, locals := 18 } : Room).slots) := by
  refine MetFree.of_bodySF (plainFor_of_name own_pn_java_util_Arrays) hisR ?_
  intro p e s m args below meth c s₁ Bd hml0 hP hK
  obtain ⟨rfl, hZ, hh⟩ := hP
  have hx := Bd.exec
  have hby := Bd.bytes
  have hml : c.maxLocals = 4 := hml0
  have hown : s.vm.findClass "java/util/Arrays" = some m.cls := findClass_of_methodNamed Bd.named
  have hnm := (name_of_methodNamed Bd.named Bd.method).1
  have X0 : Stand p l e ({ frames := 1, cells := 1, slots := 1, locals := 18 } : Room) s m #[(.ref b), (.int (1 : Int32)), (.ref mr)] below meth c s₁ [] 0 0 := Stand.of_body Bd
  have e0 : s₁.heap = h0 := by rw [← hh, Bd.state]; rfl
  have N0 := Fr.nil n0
  refine own_Goes.of ?_
  refine own_Goes.nm (fun P hPP => ?_)
  refine own_Goes.st ?_ (fun _ k => castTop (own_ef_cp3 m b mr) k)
  have K0 : Keep h0 h0 [] := Keep.refl _ _
  show own_Goes p.tables e below P (s₁.setTop (mkF m 0 #[.val (.ref b), .val (.int (1 : Int32)), .val (.ref mr), .unset] []))
  refine own_Goes.st ?_ (fun _ k => XS.aloadN X0.here hx rfl (hb hby own_d_jdk_65_method_120_0) rfl rfl k)
  show own_Goes p.tables e below P (s₁.setTop (mkF m 1 #[.val (.ref b), .val (.int (1 : Int32)), .val (.ref mr), .unset] [(.ref mr)]))
  obtain ⟨T1, X1, e1, st1⟩ := own_ldcM X0 hx hZ hown (hw _ (List.mem_of_getElem? (i := 152) rfl)) e0 pr2 (g := (mkF m 1 #[.val (.ref b), .val (.int (1 : Int32)), .val (.ref mr), .unset] [(.ref mr)])) rfl (hb hby own_d_jdk_65_method_120_1)
  refine own_Goes.st ?_ st1
  show own_Goes p.tables e below P (T1.setTop (mkF m 3 #[.val (.ref b), .val (.int (1 : Int32)), .val (.ref mr), .unset] [(.ref mr), (.ref mr)]))
  refine own_Goes.st ?_ (fun _ k => Jvm.RoadKit.acmp (g := (mkF m 3 #[.val (.ref b), .val (.int (1 : Int32)), .val (.ref mr), .unset] [(.ref mr), (.ref mr)])) X1 hx rfl rfl rfl (pc0 := 3) (pc' := 6) (same := true) rfl (hb hby own_d_jdk_65_method_120_3) rfl (decide_eq_true rfl) (by decide) (by decide) k)
  show own_Goes p.tables e below P (T1.setTop (mkF m 6 #[.val (.ref b), .val (.int (1 : Int32)), .val (.ref mr), .unset] []))
  refine own_Goes.st ?_ (fun _ k => XS.iloadN X1.here hx rfl (hb hby own_d_jdk_65_method_120_6) rfl k)
  show own_Goes p.tables e below P (T1.setTop (mkF m 7 #[.val (.ref b), .val (.int (1 : Int32)), .val (.ref mr), .unset] [(.int (1 : Int32))]))
  obtain ⟨T2, h2, k2, X2, e2, E2, A2, J2, O2, st2⟩ := newRE X1 hx hZ hown (hw _ (List.mem_of_getElem? (i := 153) rfl)) (hw _ (List.mem_of_getElem? (i := 129) rfl)) e1 (g := (mkF m 7 #[.val (.ref b), .val (.int (1 : Int32)), .val (.ref mr), .unset] [(.int (1 : Int32))])) rfl (hb hby own_d_jdk_65_method_120_7) rfl (by decide) (cap := 1) (by decide) (by decide) (by decide) (by decide) (ad := "[Ljava/lang/Object;") rfl
  obtain ⟨b2, g2⟩ : ∃ z, z = h0.size := ⟨_, rfl⟩
  rw [← g2] at A2 J2 st2
  have ne3 : b ≠ b2 := Nat.ne_of_lt (Nat.lt_of_lt_of_eq pr0.lt g2.symm)
  have ne4 : q ≠ b2 := Nat.ne_of_lt (Nat.lt_of_lt_of_eq pr1.lt g2.symm)
  have ge_b2 : n0 ≤ b2 := Nat.le_trans Z0 (Nat.le_of_eq g2.symm)
  have sz_b2 : h0.size ≤ b2 := Nat.le_trans K0.1 (Nat.le_of_eq g2.symm)
  refine own_Goes.st ?_ st2
  have Z5 : n0 ≤ h2.size := Nat.le_trans Z0 E2.1
  have K6 := K0.ext E2
  have V7 : Arv Z h2 b2 k2 (.object "java/lang/Object") (1 : Int32) [.null] .null := (Arv.new A2 (by decide)).pad (pad_rep [] _ 1)
  show own_Goes p.tables e below P (T2.setTop (mkF m 10 #[.val (.ref b), .val (.int (1 : Int32)), .val (.ref mr), .unset] [(.ref b2)]))
  refine own_Goes.st ?_ (fun _ k => XS.goto X2.here hx rfl (pc0 := 10) (pc' := 24) rfl (hb hby own_d_jdk_65_method_120_10) (by decide) (by decide) k)
  show own_Goes p.tables e below P (T2.setTop (mkF m 24 #[.val (.ref b), .val (.int (1 : Int32)), .val (.ref mr), .unset] [(.ref b2)]))
  refine own_Goes.st ?_ (fun _ k => XS.astoreN X2.here hx rfl (hb hby own_d_jdk_65_method_120_24) rfl rfl (l' := #[.val (.ref b), .val (.int (1 : Int32)), .val (.ref mr), .val (.ref b2)]) rfl k)
  show own_Goes p.tables e below P (T2.setTop (mkF m 25 #[.val (.ref b), .val (.int (1 : Int32)), .val (.ref mr), .val (.ref b2)] []))
  refine own_Goes.st ?_ (fun _ k => XS.aloadN X2.here hx rfl (hb hby own_d_jdk_65_method_120_25) rfl rfl k)
  show own_Goes p.tables e below P (T2.setTop (mkF m 26 #[.val (.ref b), .val (.int (1 : Int32)), .val (.ref mr), .val (.ref b2)] [(.ref b)]))
  refine own_Goes.st ?_ (fun _ k => XS.iconst X2.here hx rfl (hb hby own_d_jdk_65_method_120_26) k)
  show own_Goes p.tables e below P (T2.setTop (mkF m 27 #[.val (.ref b), .val (.int (1 : Int32)), .val (.ref mr), .val (.ref b2)] [(.int (0 : Int32)), (.ref b)]))
  refine own_Goes.st ?_ (fun _ k => XS.aloadN X2.here hx rfl (hb hby own_d_jdk_65_method_120_27) rfl rfl k)
  show own_Goes p.tables e below P (T2.setTop (mkF m 28 #[.val (.ref b), .val (.int (1 : Int32)), .val (.ref mr), .val (.ref b2)] [(.ref b2), (.int (0 : Int32)), (.ref b)]))
  refine own_Goes.st ?_ (fun _ k => XS.iconst X2.here hx rfl (hb hby own_d_jdk_65_method_120_28) k)
  show own_Goes p.tables e below P (T2.setTop (mkF m 29 #[.val (.ref b), .val (.int (1 : Int32)), .val (.ref mr), .val (.ref b2)] [(.int (0 : Int32)), (.ref b2), (.int (0 : Int32)), (.ref b)]))
  refine own_Goes.st ?_ (fun _ k => XS.aloadN X2.here hx rfl (hb hby own_d_jdk_65_method_120_29) rfl rfl k)
  show own_Goes p.tables e below P (T2.setTop (mkF m 30 #[.val (.ref b), .val (.int (1 : Int32)), .val (.ref mr), .val (.ref b2)] [(.ref b), (.int (0 : Int32)), (.ref b2), (.int (0 : Int32)), (.ref b)]))
  have F8 : Arv Z h2 b k (.object "java/lang/Object") (10 : Int32) [(.ref q), .null, .null, .null, .null, .null, .null, .null, .null, .null] .null := (pr0.ext E2)
  have Vc9 := F8
  obtain ⟨cl9, Ar9, qc9, S9, Nn9, Hs9, Gs9⟩ := Vc9
  refine own_Goes.st ?_ (X2.arraylength hx (by rw [e2]; exact Ar9.1) (State.isArrayOf_alike hZ.alike Ar9.2.1) (g := (mkF m 30 #[.val (.ref b), .val (.int (1 : Int32)), .val (.ref mr), .val (.ref b2)] [(.ref b), (.int (0 : Int32)), (.ref b2), (.int (0 : Int32)), (.ref b)])) rfl rfl (hb hby own_d_jdk_65_method_120_30))
  rw [len_of S9 Nn9]
  show own_Goes p.tables e below P (T2.setTop (mkF m 31 #[.val (.ref b), .val (.int (1 : Int32)), .val (.ref mr), .val (.ref b2)] [(.int (10 : Int32)), (.int (0 : Int32)), (.ref b2), (.int (0 : Int32)), (.ref b)]))
  refine own_Goes.st ?_ (fun _ k => XS.iloadN X2.here hx rfl (hb hby own_d_jdk_65_method_120_31) rfl k)
  show own_Goes p.tables e below P (T2.setTop (mkF m 32 #[.val (.ref b), .val (.int (1 : Int32)), .val (.ref mr), .val (.ref b2)] [(.int (1 : Int32)), (.int (10 : Int32)), (.int (0 : Int32)), (.ref b2), (.int (0 : Int32)), (.ref b)]))
  obtain ⟨_, _, ⟨T10, L10, k10, n10⟩, -, X10, ⟨Lc10, hQ10, l10, y10, z10⟩, st10⟩ := Jvm.LawKit.callS X2 hx (y := (⟨"java/lang/Math", "min", "(II)I"⟩ : MethodName)) hown (mvT hZ (hw _ (List.mem_of_getElem? (i := 154) rfl))) (mvT hZ (hw _ (List.mem_of_getElem? (i := 155) rfl))) (mvT hZ (hw _ (List.mem_of_getElem? (i := 126) rfl))) (mvT hZ (hw _ (List.mem_of_getElem? (i := 156) rfl))) (by decide) (backOf (W := 4) (rm_imin l Z a0 hw [] (10 : Int32) (1 : Int32) h2 n0 Z5) hZ (hw _ (List.mem_of_getElem? (i := 156) rfl)) (hw _ (List.mem_of_getElem? (i := 126) rfl)) (by decide) (by decide)) (g := (mkF m 32 #[.val (.ref b), .val (.int (1 : Int32)), .val (.ref mr), .val (.ref b2)] [(.int (1 : Int32)), (.int (10 : Int32)), (.int (0 : Int32)), (.ref b2), (.int (0 : Int32)), (.ref b)])) rfl (by rw [hml]; rfl) (argsL := [(.int (10 : Int32)), (.int (1 : Int32))]) (rest := [(.int (0 : Int32)), (.ref b2), (.int (0 : Int32)), (.ref b)]) (lenOf own_pd__28_II_29_I rfl) rfl (by show 2 * 0 + _ ≤ _; exact Nat.le_of_eq rfl) (hb hby own_d_jdk_65_method_120_32) (fun _ _ => ⟨rfl, e2, (by decide : 1 + 0 ≤ _), (by decide : 1 + 0 ≤ _)⟩)
  dsimp only [Pt.U, Pt.locs, Pt.cells, Pt.slots] at X10 l10 y10 z10 st10 hQ10
  rw [l10, y10, z10] at X10
  obtain ⟨rfl, Nq10, e10⟩ := hQ10
  have N10 := Fr.app N0 Nq10
  refine own_Goes.st ?_ st10
  show own_Goes p.tables e below P (T10.setTop (mkF m 35 #[.val (.ref b), .val (.int (1 : Int32)), .val (.ref mr), .val (.ref b2)] [(.int (own_imin (10 : Int32) (1 : Int32))), (.int (0 : Int32)), (.ref b2), (.int (0 : Int32)), (.ref b)]))
  rw [(rfl : own_imin (10 : Int32) (1 : Int32) = 1)]
  show own_Goes p.tables e below P (T10.setTop (mkF m 35 #[.val (.ref b), .val (.int (1 : Int32)), .val (.ref mr), .val (.ref b2)] [(.int (1 : Int32)), (.int (0 : Int32)), (.ref b2), (.int (0 : Int32)), (.ref b)]))
  have Vc12 := V7
  obtain ⟨cl12, Ar12, qc12, S12, Nn12, Hs12, Gs12⟩ := Vc12
  have F13 : Exa Z h2 q "com/example/larder/larder/BooleanValue" := (pr1.ext E2)
  obtain ⟨T11, h11, L11, X11, e11, N11, K11, V11, st11⟩ := cpA X10 hx hZ hown (hw _ (List.mem_of_getElem? (i := 157) rfl)) (hw _ (List.mem_of_getElem? (i := 160) rfl)) (hw _ (List.mem_of_getElem? (i := 158) rfl)) (hw _ (List.mem_of_getElem? (i := 159) rfl)) e10 (sp := (0 : Int32)) (dp := (0 : Int32)) (nn := (1 : Int32)) (us := [(.ref q)]) F8 V7 (Or.inr ⟨rfl, rfl, ⟨Sto.ofV Ar12 qc12 O2 (Ins.of_exa F13 (hw _ (List.mem_of_getElem? (i := 130) rfl))), trivial⟩⟩) (by decide) (by decide) (by decide) (by decide) (by decide) rfl (by decide) N10 ge_b2 (g := (mkF m 35 #[.val (.ref b), .val (.int (1 : Int32)), .val (.ref mr), .val (.ref b2)] [(.int (1 : Int32)), (.int (0 : Int32)), (.ref b2), (.int (0 : Int32)), (.ref b)])) rfl (by rw [hml]; rfl) rfl (hb hby own_d_jdk_65_method_120_35) (by decide) (W := 0) (by show 2 * 0 + _ ≤ _; exact Nat.le_of_eq rfl) (by decide)
  refine own_Goes.st ?_ st11
  have V14 : Arv Z h11 b2 k2 (.object "java/lang/Object") (1 : Int32) [(.ref q)] .null := V11
  have Z15 : n0 ≤ h11.size := Nat.le_trans Z5 K11.1
  have K16 := K6.trans K11 (allS (Or.inr sz_b2) all0)
  show own_Goes p.tables e below P (T11.setTop (mkF m 38 #[.val (.ref b), .val (.int (1 : Int32)), .val (.ref mr), .val (.ref b2)] []))
  refine own_Goes.st ?_ (fun _ k => XS.aloadN X11.here hx rfl (hb hby own_d_jdk_65_method_120_38) rfl rfl k)
  show own_Goes p.tables e below P (T11.setTop (mkF m 39 #[.val (.ref b), .val (.int (1 : Int32)), .val (.ref mr), .val (.ref b2)] [(.ref b2)]))
  obtain ⟨fs, hr, hrun, hended, hW, hsame⟩ := X11.leave (v := some (.ref b2)) (fun h => by rw [Bd.returns] at h; cases h)
  exact own_Goes.fin _ _ (retOut X11 hx (t := (.array (.object "java/lang/Object"))) Bd.returns rfl (Or.inr (Or.inr (Or.inr (Or.inr ⟨rfl, rfl, rfl⟩)))) (hb hby own_d_jdk_65_method_120_39) hr) (hPP _ _ ⟨hrun, hended, _, _, rfl, (by show Q_cp3 Z b k q mr h0 n0 _ T11.heap _; rw [e11]; exact ⟨b2, k2, rfl, N11, K16, sz_b2, V14⟩), ⟨_, rfl⟩, hW, hsame.mono (by decide) (by decide)⟩)
theorem own_ef_cp2 (m : MethodId) (x0 : Addr) : entryFrame m #[(.ref x0), (.int (1 : Int32))] 2 = mkF m 0 #[.val (.ref x0), .val (.int (1 : Int32))] [] := by first | (simp [entryFrame, mkF, argsToLocals, Value.category]; done) | rfl
theorem own_d_jdk_65_method_119_0 : decode jdk_65_method_119_code 0 = .ok (.aload_n 0, 1) := by decide +kernel
theorem own_d_jdk_65_method_119_1 : decode jdk_65_method_119_code 1 = .ok (.iload_n 1, 1) := by decide +kernel
theorem own_d_jdk_65_method_119_2 : decode jdk_65_method_119_code 2 = .ok (.aload_n 0, 1) := by decide +kernel
theorem own_d_jdk_65_method_119_3 : decode jdk_65_method_119_code 3 = .ok (.invokevirtual 86, 3) := by decide +kernel
theorem own_pd__28__5b_Ljava_2f_lang_2f_Object_3b_ILjava_2f_lang_2f_Class_3b__29__5b_Ljava_2f_lang_2f_Object_3b_ : parseMethodDescriptor "([Ljava/lang/Object;ILjava/lang/Class;)[Ljava/lang/Object;" = some ⟨[(.array (.object "java/lang/Object")), .int, (.object "java/lang/Class")], some (.array (.object "java/lang/Object"))⟩ := by decide +kernel
theorem own_d_jdk_65_method_119_6 : decode jdk_65_method_119_code 6 = .ok (.invokestatic 300, 3) := by decide +kernel
theorem own_d_jdk_65_method_119_9 : decode jdk_65_method_119_code 9 = .ok (.areturn, 1) := by decide +kernel
def Q_cp2 (Z : State) (b : Addr) (k : ClassId) (q : Addr) (mr : Addr) (h0 : Heap) (n0 : Nat) (rv_ : Option Value) (h_ : Heap) (L_ : List Loc) : Prop := ∃ (r : Addr) (kr : ClassId), rv_ = some (.ref r) ∧ Fr n0 L_ ∧ Keep h0 h_ [] ∧ (h0.size ≤ r) ∧ (Arv Z h_ r kr (.object "java/lang/Object") (1 : Int32) [(.ref q)] .null)
set_option maxRecDepth 65536 in
set_option maxHeartbeats 40000000 in
theorem rm_cp2 (l : Launch) (Z : State) (a0 : Array Value) (hw : ∀ d ∈ tables_1, d.before a0 Z = true) (ws : List Jvm.Cond) (b : Addr) (k : ClassId) (q : Addr) (mr : Addr) (h0 : Heap) (n0 : Nat) (Z0 : n0 ≤ h0.size) (pr0 : Arv Z h0 b k (.object "java/lang/Object") (10 : Int32) [(.ref q), .null, .null, .null, .null, .null, .null, .null, .null, .null] .null) (pr1 : Exa Z h0 b "[Ljava/lang/Object;") (pr2 : Exa Z h0 q "com/example/larder/larder/BooleanValue") (pr3 : own_Mir Z "[Ljava/lang/Object;" mr) :
    MetFree l (⟨"java/util/Arrays", "copyOf", "([Ljava/lang/Object;I)[Ljava/lang/Object;"⟩ : MethodName) (head1 (Jvm.Cond.code (⟨"java/util/Arrays", "copyOf", "([Ljava/lang/Object;I)[Ljava/lang/Object;"⟩ : MethodName) jdk_65_method_119_code 2 (some (.array (.object "java/lang/Object"))) :: ws) ({ frames := 2, cells := 1, slots := 1, locals := 33 } : Room)) (fun as_ U => as_ = #[(.ref b), (.int (1 : Int32))] ∧ Z.Warmed39 U.vm ∧ U.heap = h0) (fun _ _ _ _ _ => True) (fun _ U o U' => ∃ rv_ L_, o = .returned rv_ ∧ Q_cp2 Z b k q mr h0 n0 rv_ U'.heap L_ ∧ FrameEnd U o U' L_ ({ frames := 2, cells := 1, slots := 1, locals := 33 } : Room).cells ({ frames := 2, cells := 1, slots := 1, locals := 33 } : Room).slots) := by
  refine MetFree.of_bodySF (plainFor_of_name own_pn_java_util_Arrays) hisR ?_
  intro p e s m args below meth c s₁ Bd hml0 hP hK
  obtain ⟨rfl, hZ, hh⟩ := hP
  have hx := Bd.exec
  have hby := Bd.bytes
  have hml : c.maxLocals = 2 := hml0
  have hown : s.vm.findClass "java/util/Arrays" = some m.cls := findClass_of_methodNamed Bd.named
  have hnm := (name_of_methodNamed Bd.named Bd.method).1
  have X0 : Stand p l e ({ frames := 2, cells := 1, slots := 1, locals := 33 } : Room) s m #[(.ref b), (.int (1 : Int32))] below meth c s₁ [] 0 0 := Stand.of_body Bd
  have e0 : s₁.heap = h0 := by rw [← hh, Bd.state]; rfl
  have N0 := Fr.nil n0
  refine own_Goes.of ?_
  refine own_Goes.nm (fun P hPP => ?_)
  refine own_Goes.st ?_ (fun _ k => castTop (own_ef_cp2 m b) k)
  have K0 : Keep h0 h0 [] := Keep.refl _ _
  show own_Goes p.tables e below P (s₁.setTop (mkF m 0 #[.val (.ref b), .val (.int (1 : Int32))] []))
  refine own_Goes.st ?_ (fun _ k => XS.aloadN X0.here hx rfl (hb hby own_d_jdk_65_method_119_0) rfl rfl k)
  show own_Goes p.tables e below P (s₁.setTop (mkF m 1 #[.val (.ref b), .val (.int (1 : Int32))] [(.ref b)]))
  refine own_Goes.st ?_ (fun _ k => XS.iloadN X0.here hx rfl (hb hby own_d_jdk_65_method_119_1) rfl k)
  show own_Goes p.tables e below P (s₁.setTop (mkF m 2 #[.val (.ref b), .val (.int (1 : Int32))] [(.int (1 : Int32)), (.ref b)]))
  refine own_Goes.st ?_ (fun _ k => XS.aloadN X0.here hx rfl (hb hby own_d_jdk_65_method_119_2) rfl rfl k)
  show own_Goes p.tables e below P (s₁.setTop (mkF m 3 #[.val (.ref b), .val (.int (1 : Int32))] [(.ref b), (.int (1 : Int32)), (.ref b)]))
  obtain ⟨T1, X1, e1, st1⟩ := own_gcls X0 hx hZ hown (hw _ (List.mem_of_getElem? (i := 143) rfl)) (hw _ (List.mem_of_getElem? (i := 144) rfl)) (hw _ (List.mem_of_getElem? (i := 50) rfl)) (hw _ (List.mem_of_getElem? (i := 146) rfl)) (hw _ (List.mem_of_getElem? (i := 145) rfl)) (hw _ (List.mem_of_getElem? (i := 147) rfl)) e0 pr1 pr3 (g := (mkF m 3 #[.val (.ref b), .val (.int (1 : Int32))] [(.ref b), (.int (1 : Int32)), (.ref b)])) rfl (by rw [hml]; rfl) rfl (hb hby own_d_jdk_65_method_119_3) (by decide) (W := 2) (by show 2 * 0 + _ ≤ _; exact Nat.le_of_eq rfl) (by decide)
  refine own_Goes.st ?_ st1
  show own_Goes p.tables e below P (T1.setTop (mkF m 6 #[.val (.ref b), .val (.int (1 : Int32))] [(.ref mr), (.int (1 : Int32)), (.ref b)]))
  obtain ⟨_, _, ⟨T2, L2, k2, n2⟩, -, X2, ⟨Lc2, hQ2, l2, y2, z2⟩, st2⟩ := Jvm.LawKit.callS X1 hx (y := (⟨"java/util/Arrays", "copyOf", "([Ljava/lang/Object;ILjava/lang/Class;)[Ljava/lang/Object;"⟩ : MethodName)) hown (mvT hZ (hw _ (List.mem_of_getElem? (i := 149) rfl))) (mvT hZ (hw _ (List.mem_of_getElem? (i := 150) rfl))) (mvT hZ (hw _ (List.mem_of_getElem? (i := 141) rfl))) (mvT hZ (hw _ (List.mem_of_getElem? (i := 151) rfl))) (by decide) (backOf (W := 0) (rm_cp3 l Z a0 hw [] b k q mr h0 n0 Z0 pr0 pr2 pr3) hZ (hw _ (List.mem_of_getElem? (i := 151) rfl)) (hw _ (List.mem_of_getElem? (i := 141) rfl)) (by decide) (by decide)) (g := (mkF m 6 #[.val (.ref b), .val (.int (1 : Int32))] [(.ref mr), (.int (1 : Int32)), (.ref b)])) rfl (by rw [hml]; rfl) (argsL := [(.ref b), (.int (1 : Int32)), (.ref mr)]) (rest := []) (lenOf own_pd__28__5b_Ljava_2f_lang_2f_Object_3b_ILjava_2f_lang_2f_Class_3b__29__5b_Ljava_2f_lang_2f_Object_3b_ rfl) rfl (by show 2 * 0 + _ ≤ _; exact Nat.le_of_eq rfl) (hb hby own_d_jdk_65_method_119_6) (fun _ _ => ⟨rfl, e1, (by decide : 0 + 1 ≤ _), (by decide : 0 + 1 ≤ _)⟩)
  dsimp only [Pt.U, Pt.locs, Pt.cells, Pt.slots] at X2 l2 y2 z2 st2 hQ2
  rw [l2, y2, z2] at X2
  obtain ⟨r2, kr2, rfl, Nq2, K2, f3, f4⟩ := hQ2
  have N2 := Fr.app N0 Nq2
  refine own_Goes.st ?_ st2
  have ne5 : b ≠ r2 := Nat.ne_of_lt (Nat.lt_of_lt_of_le pr0.lt f3)
  have ne6 : q ≠ r2 := Nat.ne_of_lt (Nat.lt_of_lt_of_le pr2.lt f3)
  have ge_r2 : n0 ≤ r2 := Nat.le_trans Z0 f3
  have sz_r2 : h0.size ≤ r2 := Nat.le_trans K0.1 f3
  have Z7 : n0 ≤ T2.heap.size := Nat.le_trans Z0 K2.1
  have K8 := K0.trans K2 all0
  show own_Goes p.tables e below P (T2.setTop (mkF m 9 #[.val (.ref b), .val (.int (1 : Int32))] [(.ref r2)]))
  obtain ⟨fs, hr, hrun, hended, hW, hsame⟩ := X2.leave (v := some (.ref r2)) (fun h => by rw [Bd.returns] at h; cases h)
  exact own_Goes.fin _ _ (retOut X2 hx (t := (.array (.object "java/lang/Object"))) Bd.returns rfl (Or.inr (Or.inr (Or.inr (Or.inr ⟨rfl, rfl, rfl⟩)))) (hb hby own_d_jdk_65_method_119_9) hr) (hPP _ _ ⟨hrun, hended, _, _, rfl, (by show Q_cp2 Z b k q mr h0 n0 _ T2.heap _; exact ⟨r2, kr2, rfl, N2, K8, sz_r2, f4⟩), ⟨_, rfl⟩, hW, hsame.mono (by decide) (by decide)⟩)
theorem own_ef_toarr (m : MethodId) (x0 : Addr) : entryFrame m #[(.ref x0)] 1 = mkF m 0 #[.val (.ref x0)] [] := by first | (simp [entryFrame, mkF, argsToLocals, Value.category]; done) | rfl
theorem own_d_jdk_38_method_16_0 : decode jdk_38_method_16_code 0 = .ok (.aload_n 0, 1) := by decide +kernel
theorem own_d_jdk_38_method_16_1 : decode jdk_38_method_16_code 1 = .ok (.getfield 9, 3) := by decide +kernel
theorem own_d_jdk_38_method_16_4 : decode jdk_38_method_16_code 4 = .ok (.aload_n 0, 1) := by decide +kernel
theorem own_d_jdk_38_method_16_5 : decode jdk_38_method_16_code 5 = .ok (.getfield 48, 3) := by decide +kernel
theorem own_pd__28__5b_Ljava_2f_lang_2f_Object_3b_I_29__5b_Ljava_2f_lang_2f_Object_3b_ : parseMethodDescriptor "([Ljava/lang/Object;I)[Ljava/lang/Object;" = some ⟨[(.array (.object "java/lang/Object")), .int], some (.array (.object "java/lang/Object"))⟩ := by decide +kernel
theorem own_d_jdk_38_method_16_8 : decode jdk_38_method_16_code 8 = .ok (.invokestatic 66, 3) := by decide +kernel
theorem own_d_jdk_38_method_16_11 : decode jdk_38_method_16_code 11 = .ok (.areturn, 1) := by decide +kernel
def Q_toarr (Z : State) (a : Addr) (b : Addr) (k : ClassId) (q : Addr) (mr : Addr) (h0 : Heap) (n0 : Nat) (rv_ : Option Value) (h_ : Heap) (L_ : List Loc) : Prop := ∃ (r : Addr) (kr : ClassId), rv_ = some (.ref r) ∧ Fr n0 L_ ∧ Keep h0 h_ [] ∧ (h0.size ≤ r) ∧ (Arv Z h_ r kr (.object "java/lang/Object") (1 : Int32) [(.ref q)] .null)
set_option maxRecDepth 65536 in
set_option maxHeartbeats 40000000 in
theorem rm_toarr (l : Launch) (Z : State) (a0 : Array Value) (hw : ∀ d ∈ tables_1, d.before a0 Z = true) (ws : List Jvm.Cond) (a : Addr) (b : Addr) (k : ClassId) (q : Addr) (mr : Addr) (h0 : Heap) (n0 : Nat) (Z0 : n0 ≤ h0.size) (pr0 : Fld Z h0 a "java/util/ArrayList" "elementData" "[Ljava/lang/Object;" (.ref b)) (pr1 : Fld Z h0 a "java/util/ArrayList" "size" "I" (.int (1 : Int32))) (pr2 : Arv Z h0 b k (.object "java/lang/Object") (10 : Int32) [(.ref q), .null, .null, .null, .null, .null, .null, .null, .null, .null] .null) (pr3 : Exa Z h0 b "[Ljava/lang/Object;") (pr4 : Exa Z h0 q "com/example/larder/larder/BooleanValue") (pr5 : own_Mir Z "[Ljava/lang/Object;" mr) :
    MetFree l (⟨"java/util/ArrayList", "toArray", "()[Ljava/lang/Object;"⟩ : MethodName) (head1 (Jvm.Cond.code (⟨"java/util/ArrayList", "toArray", "()[Ljava/lang/Object;"⟩ : MethodName) jdk_38_method_16_code 1 (some (.array (.object "java/lang/Object"))) :: ws) ({ frames := 3, cells := 1, slots := 1, locals := 46 } : Room)) (fun as_ U => as_ = #[(.ref a)] ∧ Z.Warmed39 U.vm ∧ U.heap = h0) (fun _ _ _ _ _ => True) (fun _ U o U' => ∃ rv_ L_, o = .returned rv_ ∧ Q_toarr Z a b k q mr h0 n0 rv_ U'.heap L_ ∧ FrameEnd U o U' L_ ({ frames := 3, cells := 1, slots := 1, locals := 46 } : Room).cells ({ frames := 3, cells := 1, slots := 1, locals := 46 } : Room).slots) := by
  refine MetFree.of_bodySF (plainFor_of_name own_pn_java_util_ArrayList) hisR ?_
  intro p e s m args below meth c s₁ Bd hml0 hP hK
  obtain ⟨rfl, hZ, hh⟩ := hP
  have hx := Bd.exec
  have hby := Bd.bytes
  have hml : c.maxLocals = 1 := hml0
  have hown : s.vm.findClass "java/util/ArrayList" = some m.cls := findClass_of_methodNamed Bd.named
  have hnm := (name_of_methodNamed Bd.named Bd.method).1
  have X0 : Stand p l e ({ frames := 3, cells := 1, slots := 1, locals := 46 } : Room) s m #[(.ref a)] below meth c s₁ [] 0 0 := Stand.of_body Bd
  have e0 : s₁.heap = h0 := by rw [← hh, Bd.state]; rfl
  have N0 := Fr.nil n0
  refine own_Goes.of ?_
  refine own_Goes.nm (fun P hPP => ?_)
  refine own_Goes.st ?_ (fun _ k => castTop (own_ef_toarr m a) k)
  have K0 : Keep h0 h0 [] := Keep.refl _ _
  show own_Goes p.tables e below P (s₁.setTop (mkF m 0 #[.val (.ref a)] []))
  refine own_Goes.st ?_ (fun _ k => XS.aloadN X0.here hx rfl (hb hby own_d_jdk_38_method_16_0) rfl rfl k)
  show own_Goes p.tables e below P (s₁.setTop (mkF m 1 #[.val (.ref a)] [(.ref a)]))
  obtain ⟨T1, X1, e1, st1⟩ := getF X0 hx hZ hown (host := "") (Or.inl (hw _ (List.mem_of_getElem? (i := 24) rfl))) Via.refl e0 pr0 (g := (mkF m 1 #[.val (.ref a)] [(.ref a)])) rfl rfl (hb hby own_d_jdk_38_method_16_1)
  refine own_Goes.st ?_ st1
  show own_Goes p.tables e below P (T1.setTop (mkF m 4 #[.val (.ref a)] [(.ref b)]))
  refine own_Goes.st ?_ (fun _ k => XS.aloadN X1.here hx rfl (hb hby own_d_jdk_38_method_16_4) rfl rfl k)
  show own_Goes p.tables e below P (T1.setTop (mkF m 5 #[.val (.ref a)] [(.ref a), (.ref b)]))
  obtain ⟨T2, X2, e2, st2⟩ := getF X1 hx hZ hown (host := "") (Or.inl (hw _ (List.mem_of_getElem? (i := 61) rfl))) Via.refl e1 pr1 (g := (mkF m 5 #[.val (.ref a)] [(.ref a), (.ref b)])) rfl rfl (hb hby own_d_jdk_38_method_16_5)
  refine own_Goes.st ?_ st2
  show own_Goes p.tables e below P (T2.setTop (mkF m 8 #[.val (.ref a)] [(.int (1 : Int32)), (.ref b)]))
  obtain ⟨_, _, ⟨T3, L3, k3, n3⟩, -, X3, ⟨Lc3, hQ3, l3, y3, z3⟩, st3⟩ := Jvm.LawKit.callS X2 hx (y := (⟨"java/util/Arrays", "copyOf", "([Ljava/lang/Object;I)[Ljava/lang/Object;"⟩ : MethodName)) hown (mvT hZ (hw _ (List.mem_of_getElem? (i := 139) rfl))) (mvT hZ (hw _ (List.mem_of_getElem? (i := 140) rfl))) (mvT hZ (hw _ (List.mem_of_getElem? (i := 141) rfl))) (mvT hZ (hw _ (List.mem_of_getElem? (i := 142) rfl))) (by decide) (backOf (W := 0) (rm_cp2 l Z a0 hw [] b k q mr h0 n0 Z0 pr2 pr3 pr4 pr5) hZ (hw _ (List.mem_of_getElem? (i := 142) rfl)) (hw _ (List.mem_of_getElem? (i := 141) rfl)) (by decide) (by decide)) (g := (mkF m 8 #[.val (.ref a)] [(.int (1 : Int32)), (.ref b)])) rfl (by rw [hml]; rfl) (argsL := [(.ref b), (.int (1 : Int32))]) (rest := []) (lenOf own_pd__28__5b_Ljava_2f_lang_2f_Object_3b_I_29__5b_Ljava_2f_lang_2f_Object_3b_ rfl) rfl (by show 2 * 0 + _ ≤ _; exact Nat.le_of_eq rfl) (hb hby own_d_jdk_38_method_16_8) (fun _ _ => ⟨rfl, e2, (by decide : 0 + 1 ≤ _), (by decide : 0 + 1 ≤ _)⟩)
  dsimp only [Pt.U, Pt.locs, Pt.cells, Pt.slots] at X3 l3 y3 z3 st3 hQ3
  rw [l3, y3, z3] at X3
  obtain ⟨r3, kr3, rfl, Nq3, K3, f4, f5⟩ := hQ3
  have N3 := Fr.app N0 Nq3
  refine own_Goes.st ?_ st3
  have ne6 : a ≠ r3 := Nat.ne_of_lt (Nat.lt_of_lt_of_le pr0.lt f4)
  have ne7 : b ≠ r3 := Nat.ne_of_lt (Nat.lt_of_lt_of_le pr2.lt f4)
  have ne8 : q ≠ r3 := Nat.ne_of_lt (Nat.lt_of_lt_of_le pr4.lt f4)
  have ge_r3 : n0 ≤ r3 := Nat.le_trans Z0 f4
  have sz_r3 : h0.size ≤ r3 := Nat.le_trans K0.1 f4
  have Z9 : n0 ≤ T3.heap.size := Nat.le_trans Z0 K3.1
  have K10 := K0.trans K3 all0
  show own_Goes p.tables e below P (T3.setTop (mkF m 11 #[.val (.ref a)] [(.ref r3)]))
  obtain ⟨fs, hr, hrun, hended, hW, hsame⟩ := X3.leave (v := some (.ref r3)) (fun h => by rw [Bd.returns] at h; cases h)
  exact own_Goes.fin _ _ (retOut X3 hx (t := (.array (.object "java/lang/Object"))) Bd.returns rfl (Or.inr (Or.inr (Or.inr (Or.inr ⟨rfl, rfl, rfl⟩)))) (hb hby own_d_jdk_38_method_16_11) hr) (hPP _ _ ⟨hrun, hended, _, _, rfl, (by show Q_toarr Z a b k q mr h0 n0 _ T3.heap _; exact ⟨r3, kr3, rfl, N3, K10, sz_r3, f5⟩), ⟨_, rfl⟩, hW, hsame.mono (by decide) (by decide)⟩)
theorem own_ef_rnn (m : MethodId) (x0 : Addr) : entryFrame m #[(.ref x0)] 1 = mkF m 0 #[.val (.ref x0)] [] := by first | (simp [entryFrame, mkF, argsToLocals, Value.category]; done) | rfl
theorem own_pn_java_util_Objects : plainName "java/util/Objects" = true := by first | (simp [plainName, overriddenIn]; done) | decide +kernel
theorem own_d_jdk_31_method_10_0 : decode jdk_31_method_10_code 0 = .ok (.aload_n 0, 1) := by decide +kernel
theorem own_d_jdk_31_method_10_1 : decode jdk_31_method_10_code 1 = .ok (.ifnonnull 11, 3) := by decide +kernel
theorem own_d_jdk_31_method_10_12 : decode jdk_31_method_10_code 12 = .ok (.aload_n 0, 1) := by decide +kernel
theorem own_d_jdk_31_method_10_13 : decode jdk_31_method_10_code 13 = .ok (.areturn, 1) := by decide +kernel
def Q_rnn (Z : State) (q : Addr) (h0 : Heap) (n0 : Nat) (rv_ : Option Value) (h_ : Heap) (L_ : List Loc) : Prop := rv_ = some (.ref q) ∧ Fr n0 L_ ∧ h_ = h0
set_option maxRecDepth 65536 in
set_option maxHeartbeats 40000000 in
theorem rm_rnn (l : Launch) (Z : State) (a0 : Array Value) (hw : ∀ d ∈ tables_1, d.before a0 Z = true) (ws : List Jvm.Cond) (q : Addr) (h0 : Heap) (n0 : Nat) (Z0 : n0 ≤ h0.size) :
    MetFree l (⟨"java/util/Objects", "requireNonNull", "(Ljava/lang/Object;)Ljava/lang/Object;"⟩ : MethodName) (head1 (Jvm.Cond.code (⟨"java/util/Objects", "requireNonNull", "(Ljava/lang/Object;)Ljava/lang/Object;"⟩ : MethodName) jdk_31_method_10_code 1 (some (.object "java/lang/Object")) :: ws) ({ frames := 0, cells := 0, slots := 0, locals := 0 } : Room)) (fun as_ U => as_ = #[(.ref q)] ∧ Z.Warmed39 U.vm ∧ U.heap = h0) (fun _ _ _ _ _ => True) (fun _ U o U' => ∃ rv_ L_, o = .returned rv_ ∧ Q_rnn Z q h0 n0 rv_ U'.heap L_ ∧ FrameEnd U o U' L_ ({ frames := 0, cells := 0, slots := 0, locals := 0 } : Room).cells ({ frames := 0, cells := 0, slots := 0, locals := 0 } : Room).slots) := by
  refine MetFree.of_bodySF (plainFor_of_name own_pn_java_util_Objects) hisR ?_
  intro p e s m args below meth c s₁ Bd hml0 hP hK
  obtain ⟨rfl, hZ, hh⟩ := hP
  have hx := Bd.exec
  have hby := Bd.bytes
  have hml : c.maxLocals = 1 := hml0
  have hown : s.vm.findClass "java/util/Objects" = some m.cls := findClass_of_methodNamed Bd.named
  have hnm := (name_of_methodNamed Bd.named Bd.method).1
  have X0 : Stand p l e ({ frames := 0, cells := 0, slots := 0, locals := 0 } : Room) s m #[(.ref q)] below meth c s₁ [] 0 0 := Stand.of_body Bd
  have e0 : s₁.heap = h0 := by rw [← hh, Bd.state]; rfl
  have N0 := Fr.nil n0
  refine own_Goes.of ?_
  refine own_Goes.nm (fun P hPP => ?_)
  refine own_Goes.st ?_ (fun _ k => castTop (own_ef_rnn m q) k)
  show own_Goes p.tables e below P (s₁.setTop (mkF m 0 #[.val (.ref q)] []))
  refine own_Goes.st ?_ (fun _ k => XS.aloadN X0.here hx rfl (hb hby own_d_jdk_31_method_10_0) rfl rfl k)
  show own_Goes p.tables e below P (s₁.setTop (mkF m 1 #[.val (.ref q)] [(.ref q)]))
  refine own_Goes.st ?_ (fun _ k => XS.ifnonnullYes X0.here hx rfl (pc0 := 1) (pc' := 12) rfl (hb hby own_d_jdk_31_method_10_1) rfl (by decide) (by decide) k)
  show own_Goes p.tables e below P (s₁.setTop (mkF m 12 #[.val (.ref q)] []))
  refine own_Goes.st ?_ (fun _ k => XS.aloadN X0.here hx rfl (hb hby own_d_jdk_31_method_10_12) rfl rfl k)
  show own_Goes p.tables e below P (s₁.setTop (mkF m 13 #[.val (.ref q)] [(.ref q)]))
  obtain ⟨fs, hr, hrun, hended, hW, hsame⟩ := X0.leave (v := some (.ref q)) (fun h => by rw [Bd.returns] at h; cases h)
  exact own_Goes.fin _ _ (retOut X0 hx (t := (.object "java/lang/Object")) Bd.returns rfl (Or.inr (Or.inr (Or.inr (Or.inr ⟨rfl, rfl, rfl⟩)))) (hb hby own_d_jdk_31_method_10_13) hr) (hPP _ _ ⟨hrun, hended, _, _, rfl, (by show Q_rnn Z q h0 n0 _ s₁.heap _; rw [e0]; exact ⟨rfl, N0, rfl⟩), ⟨_, rfl⟩, hW, hsame.mono (by decide) (by decide)⟩)
theorem own_ef_l12 (m : MethodId) (x0 : Addr) (x1 : Addr) : entryFrame m #[(.ref x0), (.ref x1)] 2 = mkF m 0 #[.val (.ref x0), .val (.ref x1)] [] := by first | (simp [entryFrame, mkF, argsToLocals, Value.category]; done) | rfl
theorem own_pn_java_util_ImmutableCollections_List12 : plainName "java/util/ImmutableCollections$List12" = true := by first | (simp [plainName, overriddenIn]; done) | decide +kernel
theorem own_d_jdk_44_method_1_0 : decode jdk_44_method_1_code 0 = .ok (.aload_n 0, 1) := by decide +kernel
theorem own_d_jdk_44_method_1_1 : decode jdk_44_method_1_code 1 = .ok (.invokespecial 1, 3) := by decide +kernel
theorem own_d_jdk_44_method_1_4 : decode jdk_44_method_1_code 4 = .ok (.aload_n 0, 1) := by decide +kernel
theorem own_d_jdk_44_method_1_5 : decode jdk_44_method_1_code 5 = .ok (.aload_n 1, 1) := by decide +kernel
theorem own_pd__28_Ljava_2f_lang_2f_Object_3b__29_Ljava_2f_lang_2f_Object_3b_ : parseMethodDescriptor "(Ljava/lang/Object;)Ljava/lang/Object;" = some ⟨[(.object "java/lang/Object")], some (.object "java/lang/Object")⟩ := by decide +kernel
theorem own_d_jdk_44_method_1_6 : decode jdk_44_method_1_code 6 = .ok (.invokestatic 7, 3) := by decide +kernel
theorem own_d_jdk_44_method_1_9 : decode jdk_44_method_1_code 9 = .ok (.putfield 13, 3) := by decide +kernel
theorem own_d_jdk_44_method_1_12 : decode jdk_44_method_1_code 12 = .ok (.aload_n 0, 1) := by decide +kernel
theorem own_d_jdk_44_method_1_13 : decode jdk_44_method_1_code 13 = .ok (.getstatic 19, 3) := by decide +kernel
theorem own_d_jdk_44_method_1_16 : decode jdk_44_method_1_code 16 = .ok (.putfield 24, 3) := by decide +kernel
theorem own_d_jdk_44_method_1_19 : decode jdk_44_method_1_code 19 = .ok (.return_, 1) := by decide +kernel
def Q_l12 (Z : State) (a : Addr) (q : Addr) (em : Addr) (u1 : Value) (u2 : Value) (h0 : Heap) (n0 : Nat) (rv_ : Option Value) (h_ : Heap) (L_ : List Loc) : Prop := rv_ = none ∧ Fr n0 L_ ∧ Keep h0 h_ [a] ∧ (Exa Z h_ a "java/util/ImmutableCollections$List12")
set_option maxRecDepth 65536 in
set_option maxHeartbeats 40000000 in
theorem rm_l12 (l : Launch) (Z : State) (a0 : Array Value) (hw : ∀ d ∈ tables_1, d.before a0 Z = true) (ws : List Jvm.Cond) (a : Addr) (q : Addr) (em : Addr) (u1 : Value) (u2 : Value) (h0 : Heap) (n0 : Nat) (Z0 : n0 ≤ h0.size) (pr0 : Exa Z h0 a "java/util/ImmutableCollections$List12") (pr1 : Fld Z h0 a "java/util/ImmutableCollections$List12" "e0" "Ljava/lang/Object;" u1) (pr2 : Fld Z h0 a "java/util/ImmutableCollections$List12" "e1" "Ljava/lang/Object;" u2) (pr3 : n0 ≤ a) (pr4 : Sta Z Z.heap "java/util/ImmutableCollections" "EMPTY" "Ljava/lang/Object;" (.ref em)) (pr5 : Old Z n0 h0) :
    MetFree l (⟨"java/util/ImmutableCollections$List12", "<init>", "(Ljava/lang/Object;)V"⟩ : MethodName) (head1 (Jvm.Cond.code (⟨"java/util/ImmutableCollections$List12", "<init>", "(Ljava/lang/Object;)V"⟩ : MethodName) jdk_44_method_1_code 2 none :: ws) ({ frames := 4, cells := 0, slots := 0, locals := 48 } : Room)) (fun as_ U => as_ = #[(.ref a), (.ref q)] ∧ Z.Warmed39 U.vm ∧ U.heap = h0) (fun _ _ _ _ _ => True) (fun _ U o U' => ∃ rv_ L_, o = .returned rv_ ∧ Q_l12 Z a q em u1 u2 h0 n0 rv_ U'.heap L_ ∧ FrameEnd U o U' L_ ({ frames := 4, cells := 0, slots := 0, locals := 48 } : Room).cells ({ frames := 4, cells := 0, slots := 0, locals := 48 } : Room).slots) := by
  refine MetFree.of_bodySF (plainFor_of_name own_pn_java_util_ImmutableCollections_List12) hisR ?_
  intro p e s m args below meth c s₁ Bd hml0 hP hK
  obtain ⟨rfl, hZ, hh⟩ := hP
  have hx := Bd.exec
  have hby := Bd.bytes
  have hml : c.maxLocals = 2 := hml0
  have hown : s.vm.findClass "java/util/ImmutableCollections$List12" = some m.cls := findClass_of_methodNamed Bd.named
  have hnm := (name_of_methodNamed Bd.named Bd.method).1
  have X0 : Stand p l e ({ frames := 4, cells := 0, slots := 0, locals := 48 } : Room) s m #[(.ref a), (.ref q)] below meth c s₁ [] 0 0 := Stand.of_body Bd
  have e0 : s₁.heap = h0 := by rw [← hh, Bd.state]; rfl
  have N0 := Fr.nil n0
  refine own_Goes.of ?_
  refine own_Goes.nm (fun P hPP => ?_)
  refine own_Goes.st ?_ (fun _ k => castTop (own_ef_l12 m a q) k)
  have K0 : Keep h0 h0 [a] := Keep.refl _ _
  show own_Goes p.tables e below P (s₁.setTop (mkF m 0 #[.val (.ref a), .val (.ref q)] []))
  refine own_Goes.st ?_ (fun _ k => XS.aloadN X0.here hx rfl (hb hby own_d_jdk_44_method_1_0) rfl rfl k)
  show own_Goes p.tables e below P (s₁.setTop (mkF m 1 #[.val (.ref a), .val (.ref q)] [(.ref a)]))
  obtain ⟨_, _, ⟨T1, L1, k1, n1⟩, -, X1, ⟨Lc1, hQ1, l1, y1, z1⟩, st1⟩ := X0.specialBack hx (y := (⟨"java/util/ImmutableCollections$AbstractImmutableList", "<init>", "()V"⟩ : MethodName)) rfl hown (mvT hZ (hw _ (List.mem_of_getElem? (i := 171) rfl))) (mvT hZ (hw _ (List.mem_of_getElem? (i := 172) rfl))) (mvT hZ (hw _ (List.mem_of_getElem? (i := 176) rfl))) (by decide) (backOf (W := 0) (rm_ail l Z a0 hw [] a h0 n0 Z0) hZ (hw _ (List.mem_of_getElem? (i := 176) rfl)) (hw _ (List.mem_of_getElem? (i := 175) rfl)) (by decide) (by decide)) (g := (mkF m 1 #[.val (.ref a), .val (.ref q)] [(.ref a)])) rfl (by rw [hml]; rfl) (Steps.refl _) (a := a) (argsL := []) (rest := []) (lenOf own_pd__28__29_V rfl) rfl (by show 2 * 0 + _ ≤ _; exact Nat.le_of_eq rfl) (hb hby own_d_jdk_44_method_1_1) (fun _ _ => ⟨rfl, e0, (by decide : 0 + 0 ≤ _), (by decide : 0 + 0 ≤ _)⟩)
  dsimp only [Pt.U, Pt.locs, Pt.cells, Pt.slots] at X1 l1 y1 z1 st1 hQ1
  rw [l1, y1, z1] at X1
  obtain ⟨rfl, Nq1, e1⟩ := hQ1
  have N1 := Fr.app N0 Nq1
  refine own_Goes.tr st1 ?_
  show own_Goes p.tables e below P (T1.setTop (mkF m 4 #[.val (.ref a), .val (.ref q)] []))
  refine own_Goes.st ?_ (fun _ k => XS.aloadN X1.here hx rfl (hb hby own_d_jdk_44_method_1_4) rfl rfl k)
  show own_Goes p.tables e below P (T1.setTop (mkF m 5 #[.val (.ref a), .val (.ref q)] [(.ref a)]))
  refine own_Goes.st ?_ (fun _ k => XS.aloadN X1.here hx rfl (hb hby own_d_jdk_44_method_1_5) rfl rfl k)
  show own_Goes p.tables e below P (T1.setTop (mkF m 6 #[.val (.ref a), .val (.ref q)] [(.ref q), (.ref a)]))
  obtain ⟨_, _, ⟨T2, L2, k2, n2⟩, -, X2, ⟨Lc2, hQ2, l2, y2, z2⟩, st2⟩ := Jvm.LawKit.callS X1 hx (y := (⟨"java/util/Objects", "requireNonNull", "(Ljava/lang/Object;)Ljava/lang/Object;"⟩ : MethodName)) hown (mvT hZ (hw _ (List.mem_of_getElem? (i := 185) rfl))) (mvT hZ (hw _ (List.mem_of_getElem? (i := 186) rfl))) (mvT hZ (hw _ (List.mem_of_getElem? (i := 187) rfl))) (mvT hZ (hw _ (List.mem_of_getElem? (i := 188) rfl))) (by decide) (backOf (W := 1) (rm_rnn l Z a0 hw [] q h0 n0 Z0) hZ (hw _ (List.mem_of_getElem? (i := 188) rfl)) (hw _ (List.mem_of_getElem? (i := 187) rfl)) (by decide) (by decide)) (g := (mkF m 6 #[.val (.ref a), .val (.ref q)] [(.ref q), (.ref a)])) rfl (by rw [hml]; rfl) (argsL := [(.ref q)]) (rest := [(.ref a)]) (lenOf own_pd__28_Ljava_2f_lang_2f_Object_3b__29_Ljava_2f_lang_2f_Object_3b_ rfl) rfl (by show 2 * 0 + _ ≤ _; exact Nat.le_of_eq rfl) (hb hby own_d_jdk_44_method_1_6) (fun _ _ => ⟨rfl, e1, (by decide : 0 + 0 ≤ _), (by decide : 0 + 0 ≤ _)⟩)
  dsimp only [Pt.U, Pt.locs, Pt.cells, Pt.slots] at X2 l2 y2 z2 st2 hQ2
  rw [l2, y2, z2] at X2
  obtain ⟨rfl, Nq2, e2⟩ := hQ2
  have N2 := Fr.app N1 Nq2
  refine own_Goes.st ?_ st2
  show own_Goes p.tables e below P (T2.setTop (mkF m 9 #[.val (.ref a), .val (.ref q)] [(.ref q), (.ref a)]))
  obtain ⟨T3, h3, X3, e3, W3, st3⟩ := putF X2 hx hZ hown (host := "") (Or.inl (hw _ (List.mem_of_getElem? (i := 189) rfl))) Via.refl e2 pr1 pr0 (Or.inr ⟨(hw _ (List.mem_of_getElem? (i := 190) rfl)), rfl, hnm⟩) (hw _ (List.mem_of_getElem? (i := 165) rfl)) (ty := (.object "java/lang/Object")) (by decide) rfl rfl (g := (mkF m 9 #[.val (.ref a), .val (.ref q)] [(.ref q), (.ref a)])) rfl rfl (hb hby own_d_jdk_44_method_1_9)
  refine own_Goes.st ?_ st3
  have F4 : Fld Z h3 a "java/util/ImmutableCollections$List12" "e0" "Ljava/lang/Object;" (.ref q) := pr1.same W3
  have Z5 : n0 ≤ h3.size := by rw [W3.size]; exact Z0
  have K6 := K0.wr W3 (Or.inl (List.mem_of_getElem? (i := 0) rfl))
  have O7 := pr5.wr W3 pr3
  have N8 := Fr.snoc X3 N2 pr3
  show own_Goes p.tables e below P (T3.setTop (mkF m 12 #[.val (.ref a), .val (.ref q)] []))
  refine own_Goes.st ?_ (fun _ k => XS.aloadN X3.here hx rfl (hb hby own_d_jdk_44_method_1_12) rfl rfl k)
  show own_Goes p.tables e below P (T3.setTop (mkF m 13 #[.val (.ref a), .val (.ref q)] [(.ref a)]))
  obtain ⟨T9, X9, e9, st9⟩ := getS2 X3 hx hZ hown (Or.inr (hw _ (List.mem_of_getElem? (i := 191) rfl))) Via.refl e3 (pr4.ext O7.2) (g := (mkF m 13 #[.val (.ref a), .val (.ref q)] [(.ref a)])) rfl (hb hby own_d_jdk_44_method_1_13)
  refine own_Goes.st ?_ st9
  show own_Goes p.tables e below P (T9.setTop (mkF m 16 #[.val (.ref a), .val (.ref q)] [(.ref em), (.ref a)]))
  have F10 : Fld Z h3 a "java/util/ImmutableCollections$List12" "e1" "Ljava/lang/Object;" u2 := (pr2.other W3 (Or.inr (slot_ne (Or.inr (hw _ (List.mem_of_getElem? (i := 193) rfl))) (Or.inr (hw _ (List.mem_of_getElem? (i := 190) rfl))) (by decide) (t := (.object "java/lang/Object")) (t' := (.object "java/lang/Object")) (by decide) (by decide))))
  have F11 : Exa Z h3 a "java/util/ImmutableCollections$List12" := (pr0.wr W3)
  obtain ⟨T12, h12, X12, e12, W12, st12⟩ := putF X9 hx hZ hown (host := "") (Or.inl (hw _ (List.mem_of_getElem? (i := 192) rfl))) Via.refl e9 F10 F11 (Or.inr ⟨(hw _ (List.mem_of_getElem? (i := 193) rfl)), rfl, hnm⟩) (hw _ (List.mem_of_getElem? (i := 165) rfl)) (ty := (.object "java/lang/Object")) (by decide) rfl rfl (g := (mkF m 16 #[.val (.ref a), .val (.ref q)] [(.ref em), (.ref a)])) rfl rfl (hb hby own_d_jdk_44_method_1_16)
  refine own_Goes.st ?_ st12
  have F13 : Fld Z h12 a "java/util/ImmutableCollections$List12" "e1" "Ljava/lang/Object;" (.ref em) := F10.same W12
  have Z14 : n0 ≤ h12.size := by rw [W12.size]; exact Z5
  have K15 := K6.wr W12 (Or.inl (List.mem_of_getElem? (i := 0) rfl))
  have O16 := O7.wr W12 pr3
  have N17 := Fr.snoc X12 N8 pr3
  show own_Goes p.tables e below P (T12.setTop (mkF m 19 #[.val (.ref a), .val (.ref q)] []))
  obtain ⟨fs, hr, hrun, hended, hW, hsame⟩ := X12.leave (v := none) (fun _ => rfl)
  have F18 : Exa Z h12 a "java/util/ImmutableCollections$List12" := (F11.wr W12)
  exact own_Goes.fin _ _ (X12.returnOut hx Bd.returns (hb hby own_d_jdk_44_method_1_19) hr) (hPP _ _ ⟨hrun, hended, _, _, rfl, (by show Q_l12 Z a q em u1 u2 h0 n0 _ T12.heap _; rw [e12]; exact ⟨rfl, N17, K15, F18⟩), ⟨_, rfl⟩, hW, hsame.mono (by decide) (by decide)⟩)
theorem own_ef_lof1 (m : MethodId) (x0 : Addr) : entryFrame m #[(.ref x0)] 2 = mkF m 0 #[.val (.ref x0), .unset] [] := by first | (simp [entryFrame, mkF, argsToLocals, Value.category]; done) | rfl
theorem own_d_jdk_40_method_47_0 : decode jdk_40_method_47_code 0 = .ok (.aload_n 0, 1) := by decide +kernel
theorem own_d_jdk_40_method_47_1 : decode jdk_40_method_47_code 1 = .ok (.arraylength, 1) := by decide +kernel
theorem own_d_jdk_40_method_47_2 : decode jdk_40_method_47_code 2 = .ok (.tableswitch 57 0 2 #[26, 32, 43], 26) := by decide +kernel
theorem own_d_jdk_40_method_47_34 : decode jdk_40_method_47_code 34 = .ok (.new 96, 3) := by decide +kernel
theorem own_d_jdk_40_method_47_37 : decode jdk_40_method_47_code 37 = .ok (.dup, 1) := by decide +kernel
theorem own_d_jdk_40_method_47_38 : decode jdk_40_method_47_code 38 = .ok (.aload_n 0, 1) := by decide +kernel
theorem own_d_jdk_40_method_47_39 : decode jdk_40_method_47_code 39 = .ok (.iconst 0, 1) := by decide +kernel
theorem own_d_jdk_40_method_47_40 : decode jdk_40_method_47_code 40 = .ok (.aaload, 1) := by decide +kernel
theorem own_pd__28_Ljava_2f_lang_2f_Object_3b__29_V : parseMethodDescriptor "(Ljava/lang/Object;)V" = some ⟨[(.object "java/lang/Object")], none⟩ := by decide +kernel
theorem own_d_jdk_40_method_47_41 : decode jdk_40_method_47_code 41 = .ok (.invokespecial 98, 3) := by decide +kernel
theorem own_d_jdk_40_method_47_44 : decode jdk_40_method_47_code 44 = .ok (.areturn, 1) := by decide +kernel
def Q_lof1 (Z : State) (r : Addr) (kr : ClassId) (q : Addr) (em : Addr) (h0 : Heap) (n0 : Nat) (rv_ : Option Value) (h_ : Heap) (L_ : List Loc) : Prop := ∃ (t : Addr), rv_ = some (.ref t) ∧ Fr n0 L_ ∧ Keep h0 h_ [] ∧ (h0.size ≤ t)
set_option maxRecDepth 65536 in
set_option maxHeartbeats 40000000 in
theorem rm_lof1 (l : Launch) (Z : State) (a0 : Array Value) (hw : ∀ d ∈ tables_1, d.before a0 Z = true) (ws : List Jvm.Cond) (r : Addr) (kr : ClassId) (q : Addr) (em : Addr) (h0 : Heap) (n0 : Nat) (Z0 : n0 ≤ h0.size) (pr0 : Arv Z h0 r kr (.object "java/lang/Object") (1 : Int32) [(.ref q)] .null) (pr1 : Sta Z Z.heap "java/util/ImmutableCollections" "EMPTY" "Ljava/lang/Object;" (.ref em)) (pr2 : Old Z n0 h0) :
    MetFree l (⟨"java/util/List", "of", "([Ljava/lang/Object;)Ljava/util/List;"⟩ : MethodName) (head1 (Jvm.Cond.code (⟨"java/util/List", "of", "([Ljava/lang/Object;)Ljava/util/List;"⟩ : MethodName) jdk_40_method_47_code 2 (some (.object "java/util/List")) :: ws) ({ frames := 5, cells := 1, slots := 2, locals := 62 } : Room)) (fun as_ U => as_ = #[(.ref r)] ∧ Z.Warmed39 U.vm ∧ U.heap = h0) (fun _ _ _ _ _ => True) (fun _ U o U' => ∃ rv_ L_, o = .returned rv_ ∧ Q_lof1 Z r kr q em h0 n0 rv_ U'.heap L_ ∧ FrameEnd U o U' L_ ({ frames := 5, cells := 1, slots := 2, locals := 62 } : Room).cells ({ frames := 5, cells := 1, slots := 2, locals := 62 } : Room).slots) := by
  refine MetFree.of_bodySF (plainFor_of_name own_pn_java_util_List) hisR ?_
  intro p e s m args below meth c s₁ Bd hml0 hP hK
  obtain ⟨rfl, hZ, hh⟩ := hP
  have hx := Bd.exec
  have hby := Bd.bytes
  have hml : c.maxLocals = 2 := hml0
  have hown : s.vm.findClass "java/util/List" = some m.cls := findClass_of_methodNamed Bd.named
  have hnm := (name_of_methodNamed Bd.named Bd.method).1
  have X0 : Stand p l e ({ frames := 5, cells := 1, slots := 2, locals := 62 } : Room) s m #[(.ref r)] below meth c s₁ [] 0 0 := Stand.of_body Bd
  have e0 : s₁.heap = h0 := by rw [← hh, Bd.state]; rfl
  have N0 := Fr.nil n0
  refine own_Goes.of ?_
  refine own_Goes.nm (fun P hPP => ?_)
  refine own_Goes.st ?_ (fun _ k => castTop (own_ef_lof1 m r) k)
  have K0 : Keep h0 h0 [] := Keep.refl _ _
  show own_Goes p.tables e below P (s₁.setTop (mkF m 0 #[.val (.ref r), .unset] []))
  refine own_Goes.st ?_ (fun _ k => XS.aloadN X0.here hx rfl (hb hby own_d_jdk_40_method_47_0) rfl rfl k)
  show own_Goes p.tables e below P (s₁.setTop (mkF m 1 #[.val (.ref r), .unset] [(.ref r)]))
  have Vc1 := pr0
  obtain ⟨cl1, Ar1, qc1, S1, Nn1, Hs1, Gs1⟩ := Vc1
  refine own_Goes.st ?_ (X0.arraylength hx (by rw [e0]; exact Ar1.1) (State.isArrayOf_alike hZ.alike Ar1.2.1) (g := (mkF m 1 #[.val (.ref r), .unset] [(.ref r)])) rfl rfl (hb hby own_d_jdk_40_method_47_1))
  rw [len_of S1 Nn1]
  show own_Goes p.tables e below P (s₁.setTop (mkF m 2 #[.val (.ref r), .unset] [(.int (1 : Int32))]))
  refine own_Goes.st ?_ (fun _ k => XS.tswIn X0.here hx rfl (pc0 := 2) (pc' := 34) rfl (hb hby own_d_jdk_40_method_47_2) rfl (by decide) rfl (by decide) (by decide) k)
  show own_Goes p.tables e below P (s₁.setTop (mkF m 34 #[.val (.ref r), .unset] []))
  obtain ⟨T2, h2, X2, e2, E2, A2, D2, -, st2⟩ := newO X0 hx hZ hown (hw _ (List.mem_of_getElem? (i := 164) rfl)) (hw _ (List.mem_of_getElem? (i := 165) rfl)) (hw _ (List.mem_of_getElem? (i := 166) rfl)) e0 (g := (mkF m 34 #[.val (.ref r), .unset] [])) rfl (hb hby own_d_jdk_40_method_47_34) (by decide) (by decide)
  obtain ⟨a2, g2⟩ : ∃ z, z = h0.size := ⟨_, rfl⟩
  rw [← g2] at A2 D2 st2
  have ne3 : r ≠ a2 := Nat.ne_of_lt (Nat.lt_of_lt_of_eq pr0.lt g2.symm)
  have ge_a2 : n0 ≤ a2 := Nat.le_trans Z0 (Nat.le_of_eq g2.symm)
  have sz_a2 : h0.size ≤ a2 := Nat.le_trans K0.1 (Nat.le_of_eq g2.symm)
  refine own_Goes.st ?_ st2
  have Z4 : n0 ≤ h2.size := Nat.le_trans Z0 E2.1
  have K5 := K0.ext E2
  have O6 := pr2.ext E2
  have F7 : Fld Z h2 a2 "java/util/ImmutableCollections$List12" "e0" "Ljava/lang/Object;" .null := D2 (Or.inr (hw _ (List.mem_of_getElem? (i := 190) rfl))) (ty := (.object "java/lang/Object")) (by decide)
  have F8 : Fld Z h2 a2 "java/util/ImmutableCollections$List12" "e1" "Ljava/lang/Object;" .null := D2 (Or.inr (hw _ (List.mem_of_getElem? (i := 193) rfl))) (ty := (.object "java/lang/Object")) (by decide)
  show own_Goes p.tables e below P (T2.setTop (mkF m 37 #[.val (.ref r), .unset] [(.ref a2)]))
  refine own_Goes.st ?_ (fun _ k => XS.dup X2.here hx rfl (hb hby own_d_jdk_40_method_47_37) rfl rfl k)
  show own_Goes p.tables e below P (T2.setTop (mkF m 38 #[.val (.ref r), .unset] [(.ref a2), (.ref a2)]))
  refine own_Goes.st ?_ (fun _ k => XS.aloadN X2.here hx rfl (hb hby own_d_jdk_40_method_47_38) rfl rfl k)
  show own_Goes p.tables e below P (T2.setTop (mkF m 39 #[.val (.ref r), .unset] [(.ref r), (.ref a2), (.ref a2)]))
  refine own_Goes.st ?_ (fun _ k => XS.iconst X2.here hx rfl (hb hby own_d_jdk_40_method_47_39) k)
  show own_Goes p.tables e below P (T2.setTop (mkF m 40 #[.val (.ref r), .unset] [(.int (0 : Int32)), (.ref r), (.ref a2), (.ref a2)]))
  have F9 : Arv Z h2 r kr (.object "java/lang/Object") (1 : Int32) [(.ref q)] .null := (pr0.ext E2)
  have Vc10 := F9
  obtain ⟨cl10, Ar10, qc10, S10, Nn10, Hs10, Gs10⟩ := Vc10
  have hin11 : ¬ ((0 : Int32) < 0 ∨ cl10.slots.size ≤ ((0 : Int32)).toNatClampNeg) := inb_of S10 ⟨by decide, by decide⟩
  refine own_Goes.st ?_ (X2.aaload hx (j := (0 : Int32)) (v := (.ref q)) (by rw [e2]; exact Ar10.1) (State.isArrayOf_alike hZ.alike Ar10.2.1) rfl Ar10.2.2 hin11 (Has.at Hs10 hin11 rfl) (g := (mkF m 40 #[.val (.ref r), .unset] [(.int (0 : Int32)), (.ref r), (.ref a2), (.ref a2)])) rfl rfl (hb hby own_d_jdk_40_method_47_40))
  show own_Goes p.tables e below P (T2.setTop (mkF m 41 #[.val (.ref r), .unset] [(.ref q), (.ref a2), (.ref a2)]))
  obtain ⟨_, _, ⟨T12, L12, k12, n12⟩, -, X12, ⟨Lc12, hQ12, l12, y12, z12⟩, st12⟩ := X2.specialBack hx (y := (⟨"java/util/ImmutableCollections$List12", "<init>", "(Ljava/lang/Object;)V"⟩ : MethodName)) rfl hown (mvT hZ (hw _ (List.mem_of_getElem? (i := 167) rfl))) (mvT hZ (hw _ (List.mem_of_getElem? (i := 168) rfl))) (mvT hZ (hw _ (List.mem_of_getElem? (i := 170) rfl))) (by decide) (backOf (W := 1) (rm_l12 l Z a0 hw [] a2 q em .null .null h2 n0 Z4 A2 F7 F8 ge_a2 pr1 O6) hZ (hw _ (List.mem_of_getElem? (i := 170) rfl)) (hw _ (List.mem_of_getElem? (i := 166) rfl)) (by decide) (by decide)) (g := (mkF m 41 #[.val (.ref r), .unset] [(.ref q), (.ref a2), (.ref a2)])) rfl (by rw [hml]; rfl) (Steps.refl _) (a := a2) (argsL := [(.ref q)]) (rest := [(.ref a2)]) (lenOf own_pd__28_Ljava_2f_lang_2f_Object_3b__29_V rfl) rfl (by show 2 * 0 + _ ≤ _; exact Nat.le_of_eq rfl) (hb hby own_d_jdk_40_method_47_41) (fun _ _ => ⟨rfl, e2, (by decide : 1 + 0 ≤ _), (by decide : 2 + 0 ≤ _)⟩)
  dsimp only [Pt.U, Pt.locs, Pt.cells, Pt.slots] at X12 l12 y12 z12 st12 hQ12
  rw [l12, y12, z12] at X12
  obtain ⟨rfl, Nq12, K12, f13⟩ := hQ12
  have N12 := Fr.app N0 Nq12
  refine own_Goes.tr st12 ?_
  have Z14 : n0 ≤ T12.heap.size := Nat.le_trans Z4 K12.1
  have K15 := K5.trans K12 (allS (Or.inr sz_a2) all0)
  have O16 := O6.keep K12 (allS ge_a2 all0)
  show own_Goes p.tables e below P (T12.setTop (mkF m 44 #[.val (.ref r), .unset] [(.ref a2)]))
  obtain ⟨fs, hr, hrun, hended, hW, hsame⟩ := X12.leave (v := some (.ref a2)) (fun h => by rw [Bd.returns] at h; cases h)
  exact own_Goes.fin _ _ (retOut X12 hx (t := (.object "java/util/List")) Bd.returns rfl (Or.inr (Or.inr (Or.inr (Or.inr ⟨rfl, rfl, rfl⟩)))) (hb hby own_d_jdk_40_method_47_44) hr) (hPP _ _ ⟨hrun, hended, _, _, rfl, (by show Q_lof1 Z r kr q em h0 n0 _ T12.heap _; exact ⟨a2, rfl, N12, K15, sz_a2⟩), ⟨_, rfl⟩, hW, hsame.mono (by decide) (by decide)⟩)
theorem own_ef_lc1 (m : MethodId) (x0 : Addr) : entryFrame m #[(.ref x0)] 2 = mkF m 0 #[.val (.ref x0), .unset] [] := by first | (simp [entryFrame, mkF, argsToLocals, Value.category]; done) | rfl
theorem own_d_jdk_56_method_3_44 : decode jdk_56_method_3_code 44 = .ok (.aload_n 0, 1) := by decide +kernel
theorem own_d_jdk_56_method_3_45 : decode jdk_56_method_3_code 45 = .ok (.invokeinterface 30 1, 5) := by decide +kernel
theorem own_pd__28__5b_Ljava_2f_lang_2f_Object_3b__29_Ljava_2f_util_2f_List_3b_ : parseMethodDescriptor "([Ljava/lang/Object;)Ljava/util/List;" = some ⟨[(.array (.object "java/lang/Object"))], some (.object "java/util/List")⟩ := by decide +kernel
theorem own_d_jdk_56_method_3_50 : decode jdk_56_method_3_code 50 = .ok (.invokestatic 34, 3) := by decide +kernel
theorem own_d_jdk_56_method_3_53 : decode jdk_56_method_3_code 53 = .ok (.areturn, 1) := by decide +kernel
def Q_lc1 (Z : State) (a : Addr) (b : Addr) (k : ClassId) (q : Addr) (mr : Addr) (em : Addr) (h0 : Heap) (n0 : Nat) (rv_ : Option Value) (h_ : Heap) (L_ : List Loc) : Prop := ∃ (t : Addr), rv_ = some (.ref t) ∧ Fr n0 L_ ∧ Keep h0 h_ [] ∧ (h0.size ≤ t)
set_option maxRecDepth 65536 in
set_option maxHeartbeats 40000000 in
theorem rm_lc1 (l : Launch) (Z : State) (a0 : Array Value) (hw : ∀ d ∈ tables_1, d.before a0 Z = true) (ws : List Jvm.Cond) (a : Addr) (b : Addr) (k : ClassId) (q : Addr) (mr : Addr) (em : Addr) (h0 : Heap) (n0 : Nat) (Z0 : n0 ≤ h0.size) (pr0 : Exa Z h0 a "java/util/ArrayList") (pr1 : Fld Z h0 a "java/util/ArrayList" "elementData" "[Ljava/lang/Object;" (.ref b)) (pr2 : Fld Z h0 a "java/util/ArrayList" "size" "I" (.int (1 : Int32))) (pr3 : Arv Z h0 b k (.object "java/lang/Object") (10 : Int32) [(.ref q), .null, .null, .null, .null, .null, .null, .null, .null, .null] .null) (pr4 : Exa Z h0 b "[Ljava/lang/Object;") (pr5 : Exa Z h0 q "com/example/larder/larder/BooleanValue") (pr6 : own_Mir Z "[Ljava/lang/Object;" mr) (pr7 : Sta Z Z.heap "java/util/ImmutableCollections" "EMPTY" "Ljava/lang/Object;" (.ref em)) (pr8 : Old Z n0 h0) :
    MetFree l (⟨"java/util/ImmutableCollections", "listCopy", "(Ljava/util/Collection;)Ljava/util/List;"⟩ : MethodName) (head1 (Jvm.Cond.code (⟨"java/util/ImmutableCollections", "listCopy", "(Ljava/util/Collection;)Ljava/util/List;"⟩ : MethodName) jdk_56_method_3_code 2 (some (.object "java/util/List")) :: ws) ({ frames := 6, cells := 2, slots := 3, locals := 75 } : Room)) (fun as_ U => as_ = #[(.ref a)] ∧ Z.Warmed39 U.vm ∧ U.heap = h0) (fun _ _ _ _ _ => True) (fun _ U o U' => ∃ rv_ L_, o = .returned rv_ ∧ Q_lc1 Z a b k q mr em h0 n0 rv_ U'.heap L_ ∧ FrameEnd U o U' L_ ({ frames := 6, cells := 2, slots := 3, locals := 75 } : Room).cells ({ frames := 6, cells := 2, slots := 3, locals := 75 } : Room).slots) := by
  refine MetFree.of_bodySF (plainFor_of_name own_pn_java_util_ImmutableCollections) hisR ?_
  intro p e s m args below meth c s₁ Bd hml0 hP hK
  obtain ⟨rfl, hZ, hh⟩ := hP
  have hx := Bd.exec
  have hby := Bd.bytes
  have hml : c.maxLocals = 2 := hml0
  have hown : s.vm.findClass "java/util/ImmutableCollections" = some m.cls := findClass_of_methodNamed Bd.named
  have hnm := (name_of_methodNamed Bd.named Bd.method).1
  have X0 : Stand p l e ({ frames := 6, cells := 2, slots := 3, locals := 75 } : Room) s m #[(.ref a)] below meth c s₁ [] 0 0 := Stand.of_body Bd
  have e0 : s₁.heap = h0 := by rw [← hh, Bd.state]; rfl
  have N0 := Fr.nil n0
  refine own_Goes.of ?_
  refine own_Goes.nm (fun P hPP => ?_)
  refine own_Goes.st ?_ (fun _ k => castTop (own_ef_lc1 m a) k)
  have K0 : Keep h0 h0 [] := Keep.refl _ _
  show own_Goes p.tables e below P (s₁.setTop (mkF m 0 #[.val (.ref a), .unset] []))
  refine own_Goes.st ?_ (fun _ k => XS.aloadN X0.here hx rfl (hb hby own_d_jdk_56_method_3_0) rfl rfl k)
  show own_Goes p.tables e below P (s₁.setTop (mkF m 1 #[.val (.ref a), .unset] [(.ref a)]))
  obtain ⟨T1, X1, e1, st1⟩ := instNo X0 hx hZ hown (hw _ (List.mem_of_getElem? (i := 46) rfl)) e0 pr0 (own_NSno (hw _ (List.mem_of_getElem? (i := 47) rfl)) (own_found_ins (hw _ (List.mem_of_getElem? (i := 165) rfl))) (NS.step (hw _ (List.mem_of_getElem? (i := 47) rfl)) (NS.step (hw _ (List.mem_of_getElem? (i := 48) rfl)) (NS.step (hw _ (List.mem_of_getElem? (i := 49) rfl)) (own_NSroot (hw _ (List.mem_of_getElem? (i := 50) rfl)) (own_found_ins (hw _ (List.mem_of_getElem? (i := 165) rfl))) (by decide)) (by decide)) (by decide)) (by decide)) (by decide)) (g := (mkF m 1 #[.val (.ref a), .unset] [(.ref a)])) rfl rfl (hb hby own_d_jdk_56_method_3_1)
  refine own_Goes.st ?_ st1
  show own_Goes p.tables e below P (T1.setTop (mkF m 4 #[.val (.ref a), .unset] [(.int (0 : Int32))]))
  refine own_Goes.st ?_ (fun _ k => XS.ifNo X1.here hx rfl (hb hby own_d_jdk_56_method_3_4) rfl ((if0 _ _).trans (teq (by decide : (0 : Int32) = (0 : Int32))).2) k)
  show own_Goes p.tables e below P (T1.setTop (mkF m 7 #[.val (.ref a), .unset] []))
  refine own_Goes.st ?_ (fun _ k => XS.aloadN X1.here hx rfl (hb hby own_d_jdk_56_method_3_7) rfl rfl k)
  show own_Goes p.tables e below P (T1.setTop (mkF m 8 #[.val (.ref a), .unset] [(.ref a)]))
  obtain ⟨T2, X2, e2, st2⟩ := instNo X1 hx hZ hown (hw _ (List.mem_of_getElem? (i := 51) rfl)) e1 pr0 (own_NSno (hw _ (List.mem_of_getElem? (i := 47) rfl)) (own_found_sup (hw _ (List.mem_of_getElem? (i := 90) rfl))) (NS.step (hw _ (List.mem_of_getElem? (i := 47) rfl)) (NS.step (hw _ (List.mem_of_getElem? (i := 48) rfl)) (NS.step (hw _ (List.mem_of_getElem? (i := 49) rfl)) (own_NSroot (hw _ (List.mem_of_getElem? (i := 50) rfl)) (own_found_sup (hw _ (List.mem_of_getElem? (i := 90) rfl))) (by decide)) (by decide)) (by decide)) (by decide)) (by decide)) (g := (mkF m 8 #[.val (.ref a), .unset] [(.ref a)])) rfl rfl (hb hby own_d_jdk_56_method_3_8)
  refine own_Goes.st ?_ st2
  show own_Goes p.tables e below P (T2.setTop (mkF m 11 #[.val (.ref a), .unset] [(.int (0 : Int32))]))
  refine own_Goes.st ?_ (fun _ k => XS.ifYes X2.here hx rfl (pc0 := 11) (pc' := 31) rfl (hb hby own_d_jdk_56_method_3_11) rfl ((if0 _ _).trans (teq (by decide : (0 : Int32) = (0 : Int32))).1) (by decide) (by decide) k)
  show own_Goes p.tables e below P (T2.setTop (mkF m 31 #[.val (.ref a), .unset] []))
  refine own_Goes.st ?_ (fun _ k => XS.aloadN X2.here hx rfl (hb hby own_d_jdk_56_method_3_31) rfl rfl k)
  show own_Goes p.tables e below P (T2.setTop (mkF m 32 #[.val (.ref a), .unset] [(.ref a)]))
  obtain ⟨cq3, kq3, q3a, q3b, q3c⟩ := isOf hZ e2 pr0
  obtain ⟨_, _, ⟨T3, L3, k3, n3⟩, -, X3, ⟨Lc3, hQ3, l3, y3, z3⟩, st3⟩ := X2.interfaceBack hx (xi := (⟨"java/util/Collection", "isEmpty", "()Z"⟩ : MethodName)) (y := (⟨"java/util/ArrayList", "isEmpty", "()Z"⟩ : MethodName)) hown (mvT hZ (hw _ (List.mem_of_getElem? (i := 52) rfl))) (mvT hZ (hw _ (List.mem_of_getElem? (i := 53) rfl))) (mvT hZ (hw _ (List.mem_of_getElem? (i := 54) rfl))) (mvT hZ (hw _ (List.mem_of_getElem? (i := 55) rfl))) (mvT hZ (hw _ (List.mem_of_getElem? (i := 56) rfl))) (mvT hZ (hw _ (List.mem_of_getElem? (i := 57) rfl))) (mvT hZ (hw _ (List.mem_of_getElem? (i := 58) rfl))) (mvT hZ (hw _ (List.mem_of_getElem? (i := 59) rfl))) (by decide) (backOf (W := 0) (rm_emp1 l Z a0 hw [] a h0 n0 Z0 pr2) hZ (hw _ (List.mem_of_getElem? (i := 60) rfl)) (hw _ (List.mem_of_getElem? (i := 2) rfl)) (by decide) (by decide)) q3a q3b q3c (g := (mkF m 32 #[.val (.ref a), .unset] [(.ref a)])) rfl (by rw [hml]; rfl) (Steps.refl _) (argsL := []) (rest := []) (lenOf own_pd__28__29_Z rfl) rfl (by show 2 * 0 + _ ≤ _; exact Nat.le_of_eq rfl) (hb hby own_d_jdk_56_method_3_32) (fun _ _ => ⟨rfl, e2, (by decide : 0 + 0 ≤ _), (by decide : 0 + 0 ≤ _)⟩)
  dsimp only [Pt.U, Pt.locs, Pt.cells, Pt.slots] at X3 l3 y3 z3 st3 hQ3
  rw [l3, y3, z3] at X3
  obtain ⟨rfl, Nq3, e3⟩ := hQ3
  have N3 := Fr.app N0 Nq3
  refine own_Goes.tr st3 ?_
  show own_Goes p.tables e below P (T3.setTop (mkF m 37 #[.val (.ref a), .unset] [(.int (0 : Int32))]))
  refine own_Goes.st ?_ (fun _ k => XS.ifYes X3.here hx rfl (pc0 := 37) (pc' := 44) rfl (hb hby own_d_jdk_56_method_3_37) rfl ((if0 _ _).trans (teq (by decide : (0 : Int32) = (0 : Int32))).1) (by decide) (by decide) k)
  show own_Goes p.tables e below P (T3.setTop (mkF m 44 #[.val (.ref a), .unset] []))
  refine own_Goes.st ?_ (fun _ k => XS.aloadN X3.here hx rfl (hb hby own_d_jdk_56_method_3_44) rfl rfl k)
  show own_Goes p.tables e below P (T3.setTop (mkF m 45 #[.val (.ref a), .unset] [(.ref a)]))
  obtain ⟨cq4, kq4, q4a, q4b, q4c⟩ := isOf hZ e3 pr0
  obtain ⟨_, _, ⟨T4, L4, k4, n4⟩, -, X4, ⟨Lc4, hQ4, l4, y4, z4⟩, st4⟩ := X3.interfaceBack hx (xi := (⟨"java/util/Collection", "toArray", "()[Ljava/lang/Object;"⟩ : MethodName)) (y := (⟨"java/util/ArrayList", "toArray", "()[Ljava/lang/Object;"⟩ : MethodName)) hown (mvT hZ (hw _ (List.mem_of_getElem? (i := 131) rfl))) (mvT hZ (hw _ (List.mem_of_getElem? (i := 132) rfl))) (mvT hZ (hw _ (List.mem_of_getElem? (i := 133) rfl))) (mvT hZ (hw _ (List.mem_of_getElem? (i := 134) rfl))) (mvT hZ (hw _ (List.mem_of_getElem? (i := 135) rfl))) (mvT hZ (hw _ (List.mem_of_getElem? (i := 136) rfl))) (mvT hZ (hw _ (List.mem_of_getElem? (i := 137) rfl))) (mvT hZ (hw _ (List.mem_of_getElem? (i := 59) rfl))) (by decide) (backOf (W := 0) (rm_toarr l Z a0 hw [] a b k q mr h0 n0 Z0 pr1 pr2 pr3 pr4 pr5 pr6) hZ (hw _ (List.mem_of_getElem? (i := 138) rfl)) (hw _ (List.mem_of_getElem? (i := 2) rfl)) (by decide) (by decide)) q4a q4b q4c (g := (mkF m 45 #[.val (.ref a), .unset] [(.ref a)])) rfl (by rw [hml]; rfl) (Steps.refl _) (argsL := []) (rest := []) (lenOf own_pd__28__29__5b_Ljava_2f_lang_2f_Object_3b_ rfl) rfl (by show 2 * 0 + _ ≤ _; exact Nat.le_of_eq rfl) (hb hby own_d_jdk_56_method_3_45) (fun _ _ => ⟨rfl, e3, (by decide : 0 + 1 ≤ _), (by decide : 0 + 1 ≤ _)⟩)
  dsimp only [Pt.U, Pt.locs, Pt.cells, Pt.slots] at X4 l4 y4 z4 st4 hQ4
  rw [l4, y4, z4] at X4
  obtain ⟨r4, kr4, rfl, Nq4, K4, f5, f6⟩ := hQ4
  have N4 := Fr.app N3 Nq4
  refine own_Goes.tr st4 ?_
  have ne7 : a ≠ r4 := Nat.ne_of_lt (Nat.lt_of_lt_of_le pr0.lt f5)
  have ne8 : b ≠ r4 := Nat.ne_of_lt (Nat.lt_of_lt_of_le pr3.lt f5)
  have ne9 : q ≠ r4 := Nat.ne_of_lt (Nat.lt_of_lt_of_le pr5.lt f5)
  have ge_r4 : n0 ≤ r4 := Nat.le_trans Z0 f5
  have sz_r4 : h0.size ≤ r4 := Nat.le_trans K0.1 f5
  have Z10 : n0 ≤ T4.heap.size := Nat.le_trans Z0 K4.1
  have K11 := K0.trans K4 all0
  have O12 := pr8.keep K4 all0
  show own_Goes p.tables e below P (T4.setTop (mkF m 50 #[.val (.ref a), .unset] [(.ref r4)]))
  obtain ⟨_, _, ⟨T13, L13, k13, n13⟩, -, X13, ⟨Lc13, hQ13, l13, y13, z13⟩, st13⟩ := Jvm.LawKit.callS X4 hx (y := (⟨"java/util/List", "of", "([Ljava/lang/Object;)Ljava/util/List;"⟩ : MethodName)) hown (mvT hZ (hw _ (List.mem_of_getElem? (i := 161) rfl))) (mvT hZ (hw _ (List.mem_of_getElem? (i := 162) rfl))) (mvT hZ (hw _ (List.mem_of_getElem? (i := 40) rfl))) (mvT hZ (hw _ (List.mem_of_getElem? (i := 163) rfl))) (by decide) (backOf (W := 0) (rm_lof1 l Z a0 hw [] r4 kr4 q em T4.heap n0 Z10 f6 pr7 O12) hZ (hw _ (List.mem_of_getElem? (i := 163) rfl)) (hw _ (List.mem_of_getElem? (i := 40) rfl)) (by decide) (by decide)) (g := (mkF m 50 #[.val (.ref a), .unset] [(.ref r4)])) rfl (by rw [hml]; rfl) (argsL := [(.ref r4)]) (rest := []) (lenOf own_pd__28__5b_Ljava_2f_lang_2f_Object_3b__29_Ljava_2f_util_2f_List_3b_ rfl) rfl (by show 2 * 0 + _ ≤ _; exact Nat.le_of_eq rfl) (hb hby own_d_jdk_56_method_3_50) (fun _ _ => ⟨rfl, rfl, (by decide : 1 + 1 ≤ _), (by decide : 1 + 2 ≤ _)⟩)
  dsimp only [Pt.U, Pt.locs, Pt.cells, Pt.slots] at X13 l13 y13 z13 st13 hQ13
  rw [l13, y13, z13] at X13
  obtain ⟨t13, rfl, Nq13, K13, f14⟩ := hQ13
  have N13 := Fr.app N4 Nq13
  refine own_Goes.st ?_ st13
  have F15 : Exa Z T4.heap a "java/util/ArrayList" := (pr0.keep K4)
  have ne16 : a ≠ t13 := Nat.ne_of_lt (Nat.lt_of_lt_of_le F15.lt f14)
  have F17 : Arv Z T4.heap b k (.object "java/lang/Object") (10 : Int32) [(.ref q), .null, .null, .null, .null, .null, .null, .null, .null, .null] .null := (pr3.keep K4 nin0)
  have ne18 : b ≠ t13 := Nat.ne_of_lt (Nat.lt_of_lt_of_le F17.lt f14)
  have F19 : Exa Z T4.heap q "com/example/larder/larder/BooleanValue" := (pr5.keep K4)
  have ne20 : q ≠ t13 := Nat.ne_of_lt (Nat.lt_of_lt_of_le F19.lt f14)
  have ne21 : r4 ≠ t13 := Nat.ne_of_lt (Nat.lt_of_lt_of_le f6.lt f14)
  have ge_t13 : n0 ≤ t13 := Nat.le_trans Z10 f14
  have sz_t13 : h0.size ≤ t13 := Nat.le_trans K11.1 f14
  have Z22 : n0 ≤ T13.heap.size := Nat.le_trans Z10 K13.1
  have K23 := K11.trans K13 all0
  have O24 := O12.keep K13 all0
  show own_Goes p.tables e below P (T13.setTop (mkF m 53 #[.val (.ref a), .unset] [(.ref t13)]))
  obtain ⟨fs, hr, hrun, hended, hW, hsame⟩ := X13.leave (v := some (.ref t13)) (fun h => by rw [Bd.returns] at h; cases h)
  exact own_Goes.fin _ _ (retOut X13 hx (t := (.object "java/util/List")) Bd.returns rfl (Or.inr (Or.inr (Or.inr (Or.inr ⟨rfl, rfl, rfl⟩)))) (hb hby own_d_jdk_56_method_3_53) hr) (hPP _ _ ⟨hrun, hended, _, _, rfl, (by show Q_lc1 Z a b k q mr em h0 n0 _ T13.heap _; exact ⟨t13, rfl, N13, K23, sz_t13⟩), ⟨_, rfl⟩, hW, hsame.mono (by decide) (by decide)⟩)
theorem own_ef_cp1 (m : MethodId) (x0 : Addr) : entryFrame m #[(.ref x0)] 1 = mkF m 0 #[.val (.ref x0)] [] := by first | (simp [entryFrame, mkF, argsToLocals, Value.category]; done) | rfl
def Q_cp1 (Z : State) (a : Addr) (b : Addr) (k : ClassId) (q : Addr) (mr : Addr) (em : Addr) (h0 : Heap) (n0 : Nat) (rv_ : Option Value) (h_ : Heap) (L_ : List Loc) : Prop := ∃ (t : Addr), rv_ = some (.ref t) ∧ Fr n0 L_ ∧ Keep h0 h_ [] ∧ (h0.size ≤ t)
set_option maxRecDepth 65536 in
set_option maxHeartbeats 40000000 in
theorem rm_cp1 (l : Launch) (Z : State) (a0 : Array Value) (hw : ∀ d ∈ tables_1, d.before a0 Z = true) (ws : List Jvm.Cond) (a : Addr) (b : Addr) (k : ClassId) (q : Addr) (mr : Addr) (em : Addr) (h0 : Heap) (n0 : Nat) (Z0 : n0 ≤ h0.size) (pr0 : Exa Z h0 a "java/util/ArrayList") (pr1 : Fld Z h0 a "java/util/ArrayList" "elementData" "[Ljava/lang/Object;" (.ref b)) (pr2 : Fld Z h0 a "java/util/ArrayList" "size" "I" (.int (1 : Int32))) (pr3 : Arv Z h0 b k (.object "java/lang/Object") (10 : Int32) [(.ref q), .null, .null, .null, .null, .null, .null, .null, .null, .null] .null) (pr4 : Exa Z h0 b "[Ljava/lang/Object;") (pr5 : Exa Z h0 q "com/example/larder/larder/BooleanValue") (pr6 : own_Mir Z "[Ljava/lang/Object;" mr) (pr7 : Sta Z Z.heap "java/util/ImmutableCollections" "EMPTY" "Ljava/lang/Object;" (.ref em)) (pr8 : Old Z n0 h0) :
    MetFree l (⟨"java/util/List", "copyOf", "(Ljava/util/Collection;)Ljava/util/List;"⟩ : MethodName) (head1 (Jvm.Cond.code (⟨"java/util/List", "copyOf", "(Ljava/util/Collection;)Ljava/util/List;"⟩ : MethodName) jdk_40_method_48_code 1 (some (.object "java/util/List")) :: ws) ({ frames := 7, cells := 2, slots := 3, locals := 88 } : Room)) (fun as_ U => as_ = #[(.ref a)] ∧ Z.Warmed39 U.vm ∧ U.heap = h0) (fun _ _ _ _ _ => True) (fun _ U o U' => ∃ rv_ L_, o = .returned rv_ ∧ Q_cp1 Z a b k q mr em h0 n0 rv_ U'.heap L_ ∧ FrameEnd U o U' L_ ({ frames := 7, cells := 2, slots := 3, locals := 88 } : Room).cells ({ frames := 7, cells := 2, slots := 3, locals := 88 } : Room).slots) := by
  refine MetFree.of_bodySF (plainFor_of_name own_pn_java_util_List) hisR ?_
  intro p e s m args below meth c s₁ Bd hml0 hP hK
  obtain ⟨rfl, hZ, hh⟩ := hP
  have hx := Bd.exec
  have hby := Bd.bytes
  have hml : c.maxLocals = 1 := hml0
  have hown : s.vm.findClass "java/util/List" = some m.cls := findClass_of_methodNamed Bd.named
  have hnm := (name_of_methodNamed Bd.named Bd.method).1
  have X0 : Stand p l e ({ frames := 7, cells := 2, slots := 3, locals := 88 } : Room) s m #[(.ref a)] below meth c s₁ [] 0 0 := Stand.of_body Bd
  have e0 : s₁.heap = h0 := by rw [← hh, Bd.state]; rfl
  have N0 := Fr.nil n0
  refine own_Goes.of ?_
  refine own_Goes.nm (fun P hPP => ?_)
  refine own_Goes.st ?_ (fun _ k => castTop (own_ef_cp1 m a) k)
  have K0 : Keep h0 h0 [] := Keep.refl _ _
  show own_Goes p.tables e below P (s₁.setTop (mkF m 0 #[.val (.ref a)] []))
  refine own_Goes.st ?_ (fun _ k => XS.aloadN X0.here hx rfl (hb hby own_d_jdk_40_method_48_0) rfl rfl k)
  show own_Goes p.tables e below P (s₁.setTop (mkF m 1 #[.val (.ref a)] [(.ref a)]))
  obtain ⟨_, _, ⟨T1, L1, k1, n1⟩, -, X1, ⟨Lc1, hQ1, l1, y1, z1⟩, st1⟩ := Jvm.LawKit.callS X0 hx (y := (⟨"java/util/ImmutableCollections", "listCopy", "(Ljava/util/Collection;)Ljava/util/List;"⟩ : MethodName)) hown (mvT hZ (hw _ (List.mem_of_getElem? (i := 42) rfl))) (mvT hZ (hw _ (List.mem_of_getElem? (i := 43) rfl))) (mvT hZ (hw _ (List.mem_of_getElem? (i := 44) rfl))) (mvT hZ (hw _ (List.mem_of_getElem? (i := 45) rfl))) (by decide) (backOf (W := 0) (rm_lc1 l Z a0 hw [] a b k q mr em h0 n0 Z0 pr0 pr1 pr2 pr3 pr4 pr5 pr6 pr7 pr8) hZ (hw _ (List.mem_of_getElem? (i := 45) rfl)) (hw _ (List.mem_of_getElem? (i := 44) rfl)) (by decide) (by decide)) (g := (mkF m 1 #[.val (.ref a)] [(.ref a)])) rfl (by rw [hml]; rfl) (argsL := [(.ref a)]) (rest := []) (lenOf own_pd__28_Ljava_2f_util_2f_Collection_3b__29_Ljava_2f_util_2f_List_3b_ rfl) rfl (by show 2 * 0 + _ ≤ _; exact Nat.le_of_eq rfl) (hb hby own_d_jdk_40_method_48_1) (fun _ _ => ⟨rfl, e0, (by decide : 0 + 2 ≤ _), (by decide : 0 + 3 ≤ _)⟩)
  dsimp only [Pt.U, Pt.locs, Pt.cells, Pt.slots] at X1 l1 y1 z1 st1 hQ1
  rw [l1, y1, z1] at X1
  obtain ⟨t1, rfl, Nq1, K1, f2⟩ := hQ1
  have N1 := Fr.app N0 Nq1
  refine own_Goes.st ?_ st1
  have ne3 : a ≠ t1 := Nat.ne_of_lt (Nat.lt_of_lt_of_le pr0.lt f2)
  have ne4 : b ≠ t1 := Nat.ne_of_lt (Nat.lt_of_lt_of_le pr3.lt f2)
  have ne5 : q ≠ t1 := Nat.ne_of_lt (Nat.lt_of_lt_of_le pr5.lt f2)
  have ge_t1 : n0 ≤ t1 := Nat.le_trans Z0 f2
  have sz_t1 : h0.size ≤ t1 := Nat.le_trans K0.1 f2
  have Z6 : n0 ≤ T1.heap.size := Nat.le_trans Z0 K1.1
  have K7 := K0.trans K1 all0
  have O8 := pr8.keep K1 all0
  show own_Goes p.tables e below P (T1.setTop (mkF m 4 #[.val (.ref a)] [(.ref t1)]))
  obtain ⟨fs, hr, hrun, hended, hW, hsame⟩ := X1.leave (v := some (.ref t1)) (fun h => by rw [Bd.returns] at h; cases h)
  exact own_Goes.fin _ _ (retOut X1 hx (t := (.object "java/util/List")) Bd.returns rfl (Or.inr (Or.inr (Or.inr (Or.inr ⟨rfl, rfl, rfl⟩)))) (hb hby own_d_jdk_40_method_48_4) hr) (hPP _ _ ⟨hrun, hended, _, _, rfl, (by show Q_cp1 Z a b k q mr em h0 n0 _ T1.heap _; exact ⟨t1, rfl, N1, K7, sz_t1⟩), ⟨_, rfl⟩, hW, hsame.mono (by decide) (by decide)⟩)
theorem own_ef_dv0 (m : MethodId) (x0 : Addr) (x1 : Int64) (x2 : Addr) : entryFrame m #[(.ref x0), (.long x1), (.ref x2)] 4 = mkF m 0 #[.val (.ref x0), .val (.long x1), .second, .val (.ref x2)] [] := by first | (simp [entryFrame, mkF, argsToLocals, Value.category]; done) | rfl
theorem own_pn_com_example_larder_larder_DoubleValue : plainName "com/example/larder/larder/DoubleValue" = true := by first | (simp [plainName, overriddenIn]; done) | decide +kernel
theorem own_d_prog_16_method_1_0 : decode prog_16_method_1_code 0 = .ok (.aload_n 0, 1) := by decide +kernel
theorem own_d_prog_16_method_1_1 : decode prog_16_method_1_code 1 = .ok (.invokespecial 1, 3) := by decide +kernel
theorem own_d_prog_16_method_1_4 : decode prog_16_method_1_code 4 = .ok (.aload_n 3, 1) := by decide +kernel
theorem own_d_prog_16_method_1_5 : decode prog_16_method_1_code 5 = .ok (.invokestatic 7, 3) := by decide +kernel
theorem own_d_prog_16_method_1_8 : decode prog_16_method_1_code 8 = .ok (.astore_n 3, 1) := by decide +kernel
theorem own_d_prog_16_method_1_9 : decode prog_16_method_1_code 9 = .ok (.aload_n 0, 1) := by decide +kernel
theorem own_d_prog_16_method_1_10 : decode prog_16_method_1_code 10 = .ok (.lload_n 1, 1) := by decide +kernel
theorem own_d_prog_16_method_1_11 : decode prog_16_method_1_code 11 = .ok (.putfield 13, 3) := by decide +kernel
theorem own_d_prog_16_method_1_14 : decode prog_16_method_1_code 14 = .ok (.aload_n 0, 1) := by decide +kernel
theorem own_d_prog_16_method_1_15 : decode prog_16_method_1_code 15 = .ok (.aload_n 3, 1) := by decide +kernel
theorem own_d_prog_16_method_1_16 : decode prog_16_method_1_code 16 = .ok (.putfield 19, 3) := by decide +kernel
theorem own_d_prog_16_method_1_19 : decode prog_16_method_1_code 19 = .ok (.return_, 1) := by decide +kernel
def Q_dv0 (Z : State) (x : Addr) (v : Int64) (a : Addr) (el : Addr) (u1 : Value) (u2 : Value) (h0 : Heap) (n0 : Nat) (rv_ : Option Value) (h_ : Heap) (L_ : List Loc) : Prop := rv_ = none ∧ Fr n0 L_ ∧ Keep h0 h_ [x] ∧ (Exa Z h_ x "com/example/larder/larder/DoubleValue") ∧ (Fld Z h_ x "com/example/larder/larder/DoubleValue" "bits" "J" (.long v))
set_option maxRecDepth 65536 in
set_option maxHeartbeats 40000000 in
theorem rm_dv0 (l : Launch) (Z : State) (a0 : Array Value) (hw : ∀ d ∈ tables_1, d.before a0 Z = true) (ws : List Jvm.Cond) (x : Addr) (v : Int64) (a : Addr) (el : Addr) (u1 : Value) (u2 : Value) (h0 : Heap) (n0 : Nat) (Z0 : n0 ≤ h0.size) (pr0 : Exa Z h0 x "com/example/larder/larder/DoubleValue") (pr1 : Fld Z h0 x "com/example/larder/larder/DoubleValue" "bits" "J" u1) (pr2 : Fld Z h0 x "com/example/larder/larder/DoubleValue" "annotations" "Ljava/util/List;" u2) (pr3 : n0 ≤ x) (pr4 : Exa Z h0 a "java/util/ArrayList") (pr5 : Fld Z h0 a "java/util/ArrayList" "size" "I" (.int (0 : Int32))) (pr6 : Sta Z Z.heap "java/util/ImmutableCollections" "EMPTY_LIST" "Ljava/util/ImmutableCollections$ListN;" (.ref el)) (pr7 : Old Z n0 h0) :
    MetFree l (⟨"com/example/larder/larder/DoubleValue", "<init>", "(JLjava/util/List;)V"⟩ : MethodName) (head1 (Jvm.Cond.code (⟨"com/example/larder/larder/DoubleValue", "<init>", "(JLjava/util/List;)V"⟩ : MethodName) prog_16_method_1_code 4 none :: ws) ({ frames := 3, cells := 0, slots := 0, locals := 37 } : Room)) (fun as_ U => as_ = #[(.ref x), (.long v), (.ref a)] ∧ Z.Warmed39 U.vm ∧ U.heap = h0) (fun _ _ _ _ _ => True) (fun _ U o U' => ∃ rv_ L_, o = .returned rv_ ∧ Q_dv0 Z x v a el u1 u2 h0 n0 rv_ U'.heap L_ ∧ FrameEnd U o U' L_ ({ frames := 3, cells := 0, slots := 0, locals := 37 } : Room).cells ({ frames := 3, cells := 0, slots := 0, locals := 37 } : Room).slots) := by
  refine MetFree.of_bodySF (plainFor_of_name own_pn_com_example_larder_larder_DoubleValue) hisR ?_
  intro p e s m args below meth c s₁ Bd hml0 hP hK
  obtain ⟨rfl, hZ, hh⟩ := hP
  have hx := Bd.exec
  have hby := Bd.bytes
  have hml : c.maxLocals = 4 := hml0
  have hown : s.vm.findClass "com/example/larder/larder/DoubleValue" = some m.cls := findClass_of_methodNamed Bd.named
  have hnm := (name_of_methodNamed Bd.named Bd.method).1
  have X0 : Stand p l e ({ frames := 3, cells := 0, slots := 0, locals := 37 } : Room) s m #[(.ref x), (.long v), (.ref a)] below meth c s₁ [] 0 0 := Stand.of_body Bd
  have e0 : s₁.heap = h0 := by rw [← hh, Bd.state]; rfl
  have N0 := Fr.nil n0
  refine own_Goes.of ?_
  refine own_Goes.nm (fun P hPP => ?_)
  refine own_Goes.st ?_ (fun _ k => castTop (own_ef_dv0 m x v a) k)
  have K0 : Keep h0 h0 [x] := Keep.refl _ _
  show own_Goes p.tables e below P (s₁.setTop (mkF m 0 #[.val (.ref x), .val (.long v), .second, .val (.ref a)] []))
  refine own_Goes.st ?_ (fun _ k => XS.aloadN X0.here hx rfl (hb hby own_d_prog_16_method_1_0) rfl rfl k)
  show own_Goes p.tables e below P (s₁.setTop (mkF m 1 #[.val (.ref x), .val (.long v), .second, .val (.ref a)] [(.ref x)]))
  obtain ⟨_, _, ⟨T1, L1, k1, n1⟩, -, X1, ⟨Lc1, hQ1, l1, y1, z1⟩, st1⟩ := X0.specialBack hx (y := (⟨"java/lang/Record", "<init>", "()V"⟩ : MethodName)) rfl hown (mvT hZ (hw _ (List.mem_of_getElem? (i := 32) rfl))) (mvT hZ (hw _ (List.mem_of_getElem? (i := 33) rfl))) (mvT hZ (hw _ (List.mem_of_getElem? (i := 36) rfl))) (by decide) (backOf (W := 0) (rm_rec l Z a0 hw [] x h0 n0 Z0) hZ (hw _ (List.mem_of_getElem? (i := 36) rfl)) (hw _ (List.mem_of_getElem? (i := 35) rfl)) (by decide) (by decide)) (g := (mkF m 1 #[.val (.ref x), .val (.long v), .second, .val (.ref a)] [(.ref x)])) rfl (by rw [hml]; rfl) (Steps.refl _) (a := x) (argsL := []) (rest := []) (lenOf own_pd__28__29_V rfl) rfl (by show 2 * 0 + _ ≤ _; exact Nat.le_of_eq rfl) (hb hby own_d_prog_16_method_1_1) (fun _ _ => ⟨rfl, e0, (by decide : 0 + 0 ≤ _), (by decide : 0 + 0 ≤ _)⟩)
  dsimp only [Pt.U, Pt.locs, Pt.cells, Pt.slots] at X1 l1 y1 z1 st1 hQ1
  rw [l1, y1, z1] at X1
  obtain ⟨rfl, Nq1, e1⟩ := hQ1
  have N1 := Fr.app N0 Nq1
  refine own_Goes.tr st1 ?_
  show own_Goes p.tables e below P (T1.setTop (mkF m 4 #[.val (.ref x), .val (.long v), .second, .val (.ref a)] []))
  refine own_Goes.st ?_ (fun _ k => XS.aloadN X1.here hx rfl (hb hby own_d_prog_16_method_1_4) rfl rfl k)
  show own_Goes p.tables e below P (T1.setTop (mkF m 5 #[.val (.ref x), .val (.long v), .second, .val (.ref a)] [(.ref a)]))
  obtain ⟨_, _, ⟨T2, L2, k2, n2⟩, -, X2, ⟨Lc2, hQ2, l2, y2, z2⟩, st2⟩ := Jvm.LawKit.callS X1 hx (y := (⟨"java/util/List", "copyOf", "(Ljava/util/Collection;)Ljava/util/List;"⟩ : MethodName)) hown (mvT hZ (hw _ (List.mem_of_getElem? (i := 38) rfl))) (mvT hZ (hw _ (List.mem_of_getElem? (i := 39) rfl))) (mvT hZ (hw _ (List.mem_of_getElem? (i := 40) rfl))) (mvT hZ (hw _ (List.mem_of_getElem? (i := 41) rfl))) (by decide) (backOf (W := 0) (rm_cpE l Z a0 hw [] a el h0 n0 Z0 pr4 pr5 pr6 pr7) hZ (hw _ (List.mem_of_getElem? (i := 41) rfl)) (hw _ (List.mem_of_getElem? (i := 40) rfl)) (by decide) (by decide)) (g := (mkF m 5 #[.val (.ref x), .val (.long v), .second, .val (.ref a)] [(.ref a)])) rfl (by rw [hml]; rfl) (argsL := [(.ref a)]) (rest := []) (lenOf own_pd__28_Ljava_2f_util_2f_Collection_3b__29_Ljava_2f_util_2f_List_3b_ rfl) rfl (by show 2 * 0 + _ ≤ _; exact Nat.le_of_eq rfl) (hb hby own_d_prog_16_method_1_5) (fun _ _ => ⟨rfl, e1, (by decide : 0 + 0 ≤ _), (by decide : 0 + 0 ≤ _)⟩)
  dsimp only [Pt.U, Pt.locs, Pt.cells, Pt.slots] at X2 l2 y2 z2 st2 hQ2
  rw [l2, y2, z2] at X2
  obtain ⟨rfl, Nq2, e2⟩ := hQ2
  have N2 := Fr.app N1 Nq2
  refine own_Goes.st ?_ st2
  show own_Goes p.tables e below P (T2.setTop (mkF m 8 #[.val (.ref x), .val (.long v), .second, .val (.ref a)] [(.ref el)]))
  refine own_Goes.st ?_ (fun _ k => XS.astoreN X2.here hx rfl (hb hby own_d_prog_16_method_1_8) rfl rfl (l' := #[.val (.ref x), .val (.long v), .second, .val (.ref el)]) rfl k)
  show own_Goes p.tables e below P (T2.setTop (mkF m 9 #[.val (.ref x), .val (.long v), .second, .val (.ref el)] []))
  refine own_Goes.st ?_ (fun _ k => XS.aloadN X2.here hx rfl (hb hby own_d_prog_16_method_1_9) rfl rfl k)
  show own_Goes p.tables e below P (T2.setTop (mkF m 10 #[.val (.ref x), .val (.long v), .second, .val (.ref el)] [(.ref x)]))
  refine own_Goes.st ?_ (fun _ k => XS.lloadN X2.here hx rfl (hb hby own_d_prog_16_method_1_10) rfl k)
  show own_Goes p.tables e below P (T2.setTop (mkF m 11 #[.val (.ref x), .val (.long v), .second, .val (.ref el)] [(.long v), (.ref x)]))
  obtain ⟨T3, h3, X3, e3, W3, st3⟩ := putF X2 hx hZ hown (host := "") (Or.inl (hw _ (List.mem_of_getElem? (i := 67) rfl))) Via.refl e2 pr1 pr0 (Or.inr ⟨(hw _ (List.mem_of_getElem? (i := 68) rfl)), rfl, hnm⟩) (hw _ (List.mem_of_getElem? (i := 27) rfl)) (ty := .long) (by decide) rfl rfl (g := (mkF m 11 #[.val (.ref x), .val (.long v), .second, .val (.ref el)] [(.long v), (.ref x)])) rfl rfl (hb hby own_d_prog_16_method_1_11)
  refine own_Goes.st ?_ st3
  have F4 : Fld Z h3 x "com/example/larder/larder/DoubleValue" "bits" "J" (.long v) := pr1.same W3
  have Z5 : n0 ≤ h3.size := by rw [W3.size]; exact Z0
  have K6 := K0.wr W3 (Or.inl (List.mem_of_getElem? (i := 0) rfl))
  have O7 := pr7.wr W3 pr3
  have N8 := Fr.snoc X3 N2 pr3
  show own_Goes p.tables e below P (T3.setTop (mkF m 14 #[.val (.ref x), .val (.long v), .second, .val (.ref el)] []))
  refine own_Goes.st ?_ (fun _ k => XS.aloadN X3.here hx rfl (hb hby own_d_prog_16_method_1_14) rfl rfl k)
  show own_Goes p.tables e below P (T3.setTop (mkF m 15 #[.val (.ref x), .val (.long v), .second, .val (.ref el)] [(.ref x)]))
  refine own_Goes.st ?_ (fun _ k => XS.aloadN X3.here hx rfl (hb hby own_d_prog_16_method_1_15) rfl rfl k)
  show own_Goes p.tables e below P (T3.setTop (mkF m 16 #[.val (.ref x), .val (.long v), .second, .val (.ref el)] [(.ref el), (.ref x)]))
  have F9 : Fld Z h3 x "com/example/larder/larder/DoubleValue" "annotations" "Ljava/util/List;" u2 := (pr2.other W3 (Or.inr (slot_ne (Or.inr (hw _ (List.mem_of_getElem? (i := 70) rfl))) (Or.inr (hw _ (List.mem_of_getElem? (i := 68) rfl))) (by decide) (t := (.object "java/util/List")) (t' := .long) (by decide) (by decide))))
  have F10 : Exa Z h3 x "com/example/larder/larder/DoubleValue" := (pr0.wr W3)
  obtain ⟨T11, h11, X11, e11, W11, st11⟩ := putF X3 hx hZ hown (host := "") (Or.inl (hw _ (List.mem_of_getElem? (i := 69) rfl))) Via.refl e3 F9 F10 (Or.inr ⟨(hw _ (List.mem_of_getElem? (i := 70) rfl)), rfl, hnm⟩) (hw _ (List.mem_of_getElem? (i := 27) rfl)) (ty := (.object "java/util/List")) (by decide) rfl rfl (g := (mkF m 16 #[.val (.ref x), .val (.long v), .second, .val (.ref el)] [(.ref el), (.ref x)])) rfl rfl (hb hby own_d_prog_16_method_1_16)
  refine own_Goes.st ?_ st11
  have F12 : Fld Z h11 x "com/example/larder/larder/DoubleValue" "annotations" "Ljava/util/List;" (.ref el) := F9.same W11
  have Z13 : n0 ≤ h11.size := by rw [W11.size]; exact Z5
  have K14 := K6.wr W11 (Or.inl (List.mem_of_getElem? (i := 0) rfl))
  have O15 := O7.wr W11 pr3
  have N16 := Fr.snoc X11 N8 pr3
  show own_Goes p.tables e below P (T11.setTop (mkF m 19 #[.val (.ref x), .val (.long v), .second, .val (.ref el)] []))
  obtain ⟨fs, hr, hrun, hended, hW, hsame⟩ := X11.leave (v := none) (fun _ => rfl)
  have F17 : Exa Z h11 x "com/example/larder/larder/DoubleValue" := (F10.wr W11)
  have F18 : Fld Z h11 x "com/example/larder/larder/DoubleValue" "bits" "J" (.long v) := (F4.other W11 (Or.inr (slot_ne (Or.inr (hw _ (List.mem_of_getElem? (i := 68) rfl))) (Or.inr (hw _ (List.mem_of_getElem? (i := 70) rfl))) (by decide) (t := .long) (t' := (.object "java/util/List")) (by decide) (by decide))))
  exact own_Goes.fin _ _ (X11.returnOut hx Bd.returns (hb hby own_d_prog_16_method_1_19) hr) (hPP _ _ ⟨hrun, hended, _, _, rfl, (by show Q_dv0 Z x v a el u1 u2 h0 n0 _ T11.heap _; rw [e11]; exact ⟨rfl, N16, K14, F17, F18⟩), ⟨_, rfl⟩, hW, hsame.mono (by decide) (by decide)⟩)
theorem own_ef_dv1 (m : MethodId) (x0 : Addr) (x1 : Int64) (x2 : Addr) : entryFrame m #[(.ref x0), (.long x1), (.ref x2)] 4 = mkF m 0 #[.val (.ref x0), .val (.long x1), .second, .val (.ref x2)] [] := by first | (simp [entryFrame, mkF, argsToLocals, Value.category]; done) | rfl
def Q_dv1 (Z : State) (x : Addr) (v : Int64) (a : Addr) (b : Addr) (k : ClassId) (q : Addr) (mr : Addr) (em : Addr) (u1 : Value) (u2 : Value) (h0 : Heap) (n0 : Nat) (rv_ : Option Value) (h_ : Heap) (L_ : List Loc) : Prop := rv_ = none ∧ Fr n0 L_ ∧ Keep h0 h_ [x] ∧ (Exa Z h_ x "com/example/larder/larder/DoubleValue") ∧ (Fld Z h_ x "com/example/larder/larder/DoubleValue" "bits" "J" (.long v))
set_option maxRecDepth 65536 in
set_option maxHeartbeats 40000000 in
theorem rm_dv1 (l : Launch) (Z : State) (a0 : Array Value) (hw : ∀ d ∈ tables_1, d.before a0 Z = true) (ws : List Jvm.Cond) (x : Addr) (v : Int64) (a : Addr) (b : Addr) (k : ClassId) (q : Addr) (mr : Addr) (em : Addr) (u1 : Value) (u2 : Value) (h0 : Heap) (n0 : Nat) (Z0 : n0 ≤ h0.size) (pr0 : Exa Z h0 x "com/example/larder/larder/DoubleValue") (pr1 : Fld Z h0 x "com/example/larder/larder/DoubleValue" "bits" "J" u1) (pr2 : Fld Z h0 x "com/example/larder/larder/DoubleValue" "annotations" "Ljava/util/List;" u2) (pr3 : n0 ≤ x) (pr4 : Exa Z h0 a "java/util/ArrayList") (pr5 : Fld Z h0 a "java/util/ArrayList" "elementData" "[Ljava/lang/Object;" (.ref b)) (pr6 : Fld Z h0 a "java/util/ArrayList" "size" "I" (.int (1 : Int32))) (pr7 : Arv Z h0 b k (.object "java/lang/Object") (10 : Int32) [(.ref q), .null, .null, .null, .null, .null, .null, .null, .null, .null] .null) (pr8 : Exa Z h0 b "[Ljava/lang/Object;") (pr9 : Exa Z h0 q "com/example/larder/larder/BooleanValue") (pr10 : own_Mir Z "[Ljava/lang/Object;" mr) (pr11 : Sta Z Z.heap "java/util/ImmutableCollections" "EMPTY" "Ljava/lang/Object;" (.ref em)) (pr12 : Old Z n0 h0) :
    MetFree l (⟨"com/example/larder/larder/DoubleValue", "<init>", "(JLjava/util/List;)V"⟩ : MethodName) (head1 (Jvm.Cond.code (⟨"com/example/larder/larder/DoubleValue", "<init>", "(JLjava/util/List;)V"⟩ : MethodName) prog_16_method_1_code 4 none :: ws) ({ frames := 8, cells := 2, slots := 3, locals := 100 } : Room)) (fun as_ U => as_ = #[(.ref x), (.long v), (.ref a)] ∧ Z.Warmed39 U.vm ∧ U.heap = h0) (fun _ _ _ _ _ => True) (fun _ U o U' => ∃ rv_ L_, o = .returned rv_ ∧ Q_dv1 Z x v a b k q mr em u1 u2 h0 n0 rv_ U'.heap L_ ∧ FrameEnd U o U' L_ ({ frames := 8, cells := 2, slots := 3, locals := 100 } : Room).cells ({ frames := 8, cells := 2, slots := 3, locals := 100 } : Room).slots) := by
  refine MetFree.of_bodySF (plainFor_of_name own_pn_com_example_larder_larder_DoubleValue) hisR ?_
  intro p e s m args below meth c s₁ Bd hml0 hP hK
  obtain ⟨rfl, hZ, hh⟩ := hP
  have hx := Bd.exec
  have hby := Bd.bytes
  have hml : c.maxLocals = 4 := hml0
  have hown : s.vm.findClass "com/example/larder/larder/DoubleValue" = some m.cls := findClass_of_methodNamed Bd.named
  have hnm := (name_of_methodNamed Bd.named Bd.method).1
  have X0 : Stand p l e ({ frames := 8, cells := 2, slots := 3, locals := 100 } : Room) s m #[(.ref x), (.long v), (.ref a)] below meth c s₁ [] 0 0 := Stand.of_body Bd
  have e0 : s₁.heap = h0 := by rw [← hh, Bd.state]; rfl
  have N0 := Fr.nil n0
  refine own_Goes.of ?_
  refine own_Goes.nm (fun P hPP => ?_)
  refine own_Goes.st ?_ (fun _ k => castTop (own_ef_dv1 m x v a) k)
  have K0 : Keep h0 h0 [x] := Keep.refl _ _
  show own_Goes p.tables e below P (s₁.setTop (mkF m 0 #[.val (.ref x), .val (.long v), .second, .val (.ref a)] []))
  refine own_Goes.st ?_ (fun _ k => XS.aloadN X0.here hx rfl (hb hby own_d_prog_16_method_1_0) rfl rfl k)
  show own_Goes p.tables e below P (s₁.setTop (mkF m 1 #[.val (.ref x), .val (.long v), .second, .val (.ref a)] [(.ref x)]))
  obtain ⟨_, _, ⟨T1, L1, k1, n1⟩, -, X1, ⟨Lc1, hQ1, l1, y1, z1⟩, st1⟩ := X0.specialBack hx (y := (⟨"java/lang/Record", "<init>", "()V"⟩ : MethodName)) rfl hown (mvT hZ (hw _ (List.mem_of_getElem? (i := 32) rfl))) (mvT hZ (hw _ (List.mem_of_getElem? (i := 33) rfl))) (mvT hZ (hw _ (List.mem_of_getElem? (i := 36) rfl))) (by decide) (backOf (W := 0) (rm_rec l Z a0 hw [] x h0 n0 Z0) hZ (hw _ (List.mem_of_getElem? (i := 36) rfl)) (hw _ (List.mem_of_getElem? (i := 35) rfl)) (by decide) (by decide)) (g := (mkF m 1 #[.val (.ref x), .val (.long v), .second, .val (.ref a)] [(.ref x)])) rfl (by rw [hml]; rfl) (Steps.refl _) (a := x) (argsL := []) (rest := []) (lenOf own_pd__28__29_V rfl) rfl (by show 2 * 0 + _ ≤ _; exact Nat.le_of_eq rfl) (hb hby own_d_prog_16_method_1_1) (fun _ _ => ⟨rfl, e0, (by decide : 0 + 0 ≤ _), (by decide : 0 + 0 ≤ _)⟩)
  dsimp only [Pt.U, Pt.locs, Pt.cells, Pt.slots] at X1 l1 y1 z1 st1 hQ1
  rw [l1, y1, z1] at X1
  obtain ⟨rfl, Nq1, e1⟩ := hQ1
  have N1 := Fr.app N0 Nq1
  refine own_Goes.tr st1 ?_
  show own_Goes p.tables e below P (T1.setTop (mkF m 4 #[.val (.ref x), .val (.long v), .second, .val (.ref a)] []))
  refine own_Goes.st ?_ (fun _ k => XS.aloadN X1.here hx rfl (hb hby own_d_prog_16_method_1_4) rfl rfl k)
  show own_Goes p.tables e below P (T1.setTop (mkF m 5 #[.val (.ref x), .val (.long v), .second, .val (.ref a)] [(.ref a)]))
  obtain ⟨_, _, ⟨T2, L2, k2, n2⟩, -, X2, ⟨Lc2, hQ2, l2, y2, z2⟩, st2⟩ := Jvm.LawKit.callS X1 hx (y := (⟨"java/util/List", "copyOf", "(Ljava/util/Collection;)Ljava/util/List;"⟩ : MethodName)) hown (mvT hZ (hw _ (List.mem_of_getElem? (i := 38) rfl))) (mvT hZ (hw _ (List.mem_of_getElem? (i := 39) rfl))) (mvT hZ (hw _ (List.mem_of_getElem? (i := 40) rfl))) (mvT hZ (hw _ (List.mem_of_getElem? (i := 41) rfl))) (by decide) (backOf (W := 0) (rm_cp1 l Z a0 hw [] a b k q mr em h0 n0 Z0 pr4 pr5 pr6 pr7 pr8 pr9 pr10 pr11 pr12) hZ (hw _ (List.mem_of_getElem? (i := 41) rfl)) (hw _ (List.mem_of_getElem? (i := 40) rfl)) (by decide) (by decide)) (g := (mkF m 5 #[.val (.ref x), .val (.long v), .second, .val (.ref a)] [(.ref a)])) rfl (by rw [hml]; rfl) (argsL := [(.ref a)]) (rest := []) (lenOf own_pd__28_Ljava_2f_util_2f_Collection_3b__29_Ljava_2f_util_2f_List_3b_ rfl) rfl (by show 2 * 0 + _ ≤ _; exact Nat.le_of_eq rfl) (hb hby own_d_prog_16_method_1_5) (fun _ _ => ⟨rfl, e1, (by decide : 0 + 2 ≤ _), (by decide : 0 + 3 ≤ _)⟩)
  dsimp only [Pt.U, Pt.locs, Pt.cells, Pt.slots] at X2 l2 y2 z2 st2 hQ2
  rw [l2, y2, z2] at X2
  obtain ⟨t2, rfl, Nq2, K2, f3⟩ := hQ2
  have N2 := Fr.app N1 Nq2
  refine own_Goes.st ?_ st2
  have ne4 : x ≠ t2 := Nat.ne_of_lt (Nat.lt_of_lt_of_le pr0.lt f3)
  have ne5 : a ≠ t2 := Nat.ne_of_lt (Nat.lt_of_lt_of_le pr4.lt f3)
  have ne6 : b ≠ t2 := Nat.ne_of_lt (Nat.lt_of_lt_of_le pr7.lt f3)
  have ne7 : q ≠ t2 := Nat.ne_of_lt (Nat.lt_of_lt_of_le pr9.lt f3)
  have ge_t2 : n0 ≤ t2 := Nat.le_trans Z0 f3
  have sz_t2 : h0.size ≤ t2 := Nat.le_trans K0.1 f3
  have Z8 : n0 ≤ T2.heap.size := Nat.le_trans Z0 K2.1
  have K9 := K0.trans K2 all0
  have O10 := pr12.keep K2 all0
  show own_Goes p.tables e below P (T2.setTop (mkF m 8 #[.val (.ref x), .val (.long v), .second, .val (.ref a)] [(.ref t2)]))
  refine own_Goes.st ?_ (fun _ k => XS.astoreN X2.here hx rfl (hb hby own_d_prog_16_method_1_8) rfl rfl (l' := #[.val (.ref x), .val (.long v), .second, .val (.ref t2)]) rfl k)
  show own_Goes p.tables e below P (T2.setTop (mkF m 9 #[.val (.ref x), .val (.long v), .second, .val (.ref t2)] []))
  refine own_Goes.st ?_ (fun _ k => XS.aloadN X2.here hx rfl (hb hby own_d_prog_16_method_1_9) rfl rfl k)
  show own_Goes p.tables e below P (T2.setTop (mkF m 10 #[.val (.ref x), .val (.long v), .second, .val (.ref t2)] [(.ref x)]))
  refine own_Goes.st ?_ (fun _ k => XS.lloadN X2.here hx rfl (hb hby own_d_prog_16_method_1_10) rfl k)
  show own_Goes p.tables e below P (T2.setTop (mkF m 11 #[.val (.ref x), .val (.long v), .second, .val (.ref t2)] [(.long v), (.ref x)]))
  have F11 : Fld Z T2.heap x "com/example/larder/larder/DoubleValue" "bits" "J" u1 := (pr1.keep K2 nin0)
  have F12 : Exa Z T2.heap x "com/example/larder/larder/DoubleValue" := (pr0.keep K2)
  obtain ⟨T13, h13, X13, e13, W13, st13⟩ := putF X2 hx hZ hown (host := "") (Or.inl (hw _ (List.mem_of_getElem? (i := 67) rfl))) Via.refl rfl F11 F12 (Or.inr ⟨(hw _ (List.mem_of_getElem? (i := 68) rfl)), rfl, hnm⟩) (hw _ (List.mem_of_getElem? (i := 27) rfl)) (ty := .long) (by decide) rfl rfl (g := (mkF m 11 #[.val (.ref x), .val (.long v), .second, .val (.ref t2)] [(.long v), (.ref x)])) rfl rfl (hb hby own_d_prog_16_method_1_11)
  refine own_Goes.st ?_ st13
  have F14 : Fld Z h13 x "com/example/larder/larder/DoubleValue" "bits" "J" (.long v) := F11.same W13
  have Z15 : n0 ≤ h13.size := by rw [W13.size]; exact Z8
  have K16 := K9.wr W13 (Or.inl (List.mem_of_getElem? (i := 0) rfl))
  have O17 := O10.wr W13 pr3
  have N18 := Fr.snoc X13 N2 pr3
  show own_Goes p.tables e below P (T13.setTop (mkF m 14 #[.val (.ref x), .val (.long v), .second, .val (.ref t2)] []))
  refine own_Goes.st ?_ (fun _ k => XS.aloadN X13.here hx rfl (hb hby own_d_prog_16_method_1_14) rfl rfl k)
  show own_Goes p.tables e below P (T13.setTop (mkF m 15 #[.val (.ref x), .val (.long v), .second, .val (.ref t2)] [(.ref x)]))
  refine own_Goes.st ?_ (fun _ k => XS.aloadN X13.here hx rfl (hb hby own_d_prog_16_method_1_15) rfl rfl k)
  show own_Goes p.tables e below P (T13.setTop (mkF m 16 #[.val (.ref x), .val (.long v), .second, .val (.ref t2)] [(.ref t2), (.ref x)]))
  have F19 : Fld Z h13 x "com/example/larder/larder/DoubleValue" "annotations" "Ljava/util/List;" u2 := ((pr2.keep K2 nin0).other W13 (Or.inr (slot_ne (Or.inr (hw _ (List.mem_of_getElem? (i := 70) rfl))) (Or.inr (hw _ (List.mem_of_getElem? (i := 68) rfl))) (by decide) (t := (.object "java/util/List")) (t' := .long) (by decide) (by decide))))
  have F20 : Exa Z h13 x "com/example/larder/larder/DoubleValue" := (F12.wr W13)
  obtain ⟨T21, h21, X21, e21, W21, st21⟩ := putF X13 hx hZ hown (host := "") (Or.inl (hw _ (List.mem_of_getElem? (i := 69) rfl))) Via.refl e13 F19 F20 (Or.inr ⟨(hw _ (List.mem_of_getElem? (i := 70) rfl)), rfl, hnm⟩) (hw _ (List.mem_of_getElem? (i := 27) rfl)) (ty := (.object "java/util/List")) (by decide) rfl rfl (g := (mkF m 16 #[.val (.ref x), .val (.long v), .second, .val (.ref t2)] [(.ref t2), (.ref x)])) rfl rfl (hb hby own_d_prog_16_method_1_16)
  refine own_Goes.st ?_ st21
  have F22 : Fld Z h21 x "com/example/larder/larder/DoubleValue" "annotations" "Ljava/util/List;" (.ref t2) := F19.same W21
  have Z23 : n0 ≤ h21.size := by rw [W21.size]; exact Z15
  have K24 := K16.wr W21 (Or.inl (List.mem_of_getElem? (i := 0) rfl))
  have O25 := O17.wr W21 pr3
  have N26 := Fr.snoc X21 N18 pr3
  show own_Goes p.tables e below P (T21.setTop (mkF m 19 #[.val (.ref x), .val (.long v), .second, .val (.ref t2)] []))
  obtain ⟨fs, hr, hrun, hended, hW, hsame⟩ := X21.leave (v := none) (fun _ => rfl)
  have F27 : Exa Z h21 x "com/example/larder/larder/DoubleValue" := (F20.wr W21)
  have F28 : Fld Z h21 x "com/example/larder/larder/DoubleValue" "bits" "J" (.long v) := (F14.other W21 (Or.inr (slot_ne (Or.inr (hw _ (List.mem_of_getElem? (i := 68) rfl))) (Or.inr (hw _ (List.mem_of_getElem? (i := 70) rfl))) (by decide) (t := .long) (t' := (.object "java/util/List")) (by decide) (by decide))))
  exact own_Goes.fin _ _ (X21.returnOut hx Bd.returns (hb hby own_d_prog_16_method_1_19) hr) (hPP _ _ ⟨hrun, hended, _, _, rfl, (by show Q_dv1 Z x v a b k q mr em u1 u2 h0 n0 _ T21.heap _; rw [e21]; exact ⟨rfl, N26, K24, F27, F28⟩), ⟨_, rfl⟩, hW, hsame.mono (by decide) (by decide)⟩)
theorem own_ef_eqn (m : MethodId) (x0 : Addr) : entryFrame m #[(.ref x0), .null] 3 = mkF m 0 #[.val (.ref x0), .val .null, .unset] [] := by first | (simp [entryFrame, mkF, argsToLocals, Value.category]; done) | rfl
theorem own_d_prog_16_method_6_0 : decode prog_16_method_6_code 0 = .ok (.aload_n 1, 1) := by decide +kernel
theorem own_d_prog_16_method_6_1 : decode prog_16_method_6_code 1 = .ok (.instanceof 14, 3) := by decide +kernel
theorem own_d_prog_16_method_6_4 : decode prog_16_method_6_code 4 = .ok (.ifCond .eq 24, 3) := by decide +kernel
theorem own_d_prog_16_method_6_28 : decode prog_16_method_6_code 28 = .ok (.iconst 0, 1) := by decide +kernel
theorem own_d_prog_16_method_6_29 : decode prog_16_method_6_code 29 = .ok (.ireturn, 1) := by decide +kernel
def Q_eqn (Z : State) (x : Addr) (h0 : Heap) (n0 : Nat) (rv_ : Option Value) (h_ : Heap) (L_ : List Loc) : Prop := rv_ = some (.int (0 : Int32)) ∧ Fr n0 L_ ∧ h_ = h0
set_option maxRecDepth 65536 in
set_option maxHeartbeats 40000000 in
theorem rm_eqn (l : Launch) (Z : State) (a0 : Array Value) (hw : ∀ d ∈ tables_1, d.before a0 Z = true) (ws : List Jvm.Cond) (x : Addr) (h0 : Heap) (n0 : Nat) (Z0 : n0 ≤ h0.size) :
    MetFree l (⟨"com/example/larder/larder/DoubleValue", "equals", "(Ljava/lang/Object;)Z"⟩ : MethodName) (head1 (Jvm.Cond.code (⟨"com/example/larder/larder/DoubleValue", "equals", "(Ljava/lang/Object;)Z"⟩ : MethodName) prog_16_method_6_code 3 (some .boolean) :: ws) ({ frames := 0, cells := 0, slots := 0, locals := 0 } : Room)) (fun as_ U => as_ = #[(.ref x), .null] ∧ Z.Warmed39 U.vm ∧ U.heap = h0) (fun _ _ _ _ _ => True) (fun _ U o U' => ∃ rv_ L_, o = .returned rv_ ∧ Q_eqn Z x h0 n0 rv_ U'.heap L_ ∧ FrameEnd U o U' L_ ({ frames := 0, cells := 0, slots := 0, locals := 0 } : Room).cells ({ frames := 0, cells := 0, slots := 0, locals := 0 } : Room).slots) := by
  refine MetFree.of_bodySF (plainFor_of_name own_pn_com_example_larder_larder_DoubleValue) hisR ?_
  intro p e s m args below meth c s₁ Bd hml0 hP hK
  obtain ⟨rfl, hZ, hh⟩ := hP
  have hx := Bd.exec
  have hby := Bd.bytes
  have hml : c.maxLocals = 3 := hml0
  have hown : s.vm.findClass "com/example/larder/larder/DoubleValue" = some m.cls := findClass_of_methodNamed Bd.named
  have hnm := (name_of_methodNamed Bd.named Bd.method).1
  have X0 : Stand p l e ({ frames := 0, cells := 0, slots := 0, locals := 0 } : Room) s m #[(.ref x), .null] below meth c s₁ [] 0 0 := Stand.of_body Bd
  have e0 : s₁.heap = h0 := by rw [← hh, Bd.state]; rfl
  have N0 := Fr.nil n0
  refine own_Goes.of ?_
  refine own_Goes.nm (fun P hPP => ?_)
  refine own_Goes.st ?_ (fun _ k => castTop (own_ef_eqn m x) k)
  show own_Goes p.tables e below P (s₁.setTop (mkF m 0 #[.val (.ref x), .val .null, .unset] []))
  refine own_Goes.st ?_ (fun _ k => XS.aloadN X0.here hx rfl (hb hby own_d_prog_16_method_6_0) rfl rfl k)
  show own_Goes p.tables e below P (s₁.setTop (mkF m 1 #[.val (.ref x), .val .null, .unset] [.null]))
  refine own_Goes.st ?_ (X0.instanceofNull hx (g := (mkF m 1 #[.val (.ref x), .val .null, .unset] [.null])) rfl rfl (hb hby own_d_prog_16_method_6_1))
  show own_Goes p.tables e below P (s₁.setTop (mkF m 4 #[.val (.ref x), .val .null, .unset] [(.int (0 : Int32))]))
  refine own_Goes.st ?_ (fun _ k => XS.ifYes X0.here hx rfl (pc0 := 4) (pc' := 28) rfl (hb hby own_d_prog_16_method_6_4) rfl ((if0 _ _).trans (teq (by decide : (0 : Int32) = (0 : Int32))).1) (by decide) (by decide) k)
  show own_Goes p.tables e below P (s₁.setTop (mkF m 28 #[.val (.ref x), .val .null, .unset] []))
  refine own_Goes.st ?_ (fun _ k => XS.iconst X0.here hx rfl (hb hby own_d_prog_16_method_6_28) k)
  show own_Goes p.tables e below P (s₁.setTop (mkF m 29 #[.val (.ref x), .val .null, .unset] [(.int (0 : Int32))]))
  obtain ⟨fs, hr, hrun, hended, hW, hsame⟩ := X0.leave (v := some (.int (0 : Int32))) (fun h => by rw [Bd.returns] at h; cases h)
  exact own_Goes.fin _ _ (retOut X0 hx (t := .boolean) Bd.returns rfl (Or.inl ⟨rfl, Or.inr (Or.inl rfl), _, rfl⟩) (hb hby own_d_prog_16_method_6_29) hr) (hPP _ _ ⟨hrun, hended, _, _, rfl, (by show Q_eqn Z x h0 n0 _ s₁.heap _; rw [e0]; exact ⟨rfl, N0, rfl⟩), ⟨_, rfl⟩, hW, hsame.mono (by decide) (by decide)⟩)
theorem own_ef_eqb (m : MethodId) (x0 : Addr) (x1 : Addr) : entryFrame m #[(.ref x0), (.ref x1)] 3 = mkF m 0 #[.val (.ref x0), .val (.ref x1), .unset] [] := by first | (simp [entryFrame, mkF, argsToLocals, Value.category]; done) | rfl
def Q_eqb (Z : State) (x : Addr) (y : Addr) (h0 : Heap) (n0 : Nat) (rv_ : Option Value) (h_ : Heap) (L_ : List Loc) : Prop := rv_ = some (.int (0 : Int32)) ∧ Fr n0 L_ ∧ h_ = h0
set_option maxRecDepth 65536 in
set_option maxHeartbeats 40000000 in
theorem rm_eqb (l : Launch) (Z : State) (a0 : Array Value) (hw : ∀ d ∈ tables_1, d.before a0 Z = true) (ws : List Jvm.Cond) (x : Addr) (y : Addr) (h0 : Heap) (n0 : Nat) (Z0 : n0 ≤ h0.size) (pr0 : Exa Z h0 y "com/example/larder/larder/BooleanValue") :
    MetFree l (⟨"com/example/larder/larder/DoubleValue", "equals", "(Ljava/lang/Object;)Z"⟩ : MethodName) (head1 (Jvm.Cond.code (⟨"com/example/larder/larder/DoubleValue", "equals", "(Ljava/lang/Object;)Z"⟩ : MethodName) prog_16_method_6_code 3 (some .boolean) :: ws) ({ frames := 0, cells := 0, slots := 0, locals := 0 } : Room)) (fun as_ U => as_ = #[(.ref x), (.ref y)] ∧ Z.Warmed39 U.vm ∧ U.heap = h0) (fun _ _ _ _ _ => True) (fun _ U o U' => ∃ rv_ L_, o = .returned rv_ ∧ Q_eqb Z x y h0 n0 rv_ U'.heap L_ ∧ FrameEnd U o U' L_ ({ frames := 0, cells := 0, slots := 0, locals := 0 } : Room).cells ({ frames := 0, cells := 0, slots := 0, locals := 0 } : Room).slots) := by
  refine MetFree.of_bodySF (plainFor_of_name own_pn_com_example_larder_larder_DoubleValue) hisR ?_
  intro p e s m args below meth c s₁ Bd hml0 hP hK
  obtain ⟨rfl, hZ, hh⟩ := hP
  have hx := Bd.exec
  have hby := Bd.bytes
  have hml : c.maxLocals = 3 := hml0
  have hown : s.vm.findClass "com/example/larder/larder/DoubleValue" = some m.cls := findClass_of_methodNamed Bd.named
  have hnm := (name_of_methodNamed Bd.named Bd.method).1
  have X0 : Stand p l e ({ frames := 0, cells := 0, slots := 0, locals := 0 } : Room) s m #[(.ref x), (.ref y)] below meth c s₁ [] 0 0 := Stand.of_body Bd
  have e0 : s₁.heap = h0 := by rw [← hh, Bd.state]; rfl
  have N0 := Fr.nil n0
  refine own_Goes.of ?_
  refine own_Goes.nm (fun P hPP => ?_)
  refine own_Goes.st ?_ (fun _ k => castTop (own_ef_eqb m x y) k)
  show own_Goes p.tables e below P (s₁.setTop (mkF m 0 #[.val (.ref x), .val (.ref y), .unset] []))
  refine own_Goes.st ?_ (fun _ k => XS.aloadN X0.here hx rfl (hb hby own_d_prog_16_method_6_0) rfl rfl k)
  show own_Goes p.tables e below P (s₁.setTop (mkF m 1 #[.val (.ref x), .val (.ref y), .unset] [(.ref y)]))
  obtain ⟨T1, X1, e1, st1⟩ := instNo X0 hx hZ hown (hw _ (List.mem_of_getElem? (i := 76) rfl)) e0 pr0 (own_NSno (hw _ (List.mem_of_getElem? (i := 194) rfl)) (own_found_ins (hw _ (List.mem_of_getElem? (i := 27) rfl))) (NS.step (hw _ (List.mem_of_getElem? (i := 194) rfl)) (NS.step (hw _ (List.mem_of_getElem? (i := 195) rfl)) (own_NSroot (hw _ (List.mem_of_getElem? (i := 50) rfl)) (own_found_ins (hw _ (List.mem_of_getElem? (i := 27) rfl))) (by decide)) (by decide)) (by decide)) (by decide)) (g := (mkF m 1 #[.val (.ref x), .val (.ref y), .unset] [(.ref y)])) rfl rfl (hb hby own_d_prog_16_method_6_1)
  refine own_Goes.st ?_ st1
  show own_Goes p.tables e below P (T1.setTop (mkF m 4 #[.val (.ref x), .val (.ref y), .unset] [(.int (0 : Int32))]))
  refine own_Goes.st ?_ (fun _ k => XS.ifYes X1.here hx rfl (pc0 := 4) (pc' := 28) rfl (hb hby own_d_prog_16_method_6_4) rfl ((if0 _ _).trans (teq (by decide : (0 : Int32) = (0 : Int32))).1) (by decide) (by decide) k)
  show own_Goes p.tables e below P (T1.setTop (mkF m 28 #[.val (.ref x), .val (.ref y), .unset] []))
  refine own_Goes.st ?_ (fun _ k => XS.iconst X1.here hx rfl (hb hby own_d_prog_16_method_6_28) k)
  show own_Goes p.tables e below P (T1.setTop (mkF m 29 #[.val (.ref x), .val (.ref y), .unset] [(.int (0 : Int32))]))
  obtain ⟨fs, hr, hrun, hended, hW, hsame⟩ := X1.leave (v := some (.int (0 : Int32))) (fun h => by rw [Bd.returns] at h; cases h)
  exact own_Goes.fin _ _ (retOut X1 hx (t := .boolean) Bd.returns rfl (Or.inl ⟨rfl, Or.inr (Or.inl rfl), _, rfl⟩) (hb hby own_d_prog_16_method_6_29) hr) (hPP _ _ ⟨hrun, hended, _, _, rfl, (by show Q_eqb Z x y h0 n0 _ T1.heap _; rw [e1]; exact ⟨rfl, N0, rfl⟩), ⟨_, rfl⟩, hW, hsame.mono (by decide) (by decide)⟩)
theorem own_ef_eql (m : MethodId) (x0 : Addr) (x1 : Addr) : entryFrame m #[(.ref x0), (.ref x1)] 3 = mkF m 0 #[.val (.ref x0), .val (.ref x1), .unset] [] := by first | (simp [entryFrame, mkF, argsToLocals, Value.category]; done) | rfl
def Q_eql (Z : State) (x : Addr) (y : Addr) (h0 : Heap) (n0 : Nat) (rv_ : Option Value) (h_ : Heap) (L_ : List Loc) : Prop := rv_ = some (.int (0 : Int32)) ∧ Fr n0 L_ ∧ h_ = h0
set_option maxRecDepth 65536 in
set_option maxHeartbeats 40000000 in
theorem rm_eql (l : Launch) (Z : State) (a0 : Array Value) (hw : ∀ d ∈ tables_1, d.before a0 Z = true) (ws : List Jvm.Cond) (x : Addr) (y : Addr) (h0 : Heap) (n0 : Nat) (Z0 : n0 ≤ h0.size) (pr0 : Exa Z h0 y "java/lang/Long") :
    MetFree l (⟨"com/example/larder/larder/DoubleValue", "equals", "(Ljava/lang/Object;)Z"⟩ : MethodName) (head1 (Jvm.Cond.code (⟨"com/example/larder/larder/DoubleValue", "equals", "(Ljava/lang/Object;)Z"⟩ : MethodName) prog_16_method_6_code 3 (some .boolean) :: ws) ({ frames := 0, cells := 0, slots := 0, locals := 0 } : Room)) (fun as_ U => as_ = #[(.ref x), (.ref y)] ∧ Z.Warmed39 U.vm ∧ U.heap = h0) (fun _ _ _ _ _ => True) (fun _ U o U' => ∃ rv_ L_, o = .returned rv_ ∧ Q_eql Z x y h0 n0 rv_ U'.heap L_ ∧ FrameEnd U o U' L_ ({ frames := 0, cells := 0, slots := 0, locals := 0 } : Room).cells ({ frames := 0, cells := 0, slots := 0, locals := 0 } : Room).slots) := by
  refine MetFree.of_bodySF (plainFor_of_name own_pn_com_example_larder_larder_DoubleValue) hisR ?_
  intro p e s m args below meth c s₁ Bd hml0 hP hK
  obtain ⟨rfl, hZ, hh⟩ := hP
  have hx := Bd.exec
  have hby := Bd.bytes
  have hml : c.maxLocals = 3 := hml0
  have hown : s.vm.findClass "com/example/larder/larder/DoubleValue" = some m.cls := findClass_of_methodNamed Bd.named
  have hnm := (name_of_methodNamed Bd.named Bd.method).1
  have X0 : Stand p l e ({ frames := 0, cells := 0, slots := 0, locals := 0 } : Room) s m #[(.ref x), (.ref y)] below meth c s₁ [] 0 0 := Stand.of_body Bd
  have e0 : s₁.heap = h0 := by rw [← hh, Bd.state]; rfl
  have N0 := Fr.nil n0
  refine own_Goes.of ?_
  refine own_Goes.nm (fun P hPP => ?_)
  refine own_Goes.st ?_ (fun _ k => castTop (own_ef_eql m x y) k)
  show own_Goes p.tables e below P (s₁.setTop (mkF m 0 #[.val (.ref x), .val (.ref y), .unset] []))
  refine own_Goes.st ?_ (fun _ k => XS.aloadN X0.here hx rfl (hb hby own_d_prog_16_method_6_0) rfl rfl k)
  show own_Goes p.tables e below P (s₁.setTop (mkF m 1 #[.val (.ref x), .val (.ref y), .unset] [(.ref y)]))
  obtain ⟨T1, X1, e1, st1⟩ := instNo X0 hx hZ hown (hw _ (List.mem_of_getElem? (i := 76) rfl)) e0 pr0 (own_NSno (hw _ (List.mem_of_getElem? (i := 217) rfl)) (own_found_ins (hw _ (List.mem_of_getElem? (i := 27) rfl))) (NS.step (hw _ (List.mem_of_getElem? (i := 217) rfl)) (NS.step (hw _ (List.mem_of_getElem? (i := 218) rfl)) (own_NSroot (hw _ (List.mem_of_getElem? (i := 50) rfl)) (own_found_ins (hw _ (List.mem_of_getElem? (i := 27) rfl))) (by decide)) (by decide)) (by decide)) (by decide)) (g := (mkF m 1 #[.val (.ref x), .val (.ref y), .unset] [(.ref y)])) rfl rfl (hb hby own_d_prog_16_method_6_1)
  refine own_Goes.st ?_ st1
  show own_Goes p.tables e below P (T1.setTop (mkF m 4 #[.val (.ref x), .val (.ref y), .unset] [(.int (0 : Int32))]))
  refine own_Goes.st ?_ (fun _ k => XS.ifYes X1.here hx rfl (pc0 := 4) (pc' := 28) rfl (hb hby own_d_prog_16_method_6_4) rfl ((if0 _ _).trans (teq (by decide : (0 : Int32) = (0 : Int32))).1) (by decide) (by decide) k)
  show own_Goes p.tables e below P (T1.setTop (mkF m 28 #[.val (.ref x), .val (.ref y), .unset] []))
  refine own_Goes.st ?_ (fun _ k => XS.iconst X1.here hx rfl (hb hby own_d_prog_16_method_6_28) k)
  show own_Goes p.tables e below P (T1.setTop (mkF m 29 #[.val (.ref x), .val (.ref y), .unset] [(.int (0 : Int32))]))
  obtain ⟨fs, hr, hrun, hended, hW, hsame⟩ := X1.leave (v := some (.int (0 : Int32))) (fun h => by rw [Bd.returns] at h; cases h)
  exact own_Goes.fin _ _ (retOut X1 hx (t := .boolean) Bd.returns rfl (Or.inl ⟨rfl, Or.inr (Or.inl rfl), _, rfl⟩) (hb hby own_d_prog_16_method_6_29) hr) (hPP _ _ ⟨hrun, hended, _, _, rfl, (by show Q_eql Z x y h0 n0 _ T1.heap _; rw [e1]; exact ⟨rfl, N0, rfl⟩), ⟨_, rfl⟩, hW, hsame.mono (by decide) (by decide)⟩)
theorem own_ef_eqd (m : MethodId) (x0 : Addr) (x1 : Addr) : entryFrame m #[(.ref x0), (.ref x1)] 3 = mkF m 0 #[.val (.ref x0), .val (.ref x1), .unset] [] := by first | (simp [entryFrame, mkF, argsToLocals, Value.category]; done) | rfl
theorem own_d_prog_16_method_6_7 : decode prog_16_method_6_code 7 = .ok (.aload_n 1, 1) := by decide +kernel
theorem own_d_prog_16_method_6_8 : decode prog_16_method_6_code 8 = .ok (.checkcast 14, 3) := by decide +kernel
theorem own_d_prog_16_method_6_11 : decode prog_16_method_6_code 11 = .ok (.astore_n 2, 1) := by decide +kernel
theorem own_d_prog_16_method_6_12 : decode prog_16_method_6_code 12 = .ok (.aload_n 0, 1) := by decide +kernel
theorem own_d_prog_16_method_6_13 : decode prog_16_method_6_code 13 = .ok (.getfield 13, 3) := by decide +kernel
theorem own_d_prog_16_method_6_16 : decode prog_16_method_6_code 16 = .ok (.aload_n 2, 1) := by decide +kernel
theorem own_d_prog_16_method_6_17 : decode prog_16_method_6_code 17 = .ok (.getfield 13, 3) := by decide +kernel
theorem own_d_prog_16_method_6_20 : decode prog_16_method_6_code 20 = .ok (.lcmp, 1) := by decide +kernel
theorem own_d_prog_16_method_6_21 : decode prog_16_method_6_code 21 = .ok (.ifCond .ne 7, 3) := by decide +kernel
theorem own_d_prog_16_method_6_24 : decode prog_16_method_6_code 24 = .ok (.iconst 1, 1) := by decide +kernel
theorem own_d_prog_16_method_6_25 : decode prog_16_method_6_code 25 = .ok (.goto 4, 3) := by decide +kernel
def Q_eqd (Z : State) (x : Addr) (y : Addr) (u : Int64) (v : Int64) (h0 : Heap) (n0 : Nat) (rv_ : Option Value) (h_ : Heap) (L_ : List Loc) : Prop := rv_ = some (.int (own_eqv u v)) ∧ Fr n0 L_ ∧ h_ = h0
set_option maxRecDepth 65536 in
set_option maxHeartbeats 40000000 in
theorem rm_eqd (l : Launch) (Z : State) (a0 : Array Value) (hw : ∀ d ∈ tables_1, d.before a0 Z = true) (ws : List Jvm.Cond) (x : Addr) (y : Addr) (u : Int64) (v : Int64) (h0 : Heap) (n0 : Nat) (Z0 : n0 ≤ h0.size) (pr0 : Fld Z h0 x "com/example/larder/larder/DoubleValue" "bits" "J" (.long u)) (pr1 : Exa Z h0 y "com/example/larder/larder/DoubleValue") (pr2 : Fld Z h0 y "com/example/larder/larder/DoubleValue" "bits" "J" (.long v)) :
    MetFree l (⟨"com/example/larder/larder/DoubleValue", "equals", "(Ljava/lang/Object;)Z"⟩ : MethodName) (head1 (Jvm.Cond.code (⟨"com/example/larder/larder/DoubleValue", "equals", "(Ljava/lang/Object;)Z"⟩ : MethodName) prog_16_method_6_code 3 (some .boolean) :: ws) ({ frames := 0, cells := 0, slots := 0, locals := 0 } : Room)) (fun as_ U => as_ = #[(.ref x), (.ref y)] ∧ Z.Warmed39 U.vm ∧ U.heap = h0) (fun _ _ _ _ _ => True) (fun _ U o U' => ∃ rv_ L_, o = .returned rv_ ∧ Q_eqd Z x y u v h0 n0 rv_ U'.heap L_ ∧ FrameEnd U o U' L_ ({ frames := 0, cells := 0, slots := 0, locals := 0 } : Room).cells ({ frames := 0, cells := 0, slots := 0, locals := 0 } : Room).slots) := by
  refine MetFree.of_bodySF (plainFor_of_name own_pn_com_example_larder_larder_DoubleValue) hisR ?_
  intro p e s m args below meth c s₁ Bd hml0 hP hK
  obtain ⟨rfl, hZ, hh⟩ := hP
  have hx := Bd.exec
  have hby := Bd.bytes
  have hml : c.maxLocals = 3 := hml0
  have hown : s.vm.findClass "com/example/larder/larder/DoubleValue" = some m.cls := findClass_of_methodNamed Bd.named
  have hnm := (name_of_methodNamed Bd.named Bd.method).1
  have X0 : Stand p l e ({ frames := 0, cells := 0, slots := 0, locals := 0 } : Room) s m #[(.ref x), (.ref y)] below meth c s₁ [] 0 0 := Stand.of_body Bd
  have e0 : s₁.heap = h0 := by rw [← hh, Bd.state]; rfl
  have N0 := Fr.nil n0
  refine own_Goes.of ?_
  refine own_Goes.nm (fun P hPP => ?_)
  refine own_Goes.st ?_ (fun _ k => castTop (own_ef_eqd m x y) k)
  show own_Goes p.tables e below P (s₁.setTop (mkF m 0 #[.val (.ref x), .val (.ref y), .unset] []))
  refine own_Goes.st ?_ (fun _ k => XS.aloadN X0.here hx rfl (hb hby own_d_prog_16_method_6_0) rfl rfl k)
  show own_Goes p.tables e below P (s₁.setTop (mkF m 1 #[.val (.ref x), .val (.ref y), .unset] [(.ref y)]))
  obtain ⟨T1, X1, e1, st1⟩ := instY X0 hx hZ hown (hw _ (List.mem_of_getElem? (i := 76) rfl)) e0 (Ins.self pr1) (g := (mkF m 1 #[.val (.ref x), .val (.ref y), .unset] [(.ref y)])) rfl rfl (hb hby own_d_prog_16_method_6_1)
  refine own_Goes.st ?_ st1
  show own_Goes p.tables e below P (T1.setTop (mkF m 4 #[.val (.ref x), .val (.ref y), .unset] [(.int (1 : Int32))]))
  refine own_Goes.st ?_ (fun _ k => XS.ifNo X1.here hx rfl (hb hby own_d_prog_16_method_6_4) rfl ((if0 _ _).trans (feq (by decide : ¬ ((1 : Int32) = (0 : Int32)))).1) k)
  show own_Goes p.tables e below P (T1.setTop (mkF m 7 #[.val (.ref x), .val (.ref y), .unset] []))
  refine own_Goes.st ?_ (fun _ k => XS.aloadN X1.here hx rfl (hb hby own_d_prog_16_method_6_7) rfl rfl k)
  show own_Goes p.tables e below P (T1.setTop (mkF m 8 #[.val (.ref x), .val (.ref y), .unset] [(.ref y)]))
  obtain ⟨T2, X2, e2, st2⟩ := castY X1 hx hZ hown (hw _ (List.mem_of_getElem? (i := 76) rfl)) e1 (Ins.self pr1) (g := (mkF m 8 #[.val (.ref x), .val (.ref y), .unset] [(.ref y)])) rfl rfl (hb hby own_d_prog_16_method_6_8)
  refine own_Goes.st ?_ st2
  show own_Goes p.tables e below P (T2.setTop (mkF m 11 #[.val (.ref x), .val (.ref y), .unset] [(.ref y)]))
  refine own_Goes.st ?_ (fun _ k => XS.astoreN X2.here hx rfl (hb hby own_d_prog_16_method_6_11) rfl rfl (l' := #[.val (.ref x), .val (.ref y), .val (.ref y)]) rfl k)
  show own_Goes p.tables e below P (T2.setTop (mkF m 12 #[.val (.ref x), .val (.ref y), .val (.ref y)] []))
  refine own_Goes.st ?_ (fun _ k => XS.aloadN X2.here hx rfl (hb hby own_d_prog_16_method_6_12) rfl rfl k)
  show own_Goes p.tables e below P (T2.setTop (mkF m 13 #[.val (.ref x), .val (.ref y), .val (.ref y)] [(.ref x)]))
  obtain ⟨T3, X3, e3, st3⟩ := getF X2 hx hZ hown (host := "") (Or.inl (hw _ (List.mem_of_getElem? (i := 67) rfl))) Via.refl e2 pr0 (g := (mkF m 13 #[.val (.ref x), .val (.ref y), .val (.ref y)] [(.ref x)])) rfl rfl (hb hby own_d_prog_16_method_6_13)
  refine own_Goes.st ?_ st3
  show own_Goes p.tables e below P (T3.setTop (mkF m 16 #[.val (.ref x), .val (.ref y), .val (.ref y)] [(.long u)]))
  refine own_Goes.st ?_ (fun _ k => XS.aloadN X3.here hx rfl (hb hby own_d_prog_16_method_6_16) rfl rfl k)
  show own_Goes p.tables e below P (T3.setTop (mkF m 17 #[.val (.ref x), .val (.ref y), .val (.ref y)] [(.ref y), (.long u)]))
  obtain ⟨T4, X4, e4, st4⟩ := getF X3 hx hZ hown (host := "") (Or.inl (hw _ (List.mem_of_getElem? (i := 67) rfl))) Via.refl e3 pr2 (g := (mkF m 17 #[.val (.ref x), .val (.ref y), .val (.ref y)] [(.ref y), (.long u)])) rfl rfl (hb hby own_d_prog_16_method_6_17)
  refine own_Goes.st ?_ st4
  show own_Goes p.tables e below P (T4.setTop (mkF m 20 #[.val (.ref x), .val (.ref y), .val (.ref y)] [(.long v), (.long u)]))
  refine own_Goes.st ?_ (fun _ k => XS.lcmp X4.here hx rfl (hb hby own_d_prog_16_method_6_20) rfl k)
  show own_Goes p.tables e below P (T4.setTop (mkF m 21 #[.val (.ref x), .val (.ref y), .val (.ref y)] [(.int (lcmpW u v))]))
  by_cases h1 : u = v
  · skip
    refine own_Goes.st ?_ (fun _ k => XS.ifNo X4.here hx rfl (hb hby own_d_prog_16_method_6_21) rfl ((if0 _ _).trans (teq ((lw_eq _ _).mpr h1)).2) k)
    show own_Goes p.tables e below P (T4.setTop (mkF m 24 #[.val (.ref x), .val (.ref y), .val (.ref y)] []))
    refine own_Goes.st ?_ (fun _ k => XS.iconst X4.here hx rfl (hb hby own_d_prog_16_method_6_24) k)
    show own_Goes p.tables e below P (T4.setTop (mkF m 25 #[.val (.ref x), .val (.ref y), .val (.ref y)] [(.int (1 : Int32))]))
    refine own_Goes.st ?_ (fun _ k => XS.goto X4.here hx rfl (pc0 := 25) (pc' := 29) rfl (hb hby own_d_prog_16_method_6_25) (by decide) (by decide) k)
    show own_Goes p.tables e below P (T4.setTop (mkF m 29 #[.val (.ref x), .val (.ref y), .val (.ref y)] [(.int (1 : Int32))]))
    obtain ⟨fs, hr, hrun, hended, hW, hsame⟩ := X4.leave (v := some (.int (1 : Int32))) (fun h => by rw [Bd.returns] at h; cases h)
    exact own_Goes.fin _ _ (retOut X4 hx (t := .boolean) Bd.returns rfl (Or.inl ⟨rfl, Or.inr (Or.inl rfl), _, rfl⟩) (hb hby own_d_prog_16_method_6_29) hr) (hPP _ _ ⟨hrun, hended, _, _, rfl, (by show Q_eqd Z x y u v h0 n0 _ T4.heap _; rw [e4]; exact ⟨(by rw [own_eqv1 h1]), N0, rfl⟩), ⟨_, rfl⟩, hW, hsame.mono (by decide) (by decide)⟩)
  · skip
    refine own_Goes.st ?_ (fun _ k => XS.ifYes X4.here hx rfl (pc0 := 21) (pc' := 28) rfl (hb hby own_d_prog_16_method_6_21) rfl ((if0 _ _).trans (feq (fun q => h1 ((lw_eq _ _).mp q))).2) (by decide) (by decide) k)
    show own_Goes p.tables e below P (T4.setTop (mkF m 28 #[.val (.ref x), .val (.ref y), .val (.ref y)] []))
    refine own_Goes.st ?_ (fun _ k => XS.iconst X4.here hx rfl (hb hby own_d_prog_16_method_6_28) k)
    show own_Goes p.tables e below P (T4.setTop (mkF m 29 #[.val (.ref x), .val (.ref y), .val (.ref y)] [(.int (0 : Int32))]))
    obtain ⟨fs, hr, hrun, hended, hW, hsame⟩ := X4.leave (v := some (.int (0 : Int32))) (fun h => by rw [Bd.returns] at h; cases h)
    exact own_Goes.fin _ _ (retOut X4 hx (t := .boolean) Bd.returns rfl (Or.inl ⟨rfl, Or.inr (Or.inl rfl), _, rfl⟩) (hb hby own_d_prog_16_method_6_29) hr) (hPP _ _ ⟨hrun, hended, _, _, rfl, (by show Q_eqd Z x y u v h0 n0 _ T4.heap _; rw [e4]; exact ⟨(by rw [own_eqv0 h1]), N0, rfl⟩), ⟨_, rfl⟩, hW, hsame.mono (by decide) (by decide)⟩)
theorem own_ef_lnew (m : MethodId) (x0 : Addr) (x1 : Int64) : entryFrame m #[(.ref x0), (.long x1)] 3 = mkF m 0 #[.val (.ref x0), .val (.long x1), .second] [] := by first | (simp [entryFrame, mkF, argsToLocals, Value.category]; done) | rfl
theorem own_pn_java_lang_Long : plainName "java/lang/Long" = true := by first | (simp [plainName, overriddenIn]; done) | decide +kernel
theorem own_d_jdk_35_method_26_0 : decode jdk_35_method_26_code 0 = .ok (.aload_n 0, 1) := by decide +kernel
theorem own_d_jdk_35_method_26_1 : decode jdk_35_method_26_code 1 = .ok (.invokespecial 270, 3) := by decide +kernel
theorem own_d_jdk_35_method_26_4 : decode jdk_35_method_26_code 4 = .ok (.aload_n 0, 1) := by decide +kernel
theorem own_d_jdk_35_method_26_5 : decode jdk_35_method_26_code 5 = .ok (.lload_n 1, 1) := by decide +kernel
theorem own_d_jdk_35_method_26_6 : decode jdk_35_method_26_code 6 = .ok (.putfield 273, 3) := by decide +kernel
theorem own_d_jdk_35_method_26_9 : decode jdk_35_method_26_code 9 = .ok (.return_, 1) := by decide +kernel
def Q_lnew (Z : State) (a : Addr) (v : Int64) (u1 : Value) (h0 : Heap) (n0 : Nat) (rv_ : Option Value) (h_ : Heap) (L_ : List Loc) : Prop := rv_ = none ∧ Fr n0 L_ ∧ Keep h0 h_ [a] ∧ (Exa Z h_ a "java/lang/Long")
set_option maxRecDepth 65536 in
set_option maxHeartbeats 40000000 in
theorem rm_lnew (l : Launch) (Z : State) (a0 : Array Value) (hw : ∀ d ∈ tables_1, d.before a0 Z = true) (ws : List Jvm.Cond) (a : Addr) (v : Int64) (u1 : Value) (h0 : Heap) (n0 : Nat) (Z0 : n0 ≤ h0.size) (pr0 : Exa Z h0 a "java/lang/Long") (pr1 : Fld Z h0 a "java/lang/Long" "value" "J" u1) (pr2 : n0 ≤ a) :
    MetFree l (⟨"java/lang/Long", "<init>", "(J)V"⟩ : MethodName) (head1 (Jvm.Cond.code (⟨"java/lang/Long", "<init>", "(J)V"⟩ : MethodName) jdk_35_method_26_code 3 none :: ws) ({ frames := 2, cells := 0, slots := 0, locals := 24 } : Room)) (fun as_ U => as_ = #[(.ref a), (.long v)] ∧ Z.Warmed39 U.vm ∧ U.heap = h0) (fun _ _ _ _ _ => True) (fun _ U o U' => ∃ rv_ L_, o = .returned rv_ ∧ Q_lnew Z a v u1 h0 n0 rv_ U'.heap L_ ∧ FrameEnd U o U' L_ ({ frames := 2, cells := 0, slots := 0, locals := 24 } : Room).cells ({ frames := 2, cells := 0, slots := 0, locals := 24 } : Room).slots) := by
  refine MetFree.of_bodySF (plainFor_of_name own_pn_java_lang_Long) hisR ?_
  intro p e s m args below meth c s₁ Bd hml0 hP hK
  obtain ⟨rfl, hZ, hh⟩ := hP
  have hx := Bd.exec
  have hby := Bd.bytes
  have hml : c.maxLocals = 3 := hml0
  have hown : s.vm.findClass "java/lang/Long" = some m.cls := findClass_of_methodNamed Bd.named
  have hnm := (name_of_methodNamed Bd.named Bd.method).1
  have X0 : Stand p l e ({ frames := 2, cells := 0, slots := 0, locals := 24 } : Room) s m #[(.ref a), (.long v)] below meth c s₁ [] 0 0 := Stand.of_body Bd
  have e0 : s₁.heap = h0 := by rw [← hh, Bd.state]; rfl
  have N0 := Fr.nil n0
  refine own_Goes.of ?_
  refine own_Goes.nm (fun P hPP => ?_)
  refine own_Goes.st ?_ (fun _ k => castTop (own_ef_lnew m a v) k)
  have K0 : Keep h0 h0 [a] := Keep.refl _ _
  show own_Goes p.tables e below P (s₁.setTop (mkF m 0 #[.val (.ref a), .val (.long v), .second] []))
  refine own_Goes.st ?_ (fun _ k => XS.aloadN X0.here hx rfl (hb hby own_d_jdk_35_method_26_0) rfl rfl k)
  show own_Goes p.tables e below P (s₁.setTop (mkF m 1 #[.val (.ref a), .val (.long v), .second] [(.ref a)]))
  obtain ⟨_, _, ⟨T1, L1, k1, n1⟩, -, X1, ⟨Lc1, hQ1, l1, y1, z1⟩, st1⟩ := X0.specialBack hx (y := (⟨"java/lang/Number", "<init>", "()V"⟩ : MethodName)) rfl hown (mvT hZ (hw _ (List.mem_of_getElem? (i := 208) rfl))) (mvT hZ (hw _ (List.mem_of_getElem? (i := 209) rfl))) (mvT hZ (hw _ (List.mem_of_getElem? (i := 213) rfl))) (by decide) (backOf (W := 0) (rm_num l Z a0 hw [] a h0 n0 Z0) hZ (hw _ (List.mem_of_getElem? (i := 213) rfl)) (hw _ (List.mem_of_getElem? (i := 212) rfl)) (by decide) (by decide)) (g := (mkF m 1 #[.val (.ref a), .val (.long v), .second] [(.ref a)])) rfl (by rw [hml]; rfl) (Steps.refl _) (a := a) (argsL := []) (rest := []) (lenOf own_pd__28__29_V rfl) rfl (by show 2 * 0 + _ ≤ _; exact Nat.le_of_eq rfl) (hb hby own_d_jdk_35_method_26_1) (fun _ _ => ⟨rfl, e0, (by decide : 0 + 0 ≤ _), (by decide : 0 + 0 ≤ _)⟩)
  dsimp only [Pt.U, Pt.locs, Pt.cells, Pt.slots] at X1 l1 y1 z1 st1 hQ1
  rw [l1, y1, z1] at X1
  obtain ⟨rfl, Nq1, e1⟩ := hQ1
  have N1 := Fr.app N0 Nq1
  refine own_Goes.tr st1 ?_
  show own_Goes p.tables e below P (T1.setTop (mkF m 4 #[.val (.ref a), .val (.long v), .second] []))
  refine own_Goes.st ?_ (fun _ k => XS.aloadN X1.here hx rfl (hb hby own_d_jdk_35_method_26_4) rfl rfl k)
  show own_Goes p.tables e below P (T1.setTop (mkF m 5 #[.val (.ref a), .val (.long v), .second] [(.ref a)]))
  refine own_Goes.st ?_ (fun _ k => XS.lloadN X1.here hx rfl (hb hby own_d_jdk_35_method_26_5) rfl k)
  show own_Goes p.tables e below P (T1.setTop (mkF m 6 #[.val (.ref a), .val (.long v), .second] [(.long v), (.ref a)]))
  obtain ⟨T2, h2, X2, e2, W2, st2⟩ := putF X1 hx hZ hown (host := "") (Or.inl (hw _ (List.mem_of_getElem? (i := 215) rfl))) Via.refl e1 pr1 pr0 (Or.inr ⟨(hw _ (List.mem_of_getElem? (i := 216) rfl)), rfl, hnm⟩) (hw _ (List.mem_of_getElem? (i := 203) rfl)) (ty := .long) (by decide) rfl rfl (g := (mkF m 6 #[.val (.ref a), .val (.long v), .second] [(.long v), (.ref a)])) rfl rfl (hb hby own_d_jdk_35_method_26_6)
  refine own_Goes.st ?_ st2
  have F3 : Fld Z h2 a "java/lang/Long" "value" "J" (.long v) := pr1.same W2
  have Z4 : n0 ≤ h2.size := by rw [W2.size]; exact Z0
  have K5 := K0.wr W2 (Or.inl (List.mem_of_getElem? (i := 0) rfl))
  have N6 := Fr.snoc X2 N1 pr2
  show own_Goes p.tables e below P (T2.setTop (mkF m 9 #[.val (.ref a), .val (.long v), .second] []))
  obtain ⟨fs, hr, hrun, hended, hW, hsame⟩ := X2.leave (v := none) (fun _ => rfl)
  have F7 : Exa Z h2 a "java/lang/Long" := (pr0.wr W2)
  exact own_Goes.fin _ _ (X2.returnOut hx Bd.returns (hb hby own_d_jdk_35_method_26_9) hr) (hPP _ _ ⟨hrun, hended, _, _, rfl, (by show Q_lnew Z a v u1 h0 n0 _ T2.heap _; rw [e2]; exact ⟨rfl, N6, K5, F7⟩), ⟨_, rfl⟩, hW, hsame.mono (by decide) (by decide)⟩)
theorem own_ef_lval (m : MethodId) (x0 : Int64) : entryFrame m #[(.long x0)] 3 = mkF m 0 #[.val (.long x0), .second, .unset] [] := by first | (simp [entryFrame, mkF, argsToLocals, Value.category]; done) | rfl
theorem own_d_jdk_35_method_24_0 : decode jdk_35_method_24_code 0 = .ok (.sipush 128, 3) := by decide +kernel
theorem own_d_jdk_35_method_24_3 : decode jdk_35_method_24_code 3 = .ok (.istore_n 2, 1) := by decide +kernel
theorem own_d_jdk_35_method_24_4 : decode jdk_35_method_24_code 4 = .ok (.lload_n 0, 1) := by decide +kernel
theorem own_d_jdk_35_method_24_5 : decode jdk_35_method_24_code 5 = .ok (.ldc2_w 230, 3) := by decide +kernel
theorem own_d_jdk_35_method_24_8 : decode jdk_35_method_24_code 8 = .ok (.lcmp, 1) := by decide +kernel
theorem own_d_jdk_35_method_24_9 : decode jdk_35_method_24_code 9 = .ok (.ifCond .lt 22, 3) := by decide +kernel
theorem own_d_jdk_35_method_24_31 : decode jdk_35_method_24_code 31 = .ok (.new 1, 3) := by decide +kernel
theorem own_d_jdk_35_method_24_34 : decode jdk_35_method_24_code 34 = .ok (.dup, 1) := by decide +kernel
theorem own_d_jdk_35_method_24_35 : decode jdk_35_method_24_code 35 = .ok (.lload_n 0, 1) := by decide +kernel
theorem own_pd__28_J_29_V : parseMethodDescriptor "(J)V" = some ⟨[.long], none⟩ := by decide +kernel
theorem own_d_jdk_35_method_24_36 : decode jdk_35_method_24_code 36 = .ok (.invokespecial 240, 3) := by decide +kernel
theorem own_d_jdk_35_method_24_39 : decode jdk_35_method_24_code 39 = .ok (.areturn, 1) := by decide +kernel
theorem own_d_jdk_35_method_24_12 : decode jdk_35_method_24_code 12 = .ok (.lload_n 0, 1) := by decide +kernel
theorem own_d_jdk_35_method_24_13 : decode jdk_35_method_24_code 13 = .ok (.ldc2_w 232, 3) := by decide +kernel
theorem own_d_jdk_35_method_24_16 : decode jdk_35_method_24_code 16 = .ok (.lcmp, 1) := by decide +kernel
theorem own_d_jdk_35_method_24_17 : decode jdk_35_method_24_code 17 = .ok (.ifCond .gt 14, 3) := by decide +kernel
theorem own_d_jdk_35_method_24_20 : decode jdk_35_method_24_code 20 = .ok (.getstatic 234, 3) := by decide +kernel
theorem own_d_jdk_35_method_24_23 : decode jdk_35_method_24_code 23 = .ok (.lload_n 0, 1) := by decide +kernel
theorem own_d_jdk_35_method_24_24 : decode jdk_35_method_24_code 24 = .ok (.l2i, 1) := by decide +kernel
theorem own_d_jdk_35_method_24_25 : decode jdk_35_method_24_code 25 = .ok (.sipush 128, 3) := by decide +kernel
theorem own_d_jdk_35_method_24_28 : decode jdk_35_method_24_code 28 = .ok (.iadd, 1) := by decide +kernel
theorem own_d_jdk_35_method_24_29 : decode jdk_35_method_24_code 29 = .ok (.aaload, 1) := by decide +kernel
theorem own_d_jdk_35_method_24_30 : decode jdk_35_method_24_code 30 = .ok (.areturn, 1) := by decide +kernel
def Q_lval (Z : State) (v : Int64) (lc : Addr) (cl : Cell) (h0 : Heap) (n0 : Nat) (rv_ : Option Value) (h_ : Heap) (L_ : List Loc) : Prop := ∃ (r : Addr), rv_ = some (.ref r) ∧ Fr n0 L_ ∧ Keep h0 h_ [] ∧ (Exa Z h_ r "java/lang/Long")
set_option maxRecDepth 65536 in
set_option maxHeartbeats 40000000 in
theorem rm_lval (l : Launch) (Z : State) (a0 : Array Value) (hw : ∀ d ∈ tables_1, d.before a0 Z = true) (ws : List Jvm.Cond) (v : Int64) (lc : Addr) (cl : Cell) (h0 : Heap) (n0 : Nat) (Z0 : n0 ≤ h0.size) (pr0 : Sta Z Z.heap "java/lang/Long$LongCache" "cache" "[Ljava/lang/Long;" (.ref lc)) (pr1 : Old Z n0 h0) (hlc : Arr Z Z.heap lc cl (.object "java/lang/Long")) (hls : cl.slots.size = 256) (hla : own_LongAt Z cl) :
    MetFree l (⟨"java/lang/Long", "valueOf", "(J)Ljava/lang/Long;"⟩ : MethodName) (head1 (Jvm.Cond.code (⟨"java/lang/Long", "valueOf", "(J)Ljava/lang/Long;"⟩ : MethodName) jdk_35_method_24_code 3 (some (.object "java/lang/Long")) :: ws) ({ frames := 3, cells := 1, slots := 1, locals := 39 } : Room)) (fun as_ U => as_ = #[(.long v)] ∧ Z.Warmed39 U.vm ∧ U.heap = h0) (fun _ _ _ _ _ => True) (fun _ U o U' => ∃ rv_ L_, o = .returned rv_ ∧ Q_lval Z v lc cl h0 n0 rv_ U'.heap L_ ∧ FrameEnd U o U' L_ ({ frames := 3, cells := 1, slots := 1, locals := 39 } : Room).cells ({ frames := 3, cells := 1, slots := 1, locals := 39 } : Room).slots) := by
  refine MetFree.of_bodySF (plainFor_of_name own_pn_java_lang_Long) hisR ?_
  intro p e s m args below meth c s₁ Bd hml0 hP hK
  obtain ⟨rfl, hZ, hh⟩ := hP
  have hx := Bd.exec
  have hby := Bd.bytes
  have hml : c.maxLocals = 3 := hml0
  have hown : s.vm.findClass "java/lang/Long" = some m.cls := findClass_of_methodNamed Bd.named
  have hnm := (name_of_methodNamed Bd.named Bd.method).1
  have X0 : Stand p l e ({ frames := 3, cells := 1, slots := 1, locals := 39 } : Room) s m #[(.long v)] below meth c s₁ [] 0 0 := Stand.of_body Bd
  have e0 : s₁.heap = h0 := by rw [← hh, Bd.state]; rfl
  have N0 := Fr.nil n0
  refine own_Goes.of ?_
  refine own_Goes.nm (fun P hPP => ?_)
  refine own_Goes.st ?_ (fun _ k => castTop (own_ef_lval m v) k)
  have K0 : Keep h0 h0 [] := Keep.refl _ _
  show own_Goes p.tables e below P (s₁.setTop (mkF m 0 #[.val (.long v), .second, .unset] []))
  refine own_Goes.st ?_ (fun _ k => XS.sipush X0.here hx rfl (hb hby own_d_jdk_35_method_24_0) k)
  show own_Goes p.tables e below P (s₁.setTop (mkF m 3 #[.val (.long v), .second, .unset] [(.int (128 : Int32))]))
  refine own_Goes.st ?_ (fun _ k => XS.istoreN X0.here hx rfl (hb hby own_d_jdk_35_method_24_3) rfl (l' := #[.val (.long v), .second, .val (.int (128 : Int32))]) rfl k)
  show own_Goes p.tables e below P (s₁.setTop (mkF m 4 #[.val (.long v), .second, .val (.int (128 : Int32))] []))
  refine own_Goes.st ?_ (fun _ k => XS.lloadN X0.here hx rfl (hb hby own_d_jdk_35_method_24_4) rfl k)
  show own_Goes p.tables e below P (s₁.setTop (mkF m 5 #[.val (.long v), .second, .val (.int (128 : Int32))] [(.long v)]))
  refine own_Goes.st ?_ (X0.ldc2Long hx hown (mvT hZ (hw _ (List.mem_of_getElem? (i := 200) rfl))) (g := (mkF m 5 #[.val (.long v), .second, .val (.int (128 : Int32))] [(.long v)])) rfl (hb hby own_d_jdk_35_method_24_5))
  show own_Goes p.tables e below P (s₁.setTop (mkF m 8 #[.val (.long v), .second, .val (.int (128 : Int32))] [(.long (-128 : Int64)), (.long v)]))
  refine own_Goes.st ?_ (fun _ k => XS.lcmp X0.here hx rfl (hb hby own_d_jdk_35_method_24_8) rfl k)
  show own_Goes p.tables e below P (s₁.setTop (mkF m 9 #[.val (.long v), .second, .val (.int (128 : Int32))] [(.int (lcmpW v (-128 : Int64)))]))
  by_cases h1 : v < (-128 : Int64)
  · skip
    refine own_Goes.st ?_ (fun _ k => XS.ifYes X0.here hx rfl (pc0 := 9) (pc' := 31) rfl (hb hby own_d_jdk_35_method_24_9) rfl ((if0 _ _).trans (tlt ((lw_lt _ _).mpr h1)).1) (by decide) (by decide) k)
    show own_Goes p.tables e below P (s₁.setTop (mkF m 31 #[.val (.long v), .second, .val (.int (128 : Int32))] []))
    obtain ⟨T1, h1, X1, e1, E1, A1, D1, -, st1⟩ := newO X0 hx hZ hown (hw _ (List.mem_of_getElem? (i := 202) rfl)) (hw _ (List.mem_of_getElem? (i := 203) rfl)) (hw _ (List.mem_of_getElem? (i := 198) rfl)) e0 (g := (mkF m 31 #[.val (.long v), .second, .val (.int (128 : Int32))] [])) rfl (hb hby own_d_jdk_35_method_24_31) (by decide) (by decide)
    obtain ⟨a1, g1⟩ : ∃ z, z = h0.size := ⟨_, rfl⟩
    rw [← g1] at A1 D1 st1
    have ge_a1 : n0 ≤ a1 := Nat.le_trans Z0 (Nat.le_of_eq g1.symm)
    have sz_a1 : h0.size ≤ a1 := Nat.le_trans K0.1 (Nat.le_of_eq g1.symm)
    refine own_Goes.st ?_ st1
    have Z2 : n0 ≤ h1.size := Nat.le_trans Z0 E1.1
    have K3 := K0.ext E1
    have O4 := pr1.ext E1
    have F5 : Fld Z h1 a1 "java/lang/Long" "value" "J" (.long (0 : Int64)) := D1 (Or.inr (hw _ (List.mem_of_getElem? (i := 216) rfl))) (ty := .long) (by decide)
    show own_Goes p.tables e below P (T1.setTop (mkF m 34 #[.val (.long v), .second, .val (.int (128 : Int32))] [(.ref a1)]))
    refine own_Goes.st ?_ (fun _ k => XS.dup X1.here hx rfl (hb hby own_d_jdk_35_method_24_34) rfl rfl k)
    show own_Goes p.tables e below P (T1.setTop (mkF m 35 #[.val (.long v), .second, .val (.int (128 : Int32))] [(.ref a1), (.ref a1)]))
    refine own_Goes.st ?_ (fun _ k => XS.lloadN X1.here hx rfl (hb hby own_d_jdk_35_method_24_35) rfl k)
    show own_Goes p.tables e below P (T1.setTop (mkF m 36 #[.val (.long v), .second, .val (.int (128 : Int32))] [(.long v), (.ref a1), (.ref a1)]))
    obtain ⟨_, _, ⟨T6, L6, k6, n6⟩, -, X6, ⟨Lc6, hQ6, l6, y6, z6⟩, st6⟩ := X1.specialBack hx (y := (⟨"java/lang/Long", "<init>", "(J)V"⟩ : MethodName)) rfl hown (mvT hZ (hw _ (List.mem_of_getElem? (i := 204) rfl))) (mvT hZ (hw _ (List.mem_of_getElem? (i := 205) rfl))) (mvT hZ (hw _ (List.mem_of_getElem? (i := 207) rfl))) (by decide) (backOf (W := 1) (rm_lnew l Z a0 hw [] a1 v (.long (0 : Int64)) h1 n0 Z2 A1 F5 ge_a1) hZ (hw _ (List.mem_of_getElem? (i := 207) rfl)) (hw _ (List.mem_of_getElem? (i := 198) rfl)) (by decide) (by decide)) (g := (mkF m 36 #[.val (.long v), .second, .val (.int (128 : Int32))] [(.long v), (.ref a1), (.ref a1)])) rfl (by rw [hml]; rfl) (Steps.refl _) (a := a1) (argsL := [(.long v)]) (rest := [(.ref a1)]) (lenOf own_pd__28_J_29_V rfl) rfl (by show 2 * 0 + _ ≤ _; exact Nat.le_of_eq rfl) (hb hby own_d_jdk_35_method_24_36) (fun _ _ => ⟨rfl, e1, (by decide : 1 + 0 ≤ _), (by decide : 1 + 0 ≤ _)⟩)
    dsimp only [Pt.U, Pt.locs, Pt.cells, Pt.slots] at X6 l6 y6 z6 st6 hQ6
    rw [l6, y6, z6] at X6
    obtain ⟨rfl, Nq6, K6, f7⟩ := hQ6
    have N6 := Fr.app N0 Nq6
    refine own_Goes.tr st6 ?_
    have Z8 : n0 ≤ T6.heap.size := Nat.le_trans Z2 K6.1
    have K9 := K3.trans K6 (allS (Or.inr sz_a1) all0)
    have O10 := O4.keep K6 (allS ge_a1 all0)
    show own_Goes p.tables e below P (T6.setTop (mkF m 39 #[.val (.long v), .second, .val (.int (128 : Int32))] [(.ref a1)]))
    obtain ⟨fs, hr, hrun, hended, hW, hsame⟩ := X6.leave (v := some (.ref a1)) (fun h => by rw [Bd.returns] at h; cases h)
    exact own_Goes.fin _ _ (retOut X6 hx (t := (.object "java/lang/Long")) Bd.returns rfl (Or.inr (Or.inr (Or.inr (Or.inr ⟨rfl, rfl, rfl⟩)))) (hb hby own_d_jdk_35_method_24_39) hr) (hPP _ _ ⟨hrun, hended, _, _, rfl, (by show Q_lval Z v lc cl h0 n0 _ T6.heap _; exact ⟨a1, rfl, N6, K9, f7⟩), ⟨_, rfl⟩, hW, hsame.mono (by decide) (by decide)⟩)
  · skip
    refine own_Goes.st ?_ (fun _ k => XS.ifNo X0.here hx rfl (hb hby own_d_jdk_35_method_24_9) rfl ((if0 _ _).trans (flt (fun q => h1 ((lw_lt _ _).mp q))).1) k)
    show own_Goes p.tables e below P (s₁.setTop (mkF m 12 #[.val (.long v), .second, .val (.int (128 : Int32))] []))
    refine own_Goes.st ?_ (fun _ k => XS.lloadN X0.here hx rfl (hb hby own_d_jdk_35_method_24_12) rfl k)
    show own_Goes p.tables e below P (s₁.setTop (mkF m 13 #[.val (.long v), .second, .val (.int (128 : Int32))] [(.long v)]))
    refine own_Goes.st ?_ (X0.ldc2Long hx hown (mvT hZ (hw _ (List.mem_of_getElem? (i := 201) rfl))) (g := (mkF m 13 #[.val (.long v), .second, .val (.int (128 : Int32))] [(.long v)])) rfl (hb hby own_d_jdk_35_method_24_13))
    show own_Goes p.tables e below P (s₁.setTop (mkF m 16 #[.val (.long v), .second, .val (.int (128 : Int32))] [(.long (127 : Int64)), (.long v)]))
    refine own_Goes.st ?_ (fun _ k => XS.lcmp X0.here hx rfl (hb hby own_d_jdk_35_method_24_16) rfl k)
    show own_Goes p.tables e below P (s₁.setTop (mkF m 17 #[.val (.long v), .second, .val (.int (128 : Int32))] [(.int (lcmpW v (127 : Int64)))]))
    by_cases h2 : (127 : Int64) < v
    · skip
      refine own_Goes.st ?_ (fun _ k => XS.ifYes X0.here hx rfl (pc0 := 17) (pc' := 31) rfl (hb hby own_d_jdk_35_method_24_17) rfl ((if0 _ _).trans (tlt ((lw_gt _ _).mpr h2)).2.2.1) (by decide) (by decide) k)
      show own_Goes p.tables e below P (s₁.setTop (mkF m 31 #[.val (.long v), .second, .val (.int (128 : Int32))] []))
      obtain ⟨T11, h11, X11, e11, E11, A11, D11, -, st11⟩ := newO X0 hx hZ hown (hw _ (List.mem_of_getElem? (i := 202) rfl)) (hw _ (List.mem_of_getElem? (i := 203) rfl)) (hw _ (List.mem_of_getElem? (i := 198) rfl)) e0 (g := (mkF m 31 #[.val (.long v), .second, .val (.int (128 : Int32))] [])) rfl (hb hby own_d_jdk_35_method_24_31) (by decide) (by decide)
      obtain ⟨a11, g11⟩ : ∃ z, z = h0.size := ⟨_, rfl⟩
      rw [← g11] at A11 D11 st11
      have ge_a11 : n0 ≤ a11 := Nat.le_trans Z0 (Nat.le_of_eq g11.symm)
      have sz_a11 : h0.size ≤ a11 := Nat.le_trans K0.1 (Nat.le_of_eq g11.symm)
      refine own_Goes.st ?_ st11
      have Z12 : n0 ≤ h11.size := Nat.le_trans Z0 E11.1
      have K13 := K0.ext E11
      have O14 := pr1.ext E11
      have F15 : Fld Z h11 a11 "java/lang/Long" "value" "J" (.long (0 : Int64)) := D11 (Or.inr (hw _ (List.mem_of_getElem? (i := 216) rfl))) (ty := .long) (by decide)
      show own_Goes p.tables e below P (T11.setTop (mkF m 34 #[.val (.long v), .second, .val (.int (128 : Int32))] [(.ref a11)]))
      refine own_Goes.st ?_ (fun _ k => XS.dup X11.here hx rfl (hb hby own_d_jdk_35_method_24_34) rfl rfl k)
      show own_Goes p.tables e below P (T11.setTop (mkF m 35 #[.val (.long v), .second, .val (.int (128 : Int32))] [(.ref a11), (.ref a11)]))
      refine own_Goes.st ?_ (fun _ k => XS.lloadN X11.here hx rfl (hb hby own_d_jdk_35_method_24_35) rfl k)
      show own_Goes p.tables e below P (T11.setTop (mkF m 36 #[.val (.long v), .second, .val (.int (128 : Int32))] [(.long v), (.ref a11), (.ref a11)]))
      obtain ⟨_, _, ⟨T16, L16, k16, n16⟩, -, X16, ⟨Lc16, hQ16, l16, y16, z16⟩, st16⟩ := X11.specialBack hx (y := (⟨"java/lang/Long", "<init>", "(J)V"⟩ : MethodName)) rfl hown (mvT hZ (hw _ (List.mem_of_getElem? (i := 204) rfl))) (mvT hZ (hw _ (List.mem_of_getElem? (i := 205) rfl))) (mvT hZ (hw _ (List.mem_of_getElem? (i := 207) rfl))) (by decide) (backOf (W := 1) (rm_lnew l Z a0 hw [] a11 v (.long (0 : Int64)) h11 n0 Z12 A11 F15 ge_a11) hZ (hw _ (List.mem_of_getElem? (i := 207) rfl)) (hw _ (List.mem_of_getElem? (i := 198) rfl)) (by decide) (by decide)) (g := (mkF m 36 #[.val (.long v), .second, .val (.int (128 : Int32))] [(.long v), (.ref a11), (.ref a11)])) rfl (by rw [hml]; rfl) (Steps.refl _) (a := a11) (argsL := [(.long v)]) (rest := [(.ref a11)]) (lenOf own_pd__28_J_29_V rfl) rfl (by show 2 * 0 + _ ≤ _; exact Nat.le_of_eq rfl) (hb hby own_d_jdk_35_method_24_36) (fun _ _ => ⟨rfl, e11, (by decide : 1 + 0 ≤ _), (by decide : 1 + 0 ≤ _)⟩)
      dsimp only [Pt.U, Pt.locs, Pt.cells, Pt.slots] at X16 l16 y16 z16 st16 hQ16
      rw [l16, y16, z16] at X16
      obtain ⟨rfl, Nq16, K16, f17⟩ := hQ16
      have N16 := Fr.app N0 Nq16
      refine own_Goes.tr st16 ?_
      have Z18 : n0 ≤ T16.heap.size := Nat.le_trans Z12 K16.1
      have K19 := K13.trans K16 (allS (Or.inr sz_a11) all0)
      have O20 := O14.keep K16 (allS ge_a11 all0)
      show own_Goes p.tables e below P (T16.setTop (mkF m 39 #[.val (.long v), .second, .val (.int (128 : Int32))] [(.ref a11)]))
      obtain ⟨fs, hr, hrun, hended, hW, hsame⟩ := X16.leave (v := some (.ref a11)) (fun h => by rw [Bd.returns] at h; cases h)
      exact own_Goes.fin _ _ (retOut X16 hx (t := (.object "java/lang/Long")) Bd.returns rfl (Or.inr (Or.inr (Or.inr (Or.inr ⟨rfl, rfl, rfl⟩)))) (hb hby own_d_jdk_35_method_24_39) hr) (hPP _ _ ⟨hrun, hended, _, _, rfl, (by show Q_lval Z v lc cl h0 n0 _ T16.heap _; exact ⟨a11, rfl, N16, K19, f17⟩), ⟨_, rfl⟩, hW, hsame.mono (by decide) (by decide)⟩)
    · skip
      refine own_Goes.st ?_ (fun _ k => XS.ifNo X0.here hx rfl (hb hby own_d_jdk_35_method_24_17) rfl ((if0 _ _).trans (flt (fun q => h2 ((lw_gt _ _).mp q))).2.2.1) k)
      show own_Goes p.tables e below P (s₁.setTop (mkF m 20 #[.val (.long v), .second, .val (.int (128 : Int32))] []))
      obtain ⟨T21, X21, e21, st21⟩ := getS2 X0 hx hZ hown (host := "") (Or.inl (hw _ (List.mem_of_getElem? (i := 219) rfl))) Via.refl e0 (pr0.ext pr1.2) (g := (mkF m 20 #[.val (.long v), .second, .val (.int (128 : Int32))] [])) rfl (hb hby own_d_jdk_35_method_24_20)
      refine own_Goes.st ?_ st21
      show own_Goes p.tables e below P (T21.setTop (mkF m 23 #[.val (.long v), .second, .val (.int (128 : Int32))] [(.ref lc)]))
      refine own_Goes.st ?_ (fun _ k => XS.lloadN X21.here hx rfl (hb hby own_d_jdk_35_method_24_23) rfl k)
      show own_Goes p.tables e below P (T21.setTop (mkF m 24 #[.val (.long v), .second, .val (.int (128 : Int32))] [(.long v), (.ref lc)]))
      refine own_Goes.st ?_ (fun _ k => XS.l2i X21.here hx rfl (hb hby own_d_jdk_35_method_24_24) rfl k)
      show own_Goes p.tables e below P (T21.setTop (mkF m 25 #[.val (.long v), .second, .val (.int (128 : Int32))] [(.int ((v).toInt32)), (.ref lc)]))
      refine own_Goes.st ?_ (fun _ k => XS.sipush X21.here hx rfl (hb hby own_d_jdk_35_method_24_25) k)
      show own_Goes p.tables e below P (T21.setTop (mkF m 28 #[.val (.long v), .second, .val (.int (128 : Int32))] [(.int (128 : Int32)), (.int ((v).toInt32)), (.ref lc)]))
      refine own_Goes.st ?_ (fun _ k => XS.iadd X21.here hx rfl (hb hby own_d_jdk_35_method_24_28) rfl k)
      show own_Goes p.tables e below P (T21.setTop (mkF m 29 #[.val (.long v), .second, .val (.int (128 : Int32))] [(.int (((v).toInt32) + (128 : Int32))), (.ref lc)]))
      have hin : ¬ ((((v).toInt32) + (128 : Int32)) < 0 ∨ cl.slots.size ≤ ((((v).toInt32) + (128 : Int32))).toNatClampNeg) := by rw [hls]; exact own_li h1 h2
      obtain ⟨rr, hat, Er⟩ := hla _ hin
      have Ac := hlc.ext pr1.2
      refine own_Goes.st ?_ (X21.aaload hx (j := (((v).toInt32) + (128 : Int32))) (v := (.ref rr)) (by rw [e21]; exact Ac.1) (State.isArrayOf_alike hZ.alike Ac.2.1) rfl Ac.2.2 hin hat (g := (mkF m 29 #[.val (.long v), .second, .val (.int (128 : Int32))] [(.int (((v).toInt32) + (128 : Int32))), (.ref lc)])) rfl rfl (hb hby own_d_jdk_35_method_24_29))
      show own_Goes p.tables e below P (T21.setTop (mkF m 30 #[.val (.long v), .second, .val (.int (128 : Int32))] [(.ref rr)]))
      obtain ⟨fs, hr, hrun, hended, hW, hsame⟩ := X21.leave (v := some (.ref rr)) (fun h => by rw [Bd.returns] at h; cases h)
      have F22 : Exa Z h0 rr "java/lang/Long" := Er.ext pr1.2
      exact own_Goes.fin _ _ (retOut X21 hx (t := (.object "java/lang/Long")) Bd.returns rfl (Or.inr (Or.inr (Or.inr (Or.inr ⟨rfl, rfl, rfl⟩)))) (hb hby own_d_jdk_35_method_24_30) hr) (hPP _ _ ⟨hrun, hended, _, _, rfl, (by show Q_lval Z v lc cl h0 n0 _ T21.heap _; rw [e21]; exact ⟨rr, rfl, N0, K0, F22⟩), ⟨_, rfl⟩, hW, hsame.mono (by decide) (by decide)⟩)
theorem own_ef_law (m : MethodId) (x0 : Int64) (x1 : Int64) (x2 : Int32) : entryFrame m #[(.long x0), (.long x1), (.int x2)] maxLocals = mkF m 0 #[.val (.long x0), .second, .val (.long x1), .second, .val (.int x2), .unset, .unset, .unset, .unset, .unset, .unset, .unset, .unset] [] := by first | (simp [entryFrame, mkF, argsToLocals, Value.category, maxLocals]; done) | rfl
theorem own_pn_com_example_larder_larder_DoubleValueEqualsPinLaw : plainName "com/example/larder/larder/DoubleValueEqualsPinLaw" = true := by first | (simp [plainName, overriddenIn]; done) | decide +kernel
theorem own_pd__28_Ljava_2f_lang_2f_Object_3b__29_Z : parseMethodDescriptor "(Ljava/lang/Object;)Z" = some ⟨[(.object "java/lang/Object")], some .boolean⟩ := by decide +kernel
theorem own_pd__28_Z_29_V : parseMethodDescriptor "(Z)V" = some ⟨[.boolean], none⟩ := by decide +kernel
theorem own_pd__28_J_29_Ljava_2f_lang_2f_Long_3b_ : parseMethodDescriptor "(J)Ljava/lang/Long;" = some ⟨[.long], some (.object "java/lang/Long")⟩ := by decide +kernel
theorem own_pd__28_JLjava_2f_util_2f_List_3b__29_V : parseMethodDescriptor "(JLjava/util/List;)V" = some ⟨[.long, (.object "java/util/List")], none⟩ := by decide +kernel
def Q_law (n0 : Nat) (v : Option Value) (L : List Loc) : Prop := v = some (.int 1) ∧ Fr n0 L
set_option maxRecDepth 65536 in
set_option maxHeartbeats 40000000 in
theorem rm_law (l : Launch) (Z : State) (a0 : Array Value) (hw : ∀ d ∈ tables_1, d.before a0 Z = true) (ws : List Jvm.Cond) (p0 : Int64) (p1 : Int64) (p2 : Int32) (de : Addr) (kd : ClassId) (el : Addr) (em : Addr) (mr : Addr) (lc : Addr) (cl : Cell) (h0 : Heap) (n0 : Nat) (Z0 : n0 ≤ h0.size) (pr0 : Sta Z Z.heap "java/util/ArrayList" "DEFAULTCAPACITY_EMPTY_ELEMENTDATA" "[Ljava/lang/Object;" (.ref de)) (pr1 : Old Z n0 h0) (pr2 : Arv Z Z.heap de kd (.object "java/lang/Object") (0 : Int32) [] .null) (pr3 : Sta Z Z.heap "java/util/ImmutableCollections" "EMPTY_LIST" "Ljava/util/ImmutableCollections$ListN;" (.ref el)) (pr4 : Exa Z Z.heap el "java/util/ImmutableCollections$ListN") (pr5 : Fld Z Z.heap el "java/util/ImmutableCollections$ListN" "allowNulls" "Z" (.int (0 : Int32))) (pr6 : Sta Z Z.heap "java/util/ImmutableCollections" "EMPTY" "Ljava/lang/Object;" (.ref em)) (pr7 : own_Mir Z "[Ljava/lang/Object;" mr) (pr8 : Sta Z Z.heap "java/lang/Long$LongCache" "cache" "[Ljava/lang/Long;" (.ref lc)) (hlc : Arr Z Z.heap lc cl (.object "java/lang/Long")) (hls : cl.slots.size = 256) (hla : own_LongAt Z cl) :
    MetFree l x (head1 (Jvm.Cond.code x code maxLocals ret :: ws) room_1) (fun as_ U => as_ = #[(.long p0), (.long p1), (.int p2)] ∧ Z.Warmed39 U.vm ∧ U.heap = h0) (fun _ _ _ _ _ => True) (fun _ U o U' => ∃ v L, o = .returned v ∧ Q_law n0 v L ∧ FrameEnd U o U' L 40 192) := by
  refine MetFree.of_bodySF (plainFor_of_name own_pn_com_example_larder_larder_DoubleValueEqualsPinLaw) hisR ?_
  intro p e s m args below meth c s₁ Bd hml0 hP hK
  obtain ⟨rfl, hZ, hh⟩ := hP
  have hx := Bd.exec
  have hby := Bd.bytes
  have hml : c.maxLocals = 13 := hml0
  have hown : s.vm.findClass "com/example/larder/larder/DoubleValueEqualsPinLaw" = some m.cls := findClass_of_methodNamed Bd.named
  have hnm := (name_of_methodNamed Bd.named Bd.method).1
  have X0 : Stand p l e room_1 s m #[(.long p0), (.long p1), (.int p2)] below meth c s₁ [] 0 0 := Stand.of_body Bd
  have e0 : s₁.heap = h0 := by rw [← hh, Bd.state]; rfl
  have N0 := Fr.nil n0
  refine own_Goes.of ?_
  refine own_Goes.nm (fun P hPP => ?_)
  refine own_Goes.st ?_ (fun _ k => castTop (own_ef_law m p0 p1 p2) k)
  show own_Goes p.tables e below P (s₁.setTop (mkF m 0 #[.val (.long p0), .second, .val (.long p1), .second, .val (.int p2), .unset, .unset, .unset, .unset, .unset, .unset, .unset, .unset] []))
  have J33 : ∀ (bb : Int64), own_Goes p.tables e below P (s₁.setTop (mkF m 33 #[.val (.long p0), .second, .val (.long p1), .second, .val (.int p2), .val (.long bb), .second, .unset, .unset, .unset, .unset, .unset, .unset] [])) := by
    intro bb
    have JT : ∀ (T1 : State) (lo1 : List Loc) (X1 : Stand p l e room_1 s m #[(.long p0), (.long p1), (.int p2)] below meth c T1 lo1 16 60) (h1 : Heap) (e1 : T1.heap = h1) (N1 : Fr n0 lo1) (Z1 : n0 ≤ h1.size) (a1 a2 x1 x2 : Addr) (_ : Old Z n0 h1) (_ : Exa Z h1 x1 "com/example/larder/larder/DoubleValue") (_ : Fld Z h1 x1 "com/example/larder/larder/DoubleValue" "bits" "J" (.long p0)) (_ : Exa Z h1 x2 "com/example/larder/larder/DoubleValue") (_ : Fld Z h1 x2 "com/example/larder/larder/DoubleValue" "bits" "J" (.long bb)), own_Goes p.tables e below P (T1.setTop (mkF m 122 #[.val (.long p0), .second, .val (.long p1), .second, .val (.int p2), .val (.long bb), .second, .val (.ref a1), .val (.ref a2), .val (.ref x1), .val (.ref x2), .unset, .unset] [])) := by
      intro T1 lo1 X1 h1 e1 N1 Z1 a1 a2 x1 x2 OJ E1 F1 E2 F2
      refine own_Goes.st ?_ (fun _ k => XS.iload X1.here hx rfl (hb hby at_122) rfl k)
      refine own_Goes.st ?_ (fun _ k => XS.bipush X1.here hx rfl (hb hby at_124) k)
      refine own_Goes.st ?_ (fun _ k => XS.iushr X1.here hx rfl (hb hby at_126) rfl k)
      refine own_Goes.st ?_ (fun _ k => XS.bipush X1.here hx rfl (hb hby at_127) k)
      show own_Goes p.tables e below P (T1.setTop (mkF m 129 #[.val (.long p0), .second, .val (.long p1), .second, .val (.int p2), .val (.long bb), .second, .val (.ref a1), .val (.ref a2), .val (.ref x1), .val (.ref x2), .unset, .unset] [(.int (7 : Int32)), (.int (((p2).toUInt32 >>> ((10 : Int32) &&& 31).toUInt32).toInt32))]))
      refine own_Goes.st ?_ (fun _ k => XS.iand X1.here hx rfl (hb hby at_129) rfl k)
      refine own_Goes.st ?_ (fun _ k => XS.istore X1.here hx rfl (hb hby at_130) rfl (l' := #[.val (.long p0), .second, .val (.long p1), .second, .val (.int p2), .val (.long bb), .second, .val (.ref a1), .val (.ref a2), .val (.ref x1), .val (.ref x2), .val (.int ((((p2).toUInt32 >>> ((10 : Int32) &&& 31).toUInt32).toInt32) &&& (7 : Int32))), .unset]) rfl k)
      refine own_Goes.st ?_ (fun _ k => XS.iload X1.here hx rfl (hb hby at_132) rfl k)
      refine own_Goes.st ?_ (fun _ k => XS.iconst X1.here hx rfl (hb hby at_134) k)
      show own_Goes p.tables e below P (T1.setTop (mkF m 135 #[.val (.long p0), .second, .val (.long p1), .second, .val (.int p2), .val (.long bb), .second, .val (.ref a1), .val (.ref a2), .val (.ref x1), .val (.ref x2), .val (.int ((((p2).toUInt32 >>> ((10 : Int32) &&& 31).toUInt32).toInt32) &&& (7 : Int32))), .unset] [(.int (1 : Int32)), (.int ((((p2).toUInt32 >>> ((10 : Int32) &&& 31).toUInt32).toInt32) &&& (7 : Int32)))]))
      by_cases hk1 : ((((p2).toUInt32 >>> ((10 : Int32) &&& 31).toUInt32).toInt32) &&& (7 : Int32)) = (1 : Int32)
      · skip
        refine own_Goes.st ?_ (fun _ k => XS.icmpNo X1.here hx rfl (hb hby at_135) rfl (teq hk1).2 k)
        refine own_Goes.st ?_ (fun _ k => XS.aload X1.here hx rfl (hb hby at_138) rfl rfl k)
        refine own_Goes.st ?_ (fun _ k => XS.aconstNull X1.here hx rfl (hb hby at_140) k)
        obtain ⟨cq2, kq2, q2a, q2b, q2c⟩ := isOf hZ e1 E1
        obtain ⟨_, _, ⟨T2, L2, k2, n2⟩, -, X2, ⟨Lc2, hQ2, l2, y2, z2⟩, st2⟩ := X1.virtualBack hx (y := (⟨"com/example/larder/larder/DoubleValue", "equals", "(Ljava/lang/Object;)Z"⟩ : MethodName)) (z := (⟨"com/example/larder/larder/DoubleValue", "equals", "(Ljava/lang/Object;)Z"⟩ : MethodName)) hown (mvT hZ (hw _ (List.mem_of_getElem? (i := 71) rfl))) (mvT hZ (hw _ (List.mem_of_getElem? (i := 72) rfl))) (notFace_of_selects (args := #[]) (mvT hZ (hw _ (List.mem_of_getElem? (i := 74) rfl)))) (mvT hZ (hw _ (List.mem_of_getElem? (i := 74) rfl))) (mvT hZ (hw _ (List.mem_of_getElem? (i := 73) rfl))) (by decide) (backOf (W := 0) (rm_eqn l Z a0 hw [] x1 h1 n0 Z1) hZ (hw _ (List.mem_of_getElem? (i := 75) rfl)) (hw _ (List.mem_of_getElem? (i := 28) rfl)) (by decide) (by decide)) q2a q2c (g := (mkF m 141 #[.val (.long p0), .second, .val (.long p1), .second, .val (.int p2), .val (.long bb), .second, .val (.ref a1), .val (.ref a2), .val (.ref x1), .val (.ref x2), .val (.int ((((p2).toUInt32 >>> ((10 : Int32) &&& 31).toUInt32).toInt32) &&& (7 : Int32))), .unset] [.null, (.ref x1)])) rfl (by rw [hml]; rfl) (Steps.refl _) (argsL := [.null]) (rest := []) (lenOf own_pd__28_Ljava_2f_lang_2f_Object_3b__29_Z rfl) rfl (by show 2 * 0 + _ ≤ _; exact Nat.le_of_eq rfl) (hb hby at_141) (fun _ _ => ⟨rfl, e1, (by decide : 16 + 0 ≤ _), (by decide : 60 + 0 ≤ _)⟩)
        dsimp only [Pt.U, Pt.locs, Pt.cells, Pt.slots] at X2 l2 y2 z2 st2 hQ2
        rw [l2, y2, z2] at X2
        obtain ⟨rfl, Nq2, e2⟩ := hQ2
        have N2 := Fr.app N1 Nq2
        refine own_Goes.tr st2 ?_
        show own_Goes p.tables e below P (T2.setTop (mkF m 144 #[.val (.long p0), .second, .val (.long p1), .second, .val (.int p2), .val (.long bb), .second, .val (.ref a1), .val (.ref a2), .val (.ref x1), .val (.ref x2), .val (.int ((((p2).toUInt32 >>> ((10 : Int32) &&& 31).toUInt32).toInt32) &&& (7 : Int32))), .unset] [(.int (0 : Int32))]))
        refine own_Goes.st ?_ (fun _ k => XS.ifNo X2.here hx rfl (hb hby at_144) rfl ((if0 _ _).trans (teq (by decide : (0 : Int32) = (0 : Int32))).2) k)
        refine own_Goes.st ?_ (fun _ k => XS.iconst X2.here hx rfl (hb hby at_147) k)
        refine own_Goes.st ?_ (fun _ k => XS.goto X2.here hx rfl (pc0 := 148) (pc' := 152) rfl (hb hby at_148) (by decide) (by decide) k)
        obtain ⟨fs, hr, hrun, hended, hW, hsame⟩ := X2.leave (v := some (.int (1 : Int32))) (fun h => by rw [Bd.returns] at h; cases h)
        exact own_Goes.fin _ _ (retOut X2 hx (t := .boolean) Bd.returns rfl (Or.inl ⟨rfl, Or.inr (Or.inl rfl), _, rfl⟩) (hb hby at_152) hr) (hPP _ _ ⟨hrun, hended, _, _, rfl, (by show Q_law n0 _ _; exact ⟨rfl, N2⟩), ⟨_, rfl⟩, hW, hsame.mono (by decide) (by decide)⟩)
      · skip
        refine own_Goes.st ?_ (fun _ k => XS.icmpYes X1.here hx rfl (pc0 := 135) (pc' := 153) rfl (hb hby at_135) rfl (feq hk1).2 (by decide) (by decide) k)
        refine own_Goes.st ?_ (fun _ k => XS.iload X1.here hx rfl (hb hby at_153) rfl k)
        refine own_Goes.st ?_ (fun _ k => XS.iconst X1.here hx rfl (hb hby at_155) k)
        by_cases hk2 : ((((p2).toUInt32 >>> ((10 : Int32) &&& 31).toUInt32).toInt32) &&& (7 : Int32)) = (2 : Int32)
        · skip
          refine own_Goes.st ?_ (fun _ k => XS.icmpNo X1.here hx rfl (hb hby at_156) rfl (teq hk2).2 k)
          show own_Goes p.tables e below P (T1.setTop (mkF m 159 #[.val (.long p0), .second, .val (.long p1), .second, .val (.int p2), .val (.long bb), .second, .val (.ref a1), .val (.ref a2), .val (.ref x1), .val (.ref x2), .val (.int ((((p2).toUInt32 >>> ((10 : Int32) &&& 31).toUInt32).toInt32) &&& (7 : Int32))), .unset] []))
          refine own_Goes.st ?_ (fun _ k => XS.aload X1.here hx rfl (hb hby at_159) rfl rfl k)
          obtain ⟨T3, h3, X3, e3, E3, A3, D3, -, st3⟩ := newO X1 hx hZ hown (hw _ (List.mem_of_getElem? (i := 78) rfl)) (hw _ (List.mem_of_getElem? (i := 79) rfl)) (hw _ (List.mem_of_getElem? (i := 80) rfl)) e1 (g := (mkF m 161 #[.val (.long p0), .second, .val (.long p1), .second, .val (.int p2), .val (.long bb), .second, .val (.ref a1), .val (.ref a2), .val (.ref x1), .val (.ref x2), .val (.int ((((p2).toUInt32 >>> ((10 : Int32) &&& 31).toUInt32).toInt32) &&& (7 : Int32))), .unset] [(.ref x1)])) rfl (hb hby at_161) (by decide) (by decide)
          obtain ⟨a3, g3⟩ : ∃ z, z = h1.size := ⟨_, rfl⟩
          rw [← g3] at A3 D3 st3
          have ne4 : x1 ≠ a3 := Nat.ne_of_lt (Nat.lt_of_lt_of_eq E1.lt g3.symm)
          have ne5 : x2 ≠ a3 := Nat.ne_of_lt (Nat.lt_of_lt_of_eq E2.lt g3.symm)
          have ge_a3 : n0 ≤ a3 := Nat.le_trans Z1 (Nat.le_of_eq g3.symm)
          refine own_Goes.st ?_ st3
          have Z6 : n0 ≤ h3.size := Nat.le_trans Z1 E3.1
          have O7 := OJ.ext E3
          have F8 : Fld Z h3 a3 "com/example/larder/larder/BooleanValue" "value" "Z" (.int (0 : Int32)) := D3 (Or.inr (hw _ (List.mem_of_getElem? (i := 99) rfl))) (ty := .boolean) (by decide)
          have F9 : Fld Z h3 a3 "com/example/larder/larder/BooleanValue" "annotations" "Ljava/util/List;" .null := D3 (Or.inr (hw _ (List.mem_of_getElem? (i := 101) rfl))) (ty := (.object "java/util/List")) (by decide)
          show own_Goes p.tables e below P (T3.setTop (mkF m 164 #[.val (.long p0), .second, .val (.long p1), .second, .val (.int p2), .val (.long bb), .second, .val (.ref a1), .val (.ref a2), .val (.ref x1), .val (.ref x2), .val (.int ((((p2).toUInt32 >>> ((10 : Int32) &&& 31).toUInt32).toInt32) &&& (7 : Int32))), .unset] [(.ref a3), (.ref x1)]))
          refine own_Goes.st ?_ (fun _ k => XS.dup X3.here hx rfl (hb hby at_164) rfl rfl k)
          refine own_Goes.st ?_ (fun _ k => XS.lloadN X3.here hx rfl (hb hby at_165) rfl k)
          refine own_Goes.st ?_ (fun _ k => XS.lconst X3.here hx rfl (hb hby at_166) k)
          refine own_Goes.st ?_ (fun _ k => XS.land X3.here hx rfl (hb hby at_167) rfl k)
          show own_Goes p.tables e below P (T3.setTop (mkF m 168 #[.val (.long p0), .second, .val (.long p1), .second, .val (.int p2), .val (.long bb), .second, .val (.ref a1), .val (.ref a2), .val (.ref x1), .val (.ref x2), .val (.int ((((p2).toUInt32 >>> ((10 : Int32) &&& 31).toUInt32).toInt32) &&& (7 : Int32))), .unset] [(.long (p0 &&& (1 : Int64))), (.ref a3), (.ref a3), (.ref x1)]))
          refine own_Goes.st ?_ (fun _ k => XS.lconst X3.here hx rfl (hb hby at_168) k)
          refine own_Goes.st ?_ (fun _ k => XS.lcmp X3.here hx rfl (hb hby at_169) rfl k)
          by_cases hl : (p0 &&& (1 : Int64)) = (0 : Int64)
          · skip
            refine own_Goes.st ?_ (fun _ k => XS.ifYes X3.here hx rfl (pc0 := 170) (pc' := 177) rfl (hb hby at_170) rfl ((if0 _ _).trans (teq ((lw_eq _ _).mpr hl)).1) (by decide) (by decide) k)
            refine own_Goes.st ?_ (fun _ k => XS.iconst X3.here hx rfl (hb hby at_177) k)
            show own_Goes p.tables e below P (T3.setTop (mkF m 178 #[.val (.long p0), .second, .val (.long p1), .second, .val (.int p2), .val (.long bb), .second, .val (.ref a1), .val (.ref a2), .val (.ref x1), .val (.ref x2), .val (.int ((((p2).toUInt32 >>> ((10 : Int32) &&& 31).toUInt32).toInt32) &&& (7 : Int32))), .unset] [(.int (0 : Int32)), (.ref a3), (.ref a3), (.ref x1)]))
            obtain ⟨_, _, ⟨T10, L10, k10, n10⟩, -, X10, ⟨Lc10, hQ10, l10, y10, z10⟩, st10⟩ := X3.specialBack hx (y := (⟨"com/example/larder/larder/BooleanValue", "<init>", "(Z)V"⟩ : MethodName)) rfl hown (mvT hZ (hw _ (List.mem_of_getElem? (i := 81) rfl))) (mvT hZ (hw _ (List.mem_of_getElem? (i := 82) rfl))) (mvT hZ (hw _ (List.mem_of_getElem? (i := 83) rfl))) (by decide) (backOf (W := 2) (rm_bvn0 l Z a0 hw [] a3 el (.int (0 : Int32)) .null h3 n0 Z6 A3 F8 F9 ge_a3 pr3 O7 pr4 pr5) hZ (hw _ (List.mem_of_getElem? (i := 83) rfl)) (hw _ (List.mem_of_getElem? (i := 80) rfl)) (by decide) (by decide)) (g := (mkF m 178 #[.val (.long p0), .second, .val (.long p1), .second, .val (.int p2), .val (.long bb), .second, .val (.ref a1), .val (.ref a2), .val (.ref x1), .val (.ref x2), .val (.int ((((p2).toUInt32 >>> ((10 : Int32) &&& 31).toUInt32).toInt32) &&& (7 : Int32))), .unset] [(.int (0 : Int32)), (.ref a3), (.ref a3), (.ref x1)])) rfl (by rw [hml]; rfl) (Steps.refl _) (a := a3) (argsL := [(.int (0 : Int32))]) (rest := [(.ref a3), (.ref x1)]) (lenOf own_pd__28_Z_29_V rfl) rfl (by show 2 * 0 + _ ≤ _; exact Nat.le_of_eq rfl) (hb hby at_178) (fun _ _ => ⟨rfl, e3, (by decide : 17 + 0 ≤ _), (by decide : 62 + 0 ≤ _)⟩)
            dsimp only [Pt.U, Pt.locs, Pt.cells, Pt.slots] at X10 l10 y10 z10 st10 hQ10
            rw [l10, y10, z10] at X10
            obtain ⟨rfl, Nq10, K10, f11⟩ := hQ10
            have N10 := Fr.app N1 Nq10
            refine own_Goes.tr st10 ?_
            have Z12 : n0 ≤ T10.heap.size := Nat.le_trans Z6 K10.1
            have O13 := O7.keep K10 (allS ge_a3 all0)
            show own_Goes p.tables e below P (T10.setTop (mkF m 181 #[.val (.long p0), .second, .val (.long p1), .second, .val (.int p2), .val (.long bb), .second, .val (.ref a1), .val (.ref a2), .val (.ref x1), .val (.ref x2), .val (.int ((((p2).toUInt32 >>> ((10 : Int32) &&& 31).toUInt32).toInt32) &&& (7 : Int32))), .unset] [(.ref a3), (.ref x1)]))
            have F15 : Exa Z T10.heap x1 "com/example/larder/larder/DoubleValue" := ((E1.ext E3).keep K10)
            obtain ⟨cq14, kq14, q14a, q14b, q14c⟩ := isOf hZ rfl F15
            obtain ⟨_, _, ⟨T14, L14, k14, n14⟩, -, X14, ⟨Lc14, hQ14, l14, y14, z14⟩, st14⟩ := X10.virtualBack hx (y := (⟨"com/example/larder/larder/DoubleValue", "equals", "(Ljava/lang/Object;)Z"⟩ : MethodName)) (z := (⟨"com/example/larder/larder/DoubleValue", "equals", "(Ljava/lang/Object;)Z"⟩ : MethodName)) hown (mvT hZ (hw _ (List.mem_of_getElem? (i := 71) rfl))) (mvT hZ (hw _ (List.mem_of_getElem? (i := 72) rfl))) (notFace_of_selects (args := #[]) (mvT hZ (hw _ (List.mem_of_getElem? (i := 74) rfl)))) (mvT hZ (hw _ (List.mem_of_getElem? (i := 74) rfl))) (mvT hZ (hw _ (List.mem_of_getElem? (i := 73) rfl))) (by decide) (backOf (W := 0) (rm_eqb l Z a0 hw [] x1 a3 T10.heap n0 Z12 f11) hZ (hw _ (List.mem_of_getElem? (i := 75) rfl)) (hw _ (List.mem_of_getElem? (i := 28) rfl)) (by decide) (by decide)) q14a q14c (g := (mkF m 181 #[.val (.long p0), .second, .val (.long p1), .second, .val (.int p2), .val (.long bb), .second, .val (.ref a1), .val (.ref a2), .val (.ref x1), .val (.ref x2), .val (.int ((((p2).toUInt32 >>> ((10 : Int32) &&& 31).toUInt32).toInt32) &&& (7 : Int32))), .unset] [(.ref a3), (.ref x1)])) rfl (by rw [hml]; rfl) (Steps.refl _) (argsL := [(.ref a3)]) (rest := []) (lenOf own_pd__28_Ljava_2f_lang_2f_Object_3b__29_Z rfl) rfl (by show 2 * 0 + _ ≤ _; exact Nat.le_of_eq rfl) (hb hby at_181) (fun _ _ => ⟨rfl, rfl, (by decide : 17 + 0 ≤ _), (by decide : 62 + 0 ≤ _)⟩)
            dsimp only [Pt.U, Pt.locs, Pt.cells, Pt.slots] at X14 l14 y14 z14 st14 hQ14
            rw [l14, y14, z14] at X14
            obtain ⟨rfl, Nq14, e14⟩ := hQ14
            have N14 := Fr.app N10 Nq14
            refine own_Goes.tr st14 ?_
            show own_Goes p.tables e below P (T14.setTop (mkF m 184 #[.val (.long p0), .second, .val (.long p1), .second, .val (.int p2), .val (.long bb), .second, .val (.ref a1), .val (.ref a2), .val (.ref x1), .val (.ref x2), .val (.int ((((p2).toUInt32 >>> ((10 : Int32) &&& 31).toUInt32).toInt32) &&& (7 : Int32))), .unset] [(.int (0 : Int32))]))
            refine own_Goes.st ?_ (fun _ k => XS.ifNo X14.here hx rfl (hb hby at_184) rfl ((if0 _ _).trans (teq (by decide : (0 : Int32) = (0 : Int32))).2) k)
            refine own_Goes.st ?_ (fun _ k => XS.iconst X14.here hx rfl (hb hby at_187) k)
            refine own_Goes.st ?_ (fun _ k => XS.goto X14.here hx rfl (pc0 := 188) (pc' := 192) rfl (hb hby at_188) (by decide) (by decide) k)
            obtain ⟨fs, hr, hrun, hended, hW, hsame⟩ := X14.leave (v := some (.int (1 : Int32))) (fun h => by rw [Bd.returns] at h; cases h)
            exact own_Goes.fin _ _ (retOut X14 hx (t := .boolean) Bd.returns rfl (Or.inl ⟨rfl, Or.inr (Or.inl rfl), _, rfl⟩) (hb hby at_192) hr) (hPP _ _ ⟨hrun, hended, _, _, rfl, (by show Q_law n0 _ _; exact ⟨rfl, N14⟩), ⟨_, rfl⟩, hW, hsame.mono (by decide) (by decide)⟩)
          · skip
            refine own_Goes.st ?_ (fun _ k => XS.ifNo X3.here hx rfl (hb hby at_170) rfl ((if0 _ _).trans (feq (fun q => hl ((lw_eq _ _).mp q))).1) k)
            refine own_Goes.st ?_ (fun _ k => XS.iconst X3.here hx rfl (hb hby at_173) k)
            show own_Goes p.tables e below P (T3.setTop (mkF m 174 #[.val (.long p0), .second, .val (.long p1), .second, .val (.int p2), .val (.long bb), .second, .val (.ref a1), .val (.ref a2), .val (.ref x1), .val (.ref x2), .val (.int ((((p2).toUInt32 >>> ((10 : Int32) &&& 31).toUInt32).toInt32) &&& (7 : Int32))), .unset] [(.int (1 : Int32)), (.ref a3), (.ref a3), (.ref x1)]))
            refine own_Goes.st ?_ (fun _ k => XS.goto X3.here hx rfl (pc0 := 174) (pc' := 178) rfl (hb hby at_174) (by decide) (by decide) k)
            obtain ⟨_, _, ⟨T16, L16, k16, n16⟩, -, X16, ⟨Lc16, hQ16, l16, y16, z16⟩, st16⟩ := X3.specialBack hx (y := (⟨"com/example/larder/larder/BooleanValue", "<init>", "(Z)V"⟩ : MethodName)) rfl hown (mvT hZ (hw _ (List.mem_of_getElem? (i := 81) rfl))) (mvT hZ (hw _ (List.mem_of_getElem? (i := 82) rfl))) (mvT hZ (hw _ (List.mem_of_getElem? (i := 83) rfl))) (by decide) (backOf (W := 2) (rm_bvn1 l Z a0 hw [] a3 el (.int (0 : Int32)) .null h3 n0 Z6 A3 F8 F9 ge_a3 pr3 O7 pr4 pr5) hZ (hw _ (List.mem_of_getElem? (i := 83) rfl)) (hw _ (List.mem_of_getElem? (i := 80) rfl)) (by decide) (by decide)) (g := (mkF m 178 #[.val (.long p0), .second, .val (.long p1), .second, .val (.int p2), .val (.long bb), .second, .val (.ref a1), .val (.ref a2), .val (.ref x1), .val (.ref x2), .val (.int ((((p2).toUInt32 >>> ((10 : Int32) &&& 31).toUInt32).toInt32) &&& (7 : Int32))), .unset] [(.int (1 : Int32)), (.ref a3), (.ref a3), (.ref x1)])) rfl (by rw [hml]; rfl) (Steps.refl _) (a := a3) (argsL := [(.int (1 : Int32))]) (rest := [(.ref a3), (.ref x1)]) (lenOf own_pd__28_Z_29_V rfl) rfl (by show 2 * 0 + _ ≤ _; exact Nat.le_of_eq rfl) (hb hby at_178) (fun _ _ => ⟨rfl, e3, (by decide : 17 + 0 ≤ _), (by decide : 62 + 0 ≤ _)⟩)
            dsimp only [Pt.U, Pt.locs, Pt.cells, Pt.slots] at X16 l16 y16 z16 st16 hQ16
            rw [l16, y16, z16] at X16
            obtain ⟨rfl, Nq16, K16, f17⟩ := hQ16
            have N16 := Fr.app N1 Nq16
            refine own_Goes.tr st16 ?_
            have Z18 : n0 ≤ T16.heap.size := Nat.le_trans Z6 K16.1
            have O19 := O7.keep K16 (allS ge_a3 all0)
            show own_Goes p.tables e below P (T16.setTop (mkF m 181 #[.val (.long p0), .second, .val (.long p1), .second, .val (.int p2), .val (.long bb), .second, .val (.ref a1), .val (.ref a2), .val (.ref x1), .val (.ref x2), .val (.int ((((p2).toUInt32 >>> ((10 : Int32) &&& 31).toUInt32).toInt32) &&& (7 : Int32))), .unset] [(.ref a3), (.ref x1)]))
            have F21 : Exa Z T16.heap x1 "com/example/larder/larder/DoubleValue" := ((E1.ext E3).keep K16)
            obtain ⟨cq20, kq20, q20a, q20b, q20c⟩ := isOf hZ rfl F21
            obtain ⟨_, _, ⟨T20, L20, k20, n20⟩, -, X20, ⟨Lc20, hQ20, l20, y20, z20⟩, st20⟩ := X16.virtualBack hx (y := (⟨"com/example/larder/larder/DoubleValue", "equals", "(Ljava/lang/Object;)Z"⟩ : MethodName)) (z := (⟨"com/example/larder/larder/DoubleValue", "equals", "(Ljava/lang/Object;)Z"⟩ : MethodName)) hown (mvT hZ (hw _ (List.mem_of_getElem? (i := 71) rfl))) (mvT hZ (hw _ (List.mem_of_getElem? (i := 72) rfl))) (notFace_of_selects (args := #[]) (mvT hZ (hw _ (List.mem_of_getElem? (i := 74) rfl)))) (mvT hZ (hw _ (List.mem_of_getElem? (i := 74) rfl))) (mvT hZ (hw _ (List.mem_of_getElem? (i := 73) rfl))) (by decide) (backOf (W := 0) (rm_eqb l Z a0 hw [] x1 a3 T16.heap n0 Z18 f17) hZ (hw _ (List.mem_of_getElem? (i := 75) rfl)) (hw _ (List.mem_of_getElem? (i := 28) rfl)) (by decide) (by decide)) q20a q20c (g := (mkF m 181 #[.val (.long p0), .second, .val (.long p1), .second, .val (.int p2), .val (.long bb), .second, .val (.ref a1), .val (.ref a2), .val (.ref x1), .val (.ref x2), .val (.int ((((p2).toUInt32 >>> ((10 : Int32) &&& 31).toUInt32).toInt32) &&& (7 : Int32))), .unset] [(.ref a3), (.ref x1)])) rfl (by rw [hml]; rfl) (Steps.refl _) (argsL := [(.ref a3)]) (rest := []) (lenOf own_pd__28_Ljava_2f_lang_2f_Object_3b__29_Z rfl) rfl (by show 2 * 0 + _ ≤ _; exact Nat.le_of_eq rfl) (hb hby at_181) (fun _ _ => ⟨rfl, rfl, (by decide : 17 + 0 ≤ _), (by decide : 62 + 0 ≤ _)⟩)
            dsimp only [Pt.U, Pt.locs, Pt.cells, Pt.slots] at X20 l20 y20 z20 st20 hQ20
            rw [l20, y20, z20] at X20
            obtain ⟨rfl, Nq20, e20⟩ := hQ20
            have N20 := Fr.app N16 Nq20
            refine own_Goes.tr st20 ?_
            show own_Goes p.tables e below P (T20.setTop (mkF m 184 #[.val (.long p0), .second, .val (.long p1), .second, .val (.int p2), .val (.long bb), .second, .val (.ref a1), .val (.ref a2), .val (.ref x1), .val (.ref x2), .val (.int ((((p2).toUInt32 >>> ((10 : Int32) &&& 31).toUInt32).toInt32) &&& (7 : Int32))), .unset] [(.int (0 : Int32))]))
            refine own_Goes.st ?_ (fun _ k => XS.ifNo X20.here hx rfl (hb hby at_184) rfl ((if0 _ _).trans (teq (by decide : (0 : Int32) = (0 : Int32))).2) k)
            refine own_Goes.st ?_ (fun _ k => XS.iconst X20.here hx rfl (hb hby at_187) k)
            refine own_Goes.st ?_ (fun _ k => XS.goto X20.here hx rfl (pc0 := 188) (pc' := 192) rfl (hb hby at_188) (by decide) (by decide) k)
            obtain ⟨fs, hr, hrun, hended, hW, hsame⟩ := X20.leave (v := some (.int (1 : Int32))) (fun h => by rw [Bd.returns] at h; cases h)
            exact own_Goes.fin _ _ (retOut X20 hx (t := .boolean) Bd.returns rfl (Or.inl ⟨rfl, Or.inr (Or.inl rfl), _, rfl⟩) (hb hby at_192) hr) (hPP _ _ ⟨hrun, hended, _, _, rfl, (by show Q_law n0 _ _; exact ⟨rfl, N20⟩), ⟨_, rfl⟩, hW, hsame.mono (by decide) (by decide)⟩)
        · skip
          refine own_Goes.st ?_ (fun _ k => XS.icmpYes X1.here hx rfl (pc0 := 156) (pc' := 193) rfl (hb hby at_156) rfl (feq hk2).2 (by decide) (by decide) k)
          show own_Goes p.tables e below P (T1.setTop (mkF m 193 #[.val (.long p0), .second, .val (.long p1), .second, .val (.int p2), .val (.long bb), .second, .val (.ref a1), .val (.ref a2), .val (.ref x1), .val (.ref x2), .val (.int ((((p2).toUInt32 >>> ((10 : Int32) &&& 31).toUInt32).toInt32) &&& (7 : Int32))), .unset] []))
          refine own_Goes.st ?_ (fun _ k => XS.iload X1.here hx rfl (hb hby at_193) rfl k)
          refine own_Goes.st ?_ (fun _ k => XS.iconst X1.here hx rfl (hb hby at_195) k)
          by_cases hk3 : ((((p2).toUInt32 >>> ((10 : Int32) &&& 31).toUInt32).toInt32) &&& (7 : Int32)) = (3 : Int32)
          · skip
            refine own_Goes.st ?_ (fun _ k => XS.icmpNo X1.here hx rfl (hb hby at_196) rfl (teq hk3).2 k)
            refine own_Goes.st ?_ (fun _ k => XS.aload X1.here hx rfl (hb hby at_199) rfl rfl k)
            show own_Goes p.tables e below P (T1.setTop (mkF m 201 #[.val (.long p0), .second, .val (.long p1), .second, .val (.int p2), .val (.long bb), .second, .val (.ref a1), .val (.ref a2), .val (.ref x1), .val (.ref x2), .val (.int ((((p2).toUInt32 >>> ((10 : Int32) &&& 31).toUInt32).toInt32) &&& (7 : Int32))), .unset] [(.ref x1)]))
            refine own_Goes.st ?_ (fun _ k => XS.aload X1.here hx rfl (hb hby at_201) rfl rfl k)
            obtain ⟨cq22, kq22, q22a, q22b, q22c⟩ := isOf hZ e1 E1
            obtain ⟨_, _, ⟨T22, L22, k22, n22⟩, -, X22, ⟨Lc22, hQ22, l22, y22, z22⟩, st22⟩ := X1.virtualBack hx (y := (⟨"com/example/larder/larder/DoubleValue", "equals", "(Ljava/lang/Object;)Z"⟩ : MethodName)) (z := (⟨"com/example/larder/larder/DoubleValue", "equals", "(Ljava/lang/Object;)Z"⟩ : MethodName)) hown (mvT hZ (hw _ (List.mem_of_getElem? (i := 71) rfl))) (mvT hZ (hw _ (List.mem_of_getElem? (i := 72) rfl))) (notFace_of_selects (args := #[]) (mvT hZ (hw _ (List.mem_of_getElem? (i := 74) rfl)))) (mvT hZ (hw _ (List.mem_of_getElem? (i := 74) rfl))) (mvT hZ (hw _ (List.mem_of_getElem? (i := 73) rfl))) (by decide) (backOf (W := 0) (rm_eqd l Z a0 hw [] x1 x1 p0 p0 h1 n0 Z1 F1 E1 F1) hZ (hw _ (List.mem_of_getElem? (i := 75) rfl)) (hw _ (List.mem_of_getElem? (i := 28) rfl)) (by decide) (by decide)) q22a q22c (g := (mkF m 203 #[.val (.long p0), .second, .val (.long p1), .second, .val (.int p2), .val (.long bb), .second, .val (.ref a1), .val (.ref a2), .val (.ref x1), .val (.ref x2), .val (.int ((((p2).toUInt32 >>> ((10 : Int32) &&& 31).toUInt32).toInt32) &&& (7 : Int32))), .unset] [(.ref x1), (.ref x1)])) rfl (by rw [hml]; rfl) (Steps.refl _) (argsL := [(.ref x1)]) (rest := []) (lenOf own_pd__28_Ljava_2f_lang_2f_Object_3b__29_Z rfl) rfl (by show 2 * 0 + _ ≤ _; exact Nat.le_of_eq rfl) (hb hby at_203) (fun _ _ => ⟨rfl, e1, (by decide : 16 + 0 ≤ _), (by decide : 60 + 0 ≤ _)⟩)
            dsimp only [Pt.U, Pt.locs, Pt.cells, Pt.slots] at X22 l22 y22 z22 st22 hQ22
            rw [l22, y22, z22] at X22
            obtain ⟨rfl, Nq22, e22⟩ := hQ22
            have N22 := Fr.app N1 Nq22
            refine own_Goes.tr st22 ?_
            show own_Goes p.tables e below P (T22.setTop (mkF m 206 #[.val (.long p0), .second, .val (.long p1), .second, .val (.int p2), .val (.long bb), .second, .val (.ref a1), .val (.ref a2), .val (.ref x1), .val (.ref x2), .val (.int ((((p2).toUInt32 >>> ((10 : Int32) &&& 31).toUInt32).toInt32) &&& (7 : Int32))), .unset] [(.int (own_eqv p0 p0))]))
            rw [own_eqv1 rfl]
            show own_Goes p.tables e below P (T22.setTop (mkF m 206 #[.val (.long p0), .second, .val (.long p1), .second, .val (.int p2), .val (.long bb), .second, .val (.ref a1), .val (.ref a2), .val (.ref x1), .val (.ref x2), .val (.int ((((p2).toUInt32 >>> ((10 : Int32) &&& 31).toUInt32).toInt32) &&& (7 : Int32))), .unset] [(.int (1 : Int32))]))
            obtain ⟨fs, hr, hrun, hended, hW, hsame⟩ := X22.leave (v := some (.int (1 : Int32))) (fun h => by rw [Bd.returns] at h; cases h)
            exact own_Goes.fin _ _ (retOut X22 hx (t := .boolean) Bd.returns rfl (Or.inl ⟨rfl, Or.inr (Or.inl rfl), _, rfl⟩) (hb hby at_206) hr) (hPP _ _ ⟨hrun, hended, _, _, rfl, (by show Q_law n0 _ _; exact ⟨rfl, N22⟩), ⟨_, rfl⟩, hW, hsame.mono (by decide) (by decide)⟩)
          · skip
            refine own_Goes.st ?_ (fun _ k => XS.icmpYes X1.here hx rfl (pc0 := 196) (pc' := 207) rfl (hb hby at_196) rfl (feq hk3).2 (by decide) (by decide) k)
            refine own_Goes.st ?_ (fun _ k => XS.iload X1.here hx rfl (hb hby at_207) rfl k)
            show own_Goes p.tables e below P (T1.setTop (mkF m 209 #[.val (.long p0), .second, .val (.long p1), .second, .val (.int p2), .val (.long bb), .second, .val (.ref a1), .val (.ref a2), .val (.ref x1), .val (.ref x2), .val (.int ((((p2).toUInt32 >>> ((10 : Int32) &&& 31).toUInt32).toInt32) &&& (7 : Int32))), .unset] [(.int ((((p2).toUInt32 >>> ((10 : Int32) &&& 31).toUInt32).toInt32) &&& (7 : Int32)))]))
            refine own_Goes.st ?_ (fun _ k => XS.iconst X1.here hx rfl (hb hby at_209) k)
            by_cases hk4 : ((((p2).toUInt32 >>> ((10 : Int32) &&& 31).toUInt32).toInt32) &&& (7 : Int32)) = (4 : Int32)
            · skip
              refine own_Goes.st ?_ (fun _ k => XS.icmpNo X1.here hx rfl (hb hby at_210) rfl (teq hk4).2 k)
              refine own_Goes.st ?_ (fun _ k => XS.aload X1.here hx rfl (hb hby at_213) rfl rfl k)
              refine own_Goes.st ?_ (fun _ k => XS.lloadN X1.here hx rfl (hb hby at_215) rfl k)
              show own_Goes p.tables e below P (T1.setTop (mkF m 216 #[.val (.long p0), .second, .val (.long p1), .second, .val (.int p2), .val (.long bb), .second, .val (.ref a1), .val (.ref a2), .val (.ref x1), .val (.ref x2), .val (.int ((((p2).toUInt32 >>> ((10 : Int32) &&& 31).toUInt32).toInt32) &&& (7 : Int32))), .unset] [(.long p0), (.ref x1)]))
              obtain ⟨_, _, ⟨T23, L23, k23, n23⟩, -, X23, ⟨Lc23, hQ23, l23, y23, z23⟩, st23⟩ := Jvm.LawKit.callS X1 hx (y := (⟨"java/lang/Long", "valueOf", "(J)Ljava/lang/Long;"⟩ : MethodName)) hown (mvT hZ (hw _ (List.mem_of_getElem? (i := 196) rfl))) (mvT hZ (hw _ (List.mem_of_getElem? (i := 197) rfl))) (mvT hZ (hw _ (List.mem_of_getElem? (i := 198) rfl))) (mvT hZ (hw _ (List.mem_of_getElem? (i := 199) rfl))) (by decide) (backOf (W := 1) (rm_lval l Z a0 hw [] p0 lc cl h1 n0 Z1 pr8 OJ hlc hls hla) hZ (hw _ (List.mem_of_getElem? (i := 199) rfl)) (hw _ (List.mem_of_getElem? (i := 198) rfl)) (by decide) (by decide)) (g := (mkF m 216 #[.val (.long p0), .second, .val (.long p1), .second, .val (.int p2), .val (.long bb), .second, .val (.ref a1), .val (.ref a2), .val (.ref x1), .val (.ref x2), .val (.int ((((p2).toUInt32 >>> ((10 : Int32) &&& 31).toUInt32).toInt32) &&& (7 : Int32))), .unset] [(.long p0), (.ref x1)])) rfl (by rw [hml]; rfl) (argsL := [(.long p0)]) (rest := [(.ref x1)]) (lenOf own_pd__28_J_29_Ljava_2f_lang_2f_Long_3b_ rfl) rfl (by show 2 * 0 + _ ≤ _; exact Nat.le_of_eq rfl) (hb hby at_216) (fun _ _ => ⟨rfl, e1, (by decide : 16 + 1 ≤ _), (by decide : 60 + 1 ≤ _)⟩)
              dsimp only [Pt.U, Pt.locs, Pt.cells, Pt.slots] at X23 l23 y23 z23 st23 hQ23
              rw [l23, y23, z23] at X23
              obtain ⟨r23, rfl, Nq23, K23, f24⟩ := hQ23
              have N23 := Fr.app N1 Nq23
              refine own_Goes.st ?_ st23
              have Z25 : n0 ≤ T23.heap.size := Nat.le_trans Z1 K23.1
              have O26 := OJ.keep K23 all0
              show own_Goes p.tables e below P (T23.setTop (mkF m 219 #[.val (.long p0), .second, .val (.long p1), .second, .val (.int p2), .val (.long bb), .second, .val (.ref a1), .val (.ref a2), .val (.ref x1), .val (.ref x2), .val (.int ((((p2).toUInt32 >>> ((10 : Int32) &&& 31).toUInt32).toInt32) &&& (7 : Int32))), .unset] [(.ref r23), (.ref x1)]))
              have F28 : Exa Z T23.heap x1 "com/example/larder/larder/DoubleValue" := (E1.keep K23)
              obtain ⟨cq27, kq27, q27a, q27b, q27c⟩ := isOf hZ rfl F28
              obtain ⟨_, _, ⟨T27, L27, k27, n27⟩, -, X27, ⟨Lc27, hQ27, l27, y27, z27⟩, st27⟩ := X23.virtualBack hx (y := (⟨"com/example/larder/larder/DoubleValue", "equals", "(Ljava/lang/Object;)Z"⟩ : MethodName)) (z := (⟨"com/example/larder/larder/DoubleValue", "equals", "(Ljava/lang/Object;)Z"⟩ : MethodName)) hown (mvT hZ (hw _ (List.mem_of_getElem? (i := 71) rfl))) (mvT hZ (hw _ (List.mem_of_getElem? (i := 72) rfl))) (notFace_of_selects (args := #[]) (mvT hZ (hw _ (List.mem_of_getElem? (i := 74) rfl)))) (mvT hZ (hw _ (List.mem_of_getElem? (i := 74) rfl))) (mvT hZ (hw _ (List.mem_of_getElem? (i := 73) rfl))) (by decide) (backOf (W := 0) (rm_eql l Z a0 hw [] x1 r23 T23.heap n0 Z25 f24) hZ (hw _ (List.mem_of_getElem? (i := 75) rfl)) (hw _ (List.mem_of_getElem? (i := 28) rfl)) (by decide) (by decide)) q27a q27c (g := (mkF m 219 #[.val (.long p0), .second, .val (.long p1), .second, .val (.int p2), .val (.long bb), .second, .val (.ref a1), .val (.ref a2), .val (.ref x1), .val (.ref x2), .val (.int ((((p2).toUInt32 >>> ((10 : Int32) &&& 31).toUInt32).toInt32) &&& (7 : Int32))), .unset] [(.ref r23), (.ref x1)])) rfl (by rw [hml]; rfl) (Steps.refl _) (argsL := [(.ref r23)]) (rest := []) (lenOf own_pd__28_Ljava_2f_lang_2f_Object_3b__29_Z rfl) rfl (by show 2 * 0 + _ ≤ _; exact Nat.le_of_eq rfl) (hb hby at_219) (fun _ _ => ⟨rfl, rfl, (by decide : 17 + 0 ≤ _), (by decide : 61 + 0 ≤ _)⟩)
              dsimp only [Pt.U, Pt.locs, Pt.cells, Pt.slots] at X27 l27 y27 z27 st27 hQ27
              rw [l27, y27, z27] at X27
              obtain ⟨rfl, Nq27, e27⟩ := hQ27
              have N27 := Fr.app N23 Nq27
              refine own_Goes.tr st27 ?_
              show own_Goes p.tables e below P (T27.setTop (mkF m 222 #[.val (.long p0), .second, .val (.long p1), .second, .val (.int p2), .val (.long bb), .second, .val (.ref a1), .val (.ref a2), .val (.ref x1), .val (.ref x2), .val (.int ((((p2).toUInt32 >>> ((10 : Int32) &&& 31).toUInt32).toInt32) &&& (7 : Int32))), .unset] [(.int (0 : Int32))]))
              refine own_Goes.st ?_ (fun _ k => XS.ifNo X27.here hx rfl (hb hby at_222) rfl ((if0 _ _).trans (teq (by decide : (0 : Int32) = (0 : Int32))).2) k)
              refine own_Goes.st ?_ (fun _ k => XS.iconst X27.here hx rfl (hb hby at_225) k)
              refine own_Goes.st ?_ (fun _ k => XS.goto X27.here hx rfl (pc0 := 226) (pc' := 230) rfl (hb hby at_226) (by decide) (by decide) k)
              obtain ⟨fs, hr, hrun, hended, hW, hsame⟩ := X27.leave (v := some (.int (1 : Int32))) (fun h => by rw [Bd.returns] at h; cases h)
              exact own_Goes.fin _ _ (retOut X27 hx (t := .boolean) Bd.returns rfl (Or.inl ⟨rfl, Or.inr (Or.inl rfl), _, rfl⟩) (hb hby at_230) hr) (hPP _ _ ⟨hrun, hended, _, _, rfl, (by show Q_law n0 _ _; exact ⟨rfl, N27⟩), ⟨_, rfl⟩, hW, hsame.mono (by decide) (by decide)⟩)
            · skip
              refine own_Goes.st ?_ (fun _ k => XS.icmpYes X1.here hx rfl (pc0 := 210) (pc' := 231) rfl (hb hby at_210) rfl (feq hk4).2 (by decide) (by decide) k)
              refine own_Goes.st ?_ (fun _ k => XS.lloadN X1.here hx rfl (hb hby at_231) rfl k)
              refine own_Goes.st ?_ (fun _ k => XS.lload X1.here hx rfl (hb hby at_232) rfl k)
              show own_Goes p.tables e below P (T1.setTop (mkF m 234 #[.val (.long p0), .second, .val (.long p1), .second, .val (.int p2), .val (.long bb), .second, .val (.ref a1), .val (.ref a2), .val (.ref x1), .val (.ref x2), .val (.int ((((p2).toUInt32 >>> ((10 : Int32) &&& 31).toUInt32).toInt32) &&& (7 : Int32))), .unset] [(.long bb), (.long p0)]))
              refine own_Goes.st ?_ (fun _ k => XS.lcmp X1.here hx rfl (hb hby at_234) rfl k)
              by_cases hq : p0 = bb
              · skip
                refine own_Goes.st ?_ (fun _ k => XS.ifNo X1.here hx rfl (hb hby at_235) rfl ((if0 _ _).trans (teq ((lw_eq _ _).mpr hq)).2) k)
                refine own_Goes.st ?_ (fun _ k => XS.iconst X1.here hx rfl (hb hby at_238) k)
                refine own_Goes.st ?_ (fun _ k => XS.goto X1.here hx rfl (pc0 := 239) (pc' := 243) rfl (hb hby at_239) (by decide) (by decide) k)
                show own_Goes p.tables e below P (T1.setTop (mkF m 243 #[.val (.long p0), .second, .val (.long p1), .second, .val (.int p2), .val (.long bb), .second, .val (.ref a1), .val (.ref a2), .val (.ref x1), .val (.ref x2), .val (.int ((((p2).toUInt32 >>> ((10 : Int32) &&& 31).toUInt32).toInt32) &&& (7 : Int32))), .unset] [(.int (1 : Int32))]))
                refine own_Goes.st ?_ (fun _ k => XS.istore X1.here hx rfl (hb hby at_243) rfl (l' := #[.val (.long p0), .second, .val (.long p1), .second, .val (.int p2), .val (.long bb), .second, .val (.ref a1), .val (.ref a2), .val (.ref x1), .val (.ref x2), .val (.int ((((p2).toUInt32 >>> ((10 : Int32) &&& 31).toUInt32).toInt32) &&& (7 : Int32))), .val (.int (1 : Int32))]) rfl k)
                refine own_Goes.st ?_ (fun _ k => XS.aload X1.here hx rfl (hb hby at_245) rfl rfl k)
                refine own_Goes.st ?_ (fun _ k => XS.aload X1.here hx rfl (hb hby at_247) rfl rfl k)
                obtain ⟨cq29, kq29, q29a, q29b, q29c⟩ := isOf hZ e1 E1
                obtain ⟨_, _, ⟨T29, L29, k29, n29⟩, -, X29, ⟨Lc29, hQ29, l29, y29, z29⟩, st29⟩ := X1.virtualBack hx (y := (⟨"com/example/larder/larder/DoubleValue", "equals", "(Ljava/lang/Object;)Z"⟩ : MethodName)) (z := (⟨"com/example/larder/larder/DoubleValue", "equals", "(Ljava/lang/Object;)Z"⟩ : MethodName)) hown (mvT hZ (hw _ (List.mem_of_getElem? (i := 71) rfl))) (mvT hZ (hw _ (List.mem_of_getElem? (i := 72) rfl))) (notFace_of_selects (args := #[]) (mvT hZ (hw _ (List.mem_of_getElem? (i := 74) rfl)))) (mvT hZ (hw _ (List.mem_of_getElem? (i := 74) rfl))) (mvT hZ (hw _ (List.mem_of_getElem? (i := 73) rfl))) (by decide) (backOf (W := 0) (rm_eqd l Z a0 hw [] x1 x2 p0 bb h1 n0 Z1 F1 E2 F2) hZ (hw _ (List.mem_of_getElem? (i := 75) rfl)) (hw _ (List.mem_of_getElem? (i := 28) rfl)) (by decide) (by decide)) q29a q29c (g := (mkF m 249 #[.val (.long p0), .second, .val (.long p1), .second, .val (.int p2), .val (.long bb), .second, .val (.ref a1), .val (.ref a2), .val (.ref x1), .val (.ref x2), .val (.int ((((p2).toUInt32 >>> ((10 : Int32) &&& 31).toUInt32).toInt32) &&& (7 : Int32))), .val (.int (1 : Int32))] [(.ref x2), (.ref x1)])) rfl (by rw [hml]; rfl) (Steps.refl _) (argsL := [(.ref x2)]) (rest := []) (lenOf own_pd__28_Ljava_2f_lang_2f_Object_3b__29_Z rfl) rfl (by show 2 * 0 + _ ≤ _; exact Nat.le_of_eq rfl) (hb hby at_249) (fun _ _ => ⟨rfl, e1, (by decide : 16 + 0 ≤ _), (by decide : 60 + 0 ≤ _)⟩)
                dsimp only [Pt.U, Pt.locs, Pt.cells, Pt.slots] at X29 l29 y29 z29 st29 hQ29
                rw [l29, y29, z29] at X29
                obtain ⟨rfl, Nq29, e29⟩ := hQ29
                have N29 := Fr.app N1 Nq29
                refine own_Goes.tr st29 ?_
                show own_Goes p.tables e below P (T29.setTop (mkF m 252 #[.val (.long p0), .second, .val (.long p1), .second, .val (.int p2), .val (.long bb), .second, .val (.ref a1), .val (.ref a2), .val (.ref x1), .val (.ref x2), .val (.int ((((p2).toUInt32 >>> ((10 : Int32) &&& 31).toUInt32).toInt32) &&& (7 : Int32))), .val (.int (1 : Int32))] [(.int (own_eqv p0 bb))]))
                rw [own_eqv1 hq]
                show own_Goes p.tables e below P (T29.setTop (mkF m 252 #[.val (.long p0), .second, .val (.long p1), .second, .val (.int p2), .val (.long bb), .second, .val (.ref a1), .val (.ref a2), .val (.ref x1), .val (.ref x2), .val (.int ((((p2).toUInt32 >>> ((10 : Int32) &&& 31).toUInt32).toInt32) &&& (7 : Int32))), .val (.int (1 : Int32))] [(.int (1 : Int32))]))
                refine own_Goes.st ?_ (fun _ k => XS.iload X29.here hx rfl (hb hby at_252) rfl k)
                refine own_Goes.st ?_ (fun _ k => XS.icmpNo X29.here hx rfl (hb hby at_254) rfl (teq (by decide : (1 : Int32) = (1 : Int32))).2 k)
                refine own_Goes.st ?_ (fun _ k => XS.aload X29.here hx rfl (hb hby at_257) rfl rfl k)
                refine own_Goes.st ?_ (fun _ k => XS.aload X29.here hx rfl (hb hby at_259) rfl rfl k)
                show own_Goes p.tables e below P (T29.setTop (mkF m 261 #[.val (.long p0), .second, .val (.long p1), .second, .val (.int p2), .val (.long bb), .second, .val (.ref a1), .val (.ref a2), .val (.ref x1), .val (.ref x2), .val (.int ((((p2).toUInt32 >>> ((10 : Int32) &&& 31).toUInt32).toInt32) &&& (7 : Int32))), .val (.int (1 : Int32))] [(.ref x1), (.ref x2)]))
                obtain ⟨cq30, kq30, q30a, q30b, q30c⟩ := isOf hZ e29 E2
                obtain ⟨_, _, ⟨T30, L30, k30, n30⟩, -, X30, ⟨Lc30, hQ30, l30, y30, z30⟩, st30⟩ := X29.virtualBack hx (y := (⟨"com/example/larder/larder/DoubleValue", "equals", "(Ljava/lang/Object;)Z"⟩ : MethodName)) (z := (⟨"com/example/larder/larder/DoubleValue", "equals", "(Ljava/lang/Object;)Z"⟩ : MethodName)) hown (mvT hZ (hw _ (List.mem_of_getElem? (i := 71) rfl))) (mvT hZ (hw _ (List.mem_of_getElem? (i := 72) rfl))) (notFace_of_selects (args := #[]) (mvT hZ (hw _ (List.mem_of_getElem? (i := 74) rfl)))) (mvT hZ (hw _ (List.mem_of_getElem? (i := 74) rfl))) (mvT hZ (hw _ (List.mem_of_getElem? (i := 73) rfl))) (by decide) (backOf (W := 0) (rm_eqd l Z a0 hw [] x2 x1 bb p0 h1 n0 Z1 F2 E1 F1) hZ (hw _ (List.mem_of_getElem? (i := 75) rfl)) (hw _ (List.mem_of_getElem? (i := 28) rfl)) (by decide) (by decide)) q30a q30c (g := (mkF m 261 #[.val (.long p0), .second, .val (.long p1), .second, .val (.int p2), .val (.long bb), .second, .val (.ref a1), .val (.ref a2), .val (.ref x1), .val (.ref x2), .val (.int ((((p2).toUInt32 >>> ((10 : Int32) &&& 31).toUInt32).toInt32) &&& (7 : Int32))), .val (.int (1 : Int32))] [(.ref x1), (.ref x2)])) rfl (by rw [hml]; rfl) (Steps.refl _) (argsL := [(.ref x1)]) (rest := []) (lenOf own_pd__28_Ljava_2f_lang_2f_Object_3b__29_Z rfl) rfl (by show 2 * 0 + _ ≤ _; exact Nat.le_of_eq rfl) (hb hby at_261) (fun _ _ => ⟨rfl, e29, (by decide : 16 + 0 ≤ _), (by decide : 60 + 0 ≤ _)⟩)
                dsimp only [Pt.U, Pt.locs, Pt.cells, Pt.slots] at X30 l30 y30 z30 st30 hQ30
                rw [l30, y30, z30] at X30
                obtain ⟨rfl, Nq30, e30⟩ := hQ30
                have N30 := Fr.app N29 Nq30
                refine own_Goes.tr st30 ?_
                show own_Goes p.tables e below P (T30.setTop (mkF m 264 #[.val (.long p0), .second, .val (.long p1), .second, .val (.int p2), .val (.long bb), .second, .val (.ref a1), .val (.ref a2), .val (.ref x1), .val (.ref x2), .val (.int ((((p2).toUInt32 >>> ((10 : Int32) &&& 31).toUInt32).toInt32) &&& (7 : Int32))), .val (.int (1 : Int32))] [(.int (own_eqv bb p0))]))
                rw [own_eqv1 hq.symm]
                show own_Goes p.tables e below P (T30.setTop (mkF m 264 #[.val (.long p0), .second, .val (.long p1), .second, .val (.int p2), .val (.long bb), .second, .val (.ref a1), .val (.ref a2), .val (.ref x1), .val (.ref x2), .val (.int ((((p2).toUInt32 >>> ((10 : Int32) &&& 31).toUInt32).toInt32) &&& (7 : Int32))), .val (.int (1 : Int32))] [(.int (1 : Int32))]))
                refine own_Goes.st ?_ (fun _ k => XS.iload X30.here hx rfl (hb hby at_264) rfl k)
                refine own_Goes.st ?_ (fun _ k => XS.icmpNo X30.here hx rfl (hb hby at_266) rfl (teq (by decide : (1 : Int32) = (1 : Int32))).2 k)
                refine own_Goes.st ?_ (fun _ k => XS.iconst X30.here hx rfl (hb hby at_269) k)
                refine own_Goes.st ?_ (fun _ k => XS.goto X30.here hx rfl (pc0 := 270) (pc' := 274) rfl (hb hby at_270) (by decide) (by decide) k)
                show own_Goes p.tables e below P (T30.setTop (mkF m 274 #[.val (.long p0), .second, .val (.long p1), .second, .val (.int p2), .val (.long bb), .second, .val (.ref a1), .val (.ref a2), .val (.ref x1), .val (.ref x2), .val (.int ((((p2).toUInt32 >>> ((10 : Int32) &&& 31).toUInt32).toInt32) &&& (7 : Int32))), .val (.int (1 : Int32))] [(.int (1 : Int32))]))
                obtain ⟨fs, hr, hrun, hended, hW, hsame⟩ := X30.leave (v := some (.int (1 : Int32))) (fun h => by rw [Bd.returns] at h; cases h)
                exact own_Goes.fin _ _ (retOut X30 hx (t := .boolean) Bd.returns rfl (Or.inl ⟨rfl, Or.inr (Or.inl rfl), _, rfl⟩) (hb hby at_274) hr) (hPP _ _ ⟨hrun, hended, _, _, rfl, (by show Q_law n0 _ _; exact ⟨rfl, N30⟩), ⟨_, rfl⟩, hW, hsame.mono (by decide) (by decide)⟩)
              · skip
                refine own_Goes.st ?_ (fun _ k => XS.ifYes X1.here hx rfl (pc0 := 235) (pc' := 242) rfl (hb hby at_235) rfl ((if0 _ _).trans (feq (fun q => hq ((lw_eq _ _).mp q))).2) (by decide) (by decide) k)
                refine own_Goes.st ?_ (fun _ k => XS.iconst X1.here hx rfl (hb hby at_242) k)
                refine own_Goes.st ?_ (fun _ k => XS.istore X1.here hx rfl (hb hby at_243) rfl (l' := #[.val (.long p0), .second, .val (.long p1), .second, .val (.int p2), .val (.long bb), .second, .val (.ref a1), .val (.ref a2), .val (.ref x1), .val (.ref x2), .val (.int ((((p2).toUInt32 >>> ((10 : Int32) &&& 31).toUInt32).toInt32) &&& (7 : Int32))), .val (.int (0 : Int32))]) rfl k)
                show own_Goes p.tables e below P (T1.setTop (mkF m 245 #[.val (.long p0), .second, .val (.long p1), .second, .val (.int p2), .val (.long bb), .second, .val (.ref a1), .val (.ref a2), .val (.ref x1), .val (.ref x2), .val (.int ((((p2).toUInt32 >>> ((10 : Int32) &&& 31).toUInt32).toInt32) &&& (7 : Int32))), .val (.int (0 : Int32))] []))
                refine own_Goes.st ?_ (fun _ k => XS.aload X1.here hx rfl (hb hby at_245) rfl rfl k)
                refine own_Goes.st ?_ (fun _ k => XS.aload X1.here hx rfl (hb hby at_247) rfl rfl k)
                obtain ⟨cq31, kq31, q31a, q31b, q31c⟩ := isOf hZ e1 E1
                obtain ⟨_, _, ⟨T31, L31, k31, n31⟩, -, X31, ⟨Lc31, hQ31, l31, y31, z31⟩, st31⟩ := X1.virtualBack hx (y := (⟨"com/example/larder/larder/DoubleValue", "equals", "(Ljava/lang/Object;)Z"⟩ : MethodName)) (z := (⟨"com/example/larder/larder/DoubleValue", "equals", "(Ljava/lang/Object;)Z"⟩ : MethodName)) hown (mvT hZ (hw _ (List.mem_of_getElem? (i := 71) rfl))) (mvT hZ (hw _ (List.mem_of_getElem? (i := 72) rfl))) (notFace_of_selects (args := #[]) (mvT hZ (hw _ (List.mem_of_getElem? (i := 74) rfl)))) (mvT hZ (hw _ (List.mem_of_getElem? (i := 74) rfl))) (mvT hZ (hw _ (List.mem_of_getElem? (i := 73) rfl))) (by decide) (backOf (W := 0) (rm_eqd l Z a0 hw [] x1 x2 p0 bb h1 n0 Z1 F1 E2 F2) hZ (hw _ (List.mem_of_getElem? (i := 75) rfl)) (hw _ (List.mem_of_getElem? (i := 28) rfl)) (by decide) (by decide)) q31a q31c (g := (mkF m 249 #[.val (.long p0), .second, .val (.long p1), .second, .val (.int p2), .val (.long bb), .second, .val (.ref a1), .val (.ref a2), .val (.ref x1), .val (.ref x2), .val (.int ((((p2).toUInt32 >>> ((10 : Int32) &&& 31).toUInt32).toInt32) &&& (7 : Int32))), .val (.int (0 : Int32))] [(.ref x2), (.ref x1)])) rfl (by rw [hml]; rfl) (Steps.refl _) (argsL := [(.ref x2)]) (rest := []) (lenOf own_pd__28_Ljava_2f_lang_2f_Object_3b__29_Z rfl) rfl (by show 2 * 0 + _ ≤ _; exact Nat.le_of_eq rfl) (hb hby at_249) (fun _ _ => ⟨rfl, e1, (by decide : 16 + 0 ≤ _), (by decide : 60 + 0 ≤ _)⟩)
                dsimp only [Pt.U, Pt.locs, Pt.cells, Pt.slots] at X31 l31 y31 z31 st31 hQ31
                rw [l31, y31, z31] at X31
                obtain ⟨rfl, Nq31, e31⟩ := hQ31
                have N31 := Fr.app N1 Nq31
                refine own_Goes.tr st31 ?_
                show own_Goes p.tables e below P (T31.setTop (mkF m 252 #[.val (.long p0), .second, .val (.long p1), .second, .val (.int p2), .val (.long bb), .second, .val (.ref a1), .val (.ref a2), .val (.ref x1), .val (.ref x2), .val (.int ((((p2).toUInt32 >>> ((10 : Int32) &&& 31).toUInt32).toInt32) &&& (7 : Int32))), .val (.int (0 : Int32))] [(.int (own_eqv p0 bb))]))
                rw [own_eqv0 hq]
                show own_Goes p.tables e below P (T31.setTop (mkF m 252 #[.val (.long p0), .second, .val (.long p1), .second, .val (.int p2), .val (.long bb), .second, .val (.ref a1), .val (.ref a2), .val (.ref x1), .val (.ref x2), .val (.int ((((p2).toUInt32 >>> ((10 : Int32) &&& 31).toUInt32).toInt32) &&& (7 : Int32))), .val (.int (0 : Int32))] [(.int (0 : Int32))]))
                refine own_Goes.st ?_ (fun _ k => XS.iload X31.here hx rfl (hb hby at_252) rfl k)
                refine own_Goes.st ?_ (fun _ k => XS.icmpNo X31.here hx rfl (hb hby at_254) rfl (teq (by decide : (0 : Int32) = (0 : Int32))).2 k)
                refine own_Goes.st ?_ (fun _ k => XS.aload X31.here hx rfl (hb hby at_257) rfl rfl k)
                refine own_Goes.st ?_ (fun _ k => XS.aload X31.here hx rfl (hb hby at_259) rfl rfl k)
                show own_Goes p.tables e below P (T31.setTop (mkF m 261 #[.val (.long p0), .second, .val (.long p1), .second, .val (.int p2), .val (.long bb), .second, .val (.ref a1), .val (.ref a2), .val (.ref x1), .val (.ref x2), .val (.int ((((p2).toUInt32 >>> ((10 : Int32) &&& 31).toUInt32).toInt32) &&& (7 : Int32))), .val (.int (0 : Int32))] [(.ref x1), (.ref x2)]))
                obtain ⟨cq32, kq32, q32a, q32b, q32c⟩ := isOf hZ e31 E2
                obtain ⟨_, _, ⟨T32, L32, k32, n32⟩, -, X32, ⟨Lc32, hQ32, l32, y32, z32⟩, st32⟩ := X31.virtualBack hx (y := (⟨"com/example/larder/larder/DoubleValue", "equals", "(Ljava/lang/Object;)Z"⟩ : MethodName)) (z := (⟨"com/example/larder/larder/DoubleValue", "equals", "(Ljava/lang/Object;)Z"⟩ : MethodName)) hown (mvT hZ (hw _ (List.mem_of_getElem? (i := 71) rfl))) (mvT hZ (hw _ (List.mem_of_getElem? (i := 72) rfl))) (notFace_of_selects (args := #[]) (mvT hZ (hw _ (List.mem_of_getElem? (i := 74) rfl)))) (mvT hZ (hw _ (List.mem_of_getElem? (i := 74) rfl))) (mvT hZ (hw _ (List.mem_of_getElem? (i := 73) rfl))) (by decide) (backOf (W := 0) (rm_eqd l Z a0 hw [] x2 x1 bb p0 h1 n0 Z1 F2 E1 F1) hZ (hw _ (List.mem_of_getElem? (i := 75) rfl)) (hw _ (List.mem_of_getElem? (i := 28) rfl)) (by decide) (by decide)) q32a q32c (g := (mkF m 261 #[.val (.long p0), .second, .val (.long p1), .second, .val (.int p2), .val (.long bb), .second, .val (.ref a1), .val (.ref a2), .val (.ref x1), .val (.ref x2), .val (.int ((((p2).toUInt32 >>> ((10 : Int32) &&& 31).toUInt32).toInt32) &&& (7 : Int32))), .val (.int (0 : Int32))] [(.ref x1), (.ref x2)])) rfl (by rw [hml]; rfl) (Steps.refl _) (argsL := [(.ref x1)]) (rest := []) (lenOf own_pd__28_Ljava_2f_lang_2f_Object_3b__29_Z rfl) rfl (by show 2 * 0 + _ ≤ _; exact Nat.le_of_eq rfl) (hb hby at_261) (fun _ _ => ⟨rfl, e31, (by decide : 16 + 0 ≤ _), (by decide : 60 + 0 ≤ _)⟩)
                dsimp only [Pt.U, Pt.locs, Pt.cells, Pt.slots] at X32 l32 y32 z32 st32 hQ32
                rw [l32, y32, z32] at X32
                obtain ⟨rfl, Nq32, e32⟩ := hQ32
                have N32 := Fr.app N31 Nq32
                refine own_Goes.tr st32 ?_
                show own_Goes p.tables e below P (T32.setTop (mkF m 264 #[.val (.long p0), .second, .val (.long p1), .second, .val (.int p2), .val (.long bb), .second, .val (.ref a1), .val (.ref a2), .val (.ref x1), .val (.ref x2), .val (.int ((((p2).toUInt32 >>> ((10 : Int32) &&& 31).toUInt32).toInt32) &&& (7 : Int32))), .val (.int (0 : Int32))] [(.int (own_eqv bb p0))]))
                rw [own_eqv0 (Ne.symm hq)]
                show own_Goes p.tables e below P (T32.setTop (mkF m 264 #[.val (.long p0), .second, .val (.long p1), .second, .val (.int p2), .val (.long bb), .second, .val (.ref a1), .val (.ref a2), .val (.ref x1), .val (.ref x2), .val (.int ((((p2).toUInt32 >>> ((10 : Int32) &&& 31).toUInt32).toInt32) &&& (7 : Int32))), .val (.int (0 : Int32))] [(.int (0 : Int32))]))
                refine own_Goes.st ?_ (fun _ k => XS.iload X32.here hx rfl (hb hby at_264) rfl k)
                refine own_Goes.st ?_ (fun _ k => XS.icmpNo X32.here hx rfl (hb hby at_266) rfl (teq (by decide : (0 : Int32) = (0 : Int32))).2 k)
                refine own_Goes.st ?_ (fun _ k => XS.iconst X32.here hx rfl (hb hby at_269) k)
                refine own_Goes.st ?_ (fun _ k => XS.goto X32.here hx rfl (pc0 := 270) (pc' := 274) rfl (hb hby at_270) (by decide) (by decide) k)
                show own_Goes p.tables e below P (T32.setTop (mkF m 274 #[.val (.long p0), .second, .val (.long p1), .second, .val (.int p2), .val (.long bb), .second, .val (.ref a1), .val (.ref a2), .val (.ref x1), .val (.ref x2), .val (.int ((((p2).toUInt32 >>> ((10 : Int32) &&& 31).toUInt32).toInt32) &&& (7 : Int32))), .val (.int (0 : Int32))] [(.int (1 : Int32))]))
                obtain ⟨fs, hr, hrun, hended, hW, hsame⟩ := X32.leave (v := some (.int (1 : Int32))) (fun h => by rw [Bd.returns] at h; cases h)
                exact own_Goes.fin _ _ (retOut X32 hx (t := .boolean) Bd.returns rfl (Or.inl ⟨rfl, Or.inr (Or.inl rfl), _, rfl⟩) (hb hby at_274) hr) (hPP _ _ ⟨hrun, hended, _, _, rfl, (by show Q_law n0 _ _; exact ⟨rfl, N32⟩), ⟨_, rfl⟩, hW, hsame.mono (by decide) (by decide)⟩)
    obtain ⟨T33, h33, X33, e33, E33, A33, D33, -, st33⟩ := newO X0 hx hZ hown (hw _ (List.mem_of_getElem? (i := 0) rfl)) (hw _ (List.mem_of_getElem? (i := 1) rfl)) (hw _ (List.mem_of_getElem? (i := 2) rfl)) e0 (g := (mkF m 33 #[.val (.long p0), .second, .val (.long p1), .second, .val (.int p2), .val (.long bb), .second, .unset, .unset, .unset, .unset, .unset, .unset] [])) rfl (hb hby at_33) (by decide) (by decide)
    obtain ⟨a33, g33⟩ : ∃ z, z = h0.size := ⟨_, rfl⟩
    rw [← g33] at A33 D33 st33
    have ge_a33 : n0 ≤ a33 := Nat.le_trans Z0 (Nat.le_of_eq g33.symm)
    refine own_Goes.st ?_ st33
    have Z34 : n0 ≤ h33.size := Nat.le_trans Z0 E33.1
    have O35 := pr1.ext E33
    have F36 : Fld Z h33 a33 "java/util/AbstractList" "modCount" "I" (.int (0 : Int32)) := D33 (Or.inl (hw _ (List.mem_of_getElem? (i := 22) rfl))) (ty := .int) (by decide)
    have F37 : Fld Z h33 a33 "java/util/ArrayList" "elementData" "[Ljava/lang/Object;" .null := D33 (Or.inl (hw _ (List.mem_of_getElem? (i := 25) rfl))) (ty := (.array (.object "java/lang/Object"))) (by decide)
    have F38 : Fld Z h33 a33 "java/util/ArrayList" "size" "I" (.int (0 : Int32)) := D33 (Or.inl (hw _ (List.mem_of_getElem? (i := 62) rfl))) (ty := .int) (by decide)
    show own_Goes p.tables e below P (T33.setTop (mkF m 36 #[.val (.long p0), .second, .val (.long p1), .second, .val (.int p2), .val (.long bb), .second, .unset, .unset, .unset, .unset, .unset, .unset] [(.ref a33)]))
    refine own_Goes.st ?_ (fun _ k => XS.dup X33.here hx rfl (hb hby at_36) rfl rfl k)
    obtain ⟨_, _, ⟨T39, L39, k39, n39⟩, -, X39, ⟨Lc39, hQ39, l39, y39, z39⟩, st39⟩ := X33.specialBack hx (y := (⟨"java/util/ArrayList", "<init>", "()V"⟩ : MethodName)) rfl hown (mvT hZ (hw _ (List.mem_of_getElem? (i := 3) rfl))) (mvT hZ (hw _ (List.mem_of_getElem? (i := 4) rfl))) (mvT hZ (hw _ (List.mem_of_getElem? (i := 5) rfl))) (by decide) (backOf (W := 1) (rm_alnew l Z a0 hw [] a33 de (.int (0 : Int32)) .null h33 n0 Z34 A33 F36 F37 F38 ge_a33 pr0 O35) hZ (hw _ (List.mem_of_getElem? (i := 5) rfl)) (hw _ (List.mem_of_getElem? (i := 2) rfl)) (by decide) (by decide)) (g := (mkF m 37 #[.val (.long p0), .second, .val (.long p1), .second, .val (.int p2), .val (.long bb), .second, .unset, .unset, .unset, .unset, .unset, .unset] [(.ref a33), (.ref a33)])) rfl (by rw [hml]; rfl) (Steps.refl _) (a := a33) (argsL := []) (rest := [(.ref a33)]) (lenOf own_pd__28__29_V rfl) rfl (by show 2 * 0 + _ ≤ _; exact Nat.le_of_eq rfl) (hb hby at_37) (fun _ _ => ⟨rfl, e33, (by decide : 1 + 0 ≤ _), (by decide : 3 + 0 ≤ _)⟩)
    dsimp only [Pt.U, Pt.locs, Pt.cells, Pt.slots] at X39 l39 y39 z39 st39 hQ39
    rw [l39, y39, z39] at X39
    obtain ⟨rfl, Nq39, K39, f40, f41, f42, f43⟩ := hQ39
    have N39 := Fr.app N0 Nq39
    refine own_Goes.tr st39 ?_
    have Z44 : n0 ≤ T39.heap.size := Nat.le_trans Z34 K39.1
    have O45 := O35.keep K39 (allS ge_a33 all0)
    show own_Goes p.tables e below P (T39.setTop (mkF m 40 #[.val (.long p0), .second, .val (.long p1), .second, .val (.int p2), .val (.long bb), .second, .unset, .unset, .unset, .unset, .unset, .unset] [(.ref a33)]))
    refine own_Goes.st ?_ (fun _ k => XS.astore X39.here hx rfl (hb hby at_40) rfl rfl (l' := #[.val (.long p0), .second, .val (.long p1), .second, .val (.int p2), .val (.long bb), .second, .val (.ref a33), .unset, .unset, .unset, .unset, .unset]) rfl k)
    obtain ⟨T46, h46, X46, e46, E46, A46, D46, -, st46⟩ := newO X39 hx hZ hown (hw _ (List.mem_of_getElem? (i := 0) rfl)) (hw _ (List.mem_of_getElem? (i := 1) rfl)) (hw _ (List.mem_of_getElem? (i := 2) rfl)) rfl (g := (mkF m 42 #[.val (.long p0), .second, .val (.long p1), .second, .val (.int p2), .val (.long bb), .second, .val (.ref a33), .unset, .unset, .unset, .unset, .unset] [])) rfl (hb hby at_42) (by decide) (by decide)
    obtain ⟨a46, g46⟩ : ∃ z, z = T39.heap.size := ⟨_, rfl⟩
    rw [← g46] at A46 D46 st46
    have ne47 : a33 ≠ a46 := Nat.ne_of_lt (Nat.lt_of_lt_of_eq f40.lt g46.symm)
    have ge_a46 : n0 ≤ a46 := Nat.le_trans Z44 (Nat.le_of_eq g46.symm)
    refine own_Goes.st ?_ st46
    have Z48 : n0 ≤ h46.size := Nat.le_trans Z44 E46.1
    have O49 := O45.ext E46
    have F50 : Fld Z h46 a46 "java/util/AbstractList" "modCount" "I" (.int (0 : Int32)) := D46 (Or.inl (hw _ (List.mem_of_getElem? (i := 22) rfl))) (ty := .int) (by decide)
    have F51 : Fld Z h46 a46 "java/util/ArrayList" "elementData" "[Ljava/lang/Object;" .null := D46 (Or.inl (hw _ (List.mem_of_getElem? (i := 25) rfl))) (ty := (.array (.object "java/lang/Object"))) (by decide)
    have F52 : Fld Z h46 a46 "java/util/ArrayList" "size" "I" (.int (0 : Int32)) := D46 (Or.inl (hw _ (List.mem_of_getElem? (i := 62) rfl))) (ty := .int) (by decide)
    show own_Goes p.tables e below P (T46.setTop (mkF m 45 #[.val (.long p0), .second, .val (.long p1), .second, .val (.int p2), .val (.long bb), .second, .val (.ref a33), .unset, .unset, .unset, .unset, .unset] [(.ref a46)]))
    refine own_Goes.st ?_ (fun _ k => XS.dup X46.here hx rfl (hb hby at_45) rfl rfl k)
    obtain ⟨_, _, ⟨T53, L53, k53, n53⟩, -, X53, ⟨Lc53, hQ53, l53, y53, z53⟩, st53⟩ := X46.specialBack hx (y := (⟨"java/util/ArrayList", "<init>", "()V"⟩ : MethodName)) rfl hown (mvT hZ (hw _ (List.mem_of_getElem? (i := 3) rfl))) (mvT hZ (hw _ (List.mem_of_getElem? (i := 4) rfl))) (mvT hZ (hw _ (List.mem_of_getElem? (i := 5) rfl))) (by decide) (backOf (W := 1) (rm_alnew l Z a0 hw [] a46 de (.int (0 : Int32)) .null h46 n0 Z48 A46 F50 F51 F52 ge_a46 pr0 O49) hZ (hw _ (List.mem_of_getElem? (i := 5) rfl)) (hw _ (List.mem_of_getElem? (i := 2) rfl)) (by decide) (by decide)) (g := (mkF m 46 #[.val (.long p0), .second, .val (.long p1), .second, .val (.int p2), .val (.long bb), .second, .val (.ref a33), .unset, .unset, .unset, .unset, .unset] [(.ref a46), (.ref a46)])) rfl (by rw [hml]; rfl) (Steps.refl _) (a := a46) (argsL := []) (rest := [(.ref a46)]) (lenOf own_pd__28__29_V rfl) rfl (by show 2 * 0 + _ ≤ _; exact Nat.le_of_eq rfl) (hb hby at_46) (fun _ _ => ⟨rfl, e46, (by decide : 2 + 0 ≤ _), (by decide : 6 + 0 ≤ _)⟩)
    dsimp only [Pt.U, Pt.locs, Pt.cells, Pt.slots] at X53 l53 y53 z53 st53 hQ53
    rw [l53, y53, z53] at X53
    obtain ⟨rfl, Nq53, K53, f54, f55, f56, f57⟩ := hQ53
    have N53 := Fr.app N39 Nq53
    refine own_Goes.tr st53 ?_
    have Z58 : n0 ≤ T53.heap.size := Nat.le_trans Z48 K53.1
    have O59 := O49.keep K53 (allS ge_a46 all0)
    show own_Goes p.tables e below P (T53.setTop (mkF m 49 #[.val (.long p0), .second, .val (.long p1), .second, .val (.int p2), .val (.long bb), .second, .val (.ref a33), .unset, .unset, .unset, .unset, .unset] [(.ref a46)]))
    refine own_Goes.st ?_ (fun _ k => XS.astore X53.here hx rfl (hb hby at_49) rfl rfl (l' := #[.val (.long p0), .second, .val (.long p1), .second, .val (.int p2), .val (.long bb), .second, .val (.ref a33), .val (.ref a46), .unset, .unset, .unset, .unset]) rfl k)
    refine own_Goes.st ?_ (fun _ k => XS.iload X53.here hx rfl (hb hby at_51) rfl k)
    refine own_Goes.st ?_ (fun _ k => XS.sipush X53.here hx rfl (hb hby at_53) k)
    refine own_Goes.st ?_ (fun _ k => XS.iand X53.here hx rfl (hb hby at_56) rfl k)
    show own_Goes p.tables e below P (T53.setTop (mkF m 57 #[.val (.long p0), .second, .val (.long p1), .second, .val (.int p2), .val (.long bb), .second, .val (.ref a33), .val (.ref a46), .unset, .unset, .unset, .unset] [(.int (p2 &&& (256 : Int32)))]))
    by_cases hm1 : (p2 &&& (256 : Int32)) = (0 : Int32)
    · skip
      refine own_Goes.st ?_ (fun _ k => XS.ifYes X53.here hx rfl (pc0 := 57) (pc' := 74) rfl (hb hby at_57) rfl ((if0 _ _).trans (teq hm1).1) (by decide) (by decide) k)
      refine own_Goes.st ?_ (fun _ k => XS.iload X53.here hx rfl (hb hby at_74) rfl k)
      refine own_Goes.st ?_ (fun _ k => XS.sipush X53.here hx rfl (hb hby at_76) k)
      refine own_Goes.st ?_ (fun _ k => XS.iand X53.here hx rfl (hb hby at_79) rfl k)
      show own_Goes p.tables e below P (T53.setTop (mkF m 80 #[.val (.long p0), .second, .val (.long p1), .second, .val (.int p2), .val (.long bb), .second, .val (.ref a33), .val (.ref a46), .unset, .unset, .unset, .unset] [(.int (p2 &&& (512 : Int32)))]))
      by_cases hm2 : (p2 &&& (512 : Int32)) = (0 : Int32)
      · skip
        refine own_Goes.st ?_ (fun _ k => XS.ifYes X53.here hx rfl (pc0 := 80) (pc' := 97) rfl (hb hby at_80) rfl ((if0 _ _).trans (teq hm2).1) (by decide) (by decide) k)
        obtain ⟨T60, h60, X60, e60, E60, A60, D60, -, st60⟩ := newO X53 hx hZ hown (hw _ (List.mem_of_getElem? (i := 26) rfl)) (hw _ (List.mem_of_getElem? (i := 27) rfl)) (hw _ (List.mem_of_getElem? (i := 28) rfl)) rfl (g := (mkF m 97 #[.val (.long p0), .second, .val (.long p1), .second, .val (.int p2), .val (.long bb), .second, .val (.ref a33), .val (.ref a46), .unset, .unset, .unset, .unset] [])) rfl (hb hby at_97) (by decide) (by decide)
        obtain ⟨a60, g60⟩ : ∃ z, z = T53.heap.size := ⟨_, rfl⟩
        rw [← g60] at A60 D60 st60
        have F61 : Exa Z T53.heap a33 "java/util/ArrayList" := ((f40.ext E46).keep K53)
        have ne62 : a33 ≠ a60 := Nat.ne_of_lt (Nat.lt_of_lt_of_eq F61.lt g60.symm)
        have ne63 : a46 ≠ a60 := Nat.ne_of_lt (Nat.lt_of_lt_of_eq f54.lt g60.symm)
        have ge_a60 : n0 ≤ a60 := Nat.le_trans Z58 (Nat.le_of_eq g60.symm)
        refine own_Goes.st ?_ st60
        have Z64 : n0 ≤ h60.size := Nat.le_trans Z58 E60.1
        have O65 := O59.ext E60
        have F66 : Fld Z h60 a60 "com/example/larder/larder/DoubleValue" "bits" "J" (.long (0 : Int64)) := D60 (Or.inr (hw _ (List.mem_of_getElem? (i := 68) rfl))) (ty := .long) (by decide)
        have F67 : Fld Z h60 a60 "com/example/larder/larder/DoubleValue" "annotations" "Ljava/util/List;" .null := D60 (Or.inr (hw _ (List.mem_of_getElem? (i := 70) rfl))) (ty := (.object "java/util/List")) (by decide)
        show own_Goes p.tables e below P (T60.setTop (mkF m 100 #[.val (.long p0), .second, .val (.long p1), .second, .val (.int p2), .val (.long bb), .second, .val (.ref a33), .val (.ref a46), .unset, .unset, .unset, .unset] [(.ref a60)]))
        refine own_Goes.st ?_ (fun _ k => XS.dup X60.here hx rfl (hb hby at_100) rfl rfl k)
        refine own_Goes.st ?_ (fun _ k => XS.lloadN X60.here hx rfl (hb hby at_101) rfl k)
        refine own_Goes.st ?_ (fun _ k => XS.aload X60.here hx rfl (hb hby at_102) rfl rfl k)
        have F68 : Exa Z h60 a33 "java/util/ArrayList" := (F61.ext E60)
        have F69 : Fld Z h60 a33 "java/util/ArrayList" "size" "I" (.int (0 : Int32)) := (((f43.ext E46).keep K53 (ninS ne47 nin0)).ext E60)
        obtain ⟨_, _, ⟨T70, L70, k70, n70⟩, -, X70, ⟨Lc70, hQ70, l70, y70, z70⟩, st70⟩ := X60.specialBack hx (y := (⟨"com/example/larder/larder/DoubleValue", "<init>", "(JLjava/util/List;)V"⟩ : MethodName)) rfl hown (mvT hZ (hw _ (List.mem_of_getElem? (i := 29) rfl))) (mvT hZ (hw _ (List.mem_of_getElem? (i := 30) rfl))) (mvT hZ (hw _ (List.mem_of_getElem? (i := 31) rfl))) (by decide) (backOf (W := 1) (rm_dv0 l Z a0 hw [] a60 p0 a33 el (.long (0 : Int64)) .null h60 n0 Z64 A60 F66 F67 ge_a60 F68 F69 pr3 O65) hZ (hw _ (List.mem_of_getElem? (i := 31) rfl)) (hw _ (List.mem_of_getElem? (i := 28) rfl)) (by decide) (by decide)) (g := (mkF m 104 #[.val (.long p0), .second, .val (.long p1), .second, .val (.int p2), .val (.long bb), .second, .val (.ref a33), .val (.ref a46), .unset, .unset, .unset, .unset] [(.ref a33), (.long p0), (.ref a60), (.ref a60)])) rfl (by rw [hml]; rfl) (Steps.refl _) (a := a60) (argsL := [(.long p0), (.ref a33)]) (rest := [(.ref a60)]) (lenOf own_pd__28_JLjava_2f_util_2f_List_3b__29_V rfl) rfl (by show 2 * 0 + _ ≤ _; exact Nat.le_of_eq rfl) (hb hby at_104) (fun _ _ => ⟨rfl, e60, (by decide : 3 + 0 ≤ _), (by decide : 8 + 0 ≤ _)⟩)
        dsimp only [Pt.U, Pt.locs, Pt.cells, Pt.slots] at X70 l70 y70 z70 st70 hQ70
        rw [l70, y70, z70] at X70
        obtain ⟨rfl, Nq70, K70, f71, f72⟩ := hQ70
        have N70 := Fr.app N53 Nq70
        refine own_Goes.tr st70 ?_
        have Z73 : n0 ≤ T70.heap.size := Nat.le_trans Z64 K70.1
        have O74 := O65.keep K70 (allS ge_a60 all0)
        show own_Goes p.tables e below P (T70.setTop (mkF m 107 #[.val (.long p0), .second, .val (.long p1), .second, .val (.int p2), .val (.long bb), .second, .val (.ref a33), .val (.ref a46), .unset, .unset, .unset, .unset] [(.ref a60)]))
        refine own_Goes.st ?_ (fun _ k => XS.astore X70.here hx rfl (hb hby at_107) rfl rfl (l' := #[.val (.long p0), .second, .val (.long p1), .second, .val (.int p2), .val (.long bb), .second, .val (.ref a33), .val (.ref a46), .val (.ref a60), .unset, .unset, .unset]) rfl k)
        obtain ⟨T75, h75, X75, e75, E75, A75, D75, -, st75⟩ := newO X70 hx hZ hown (hw _ (List.mem_of_getElem? (i := 26) rfl)) (hw _ (List.mem_of_getElem? (i := 27) rfl)) (hw _ (List.mem_of_getElem? (i := 28) rfl)) rfl (g := (mkF m 109 #[.val (.long p0), .second, .val (.long p1), .second, .val (.int p2), .val (.long bb), .second, .val (.ref a33), .val (.ref a46), .val (.ref a60), .unset, .unset, .unset] [])) rfl (hb hby at_109) (by decide) (by decide)
        obtain ⟨a75, g75⟩ : ∃ z, z = T70.heap.size := ⟨_, rfl⟩
        rw [← g75] at A75 D75 st75
        have F76 : Exa Z T70.heap a33 "java/util/ArrayList" := (F68.keep K70)
        have ne77 : a33 ≠ a75 := Nat.ne_of_lt (Nat.lt_of_lt_of_eq F76.lt g75.symm)
        have F78 : Exa Z T70.heap a46 "java/util/ArrayList" := ((f54.ext E60).keep K70)
        have ne79 : a46 ≠ a75 := Nat.ne_of_lt (Nat.lt_of_lt_of_eq F78.lt g75.symm)
        have ne80 : a60 ≠ a75 := Nat.ne_of_lt (Nat.lt_of_lt_of_eq f71.lt g75.symm)
        have ge_a75 : n0 ≤ a75 := Nat.le_trans Z73 (Nat.le_of_eq g75.symm)
        refine own_Goes.st ?_ st75
        have Z81 : n0 ≤ h75.size := Nat.le_trans Z73 E75.1
        have O82 := O74.ext E75
        have F83 : Fld Z h75 a75 "com/example/larder/larder/DoubleValue" "bits" "J" (.long (0 : Int64)) := D75 (Or.inr (hw _ (List.mem_of_getElem? (i := 68) rfl))) (ty := .long) (by decide)
        have F84 : Fld Z h75 a75 "com/example/larder/larder/DoubleValue" "annotations" "Ljava/util/List;" .null := D75 (Or.inr (hw _ (List.mem_of_getElem? (i := 70) rfl))) (ty := (.object "java/util/List")) (by decide)
        show own_Goes p.tables e below P (T75.setTop (mkF m 112 #[.val (.long p0), .second, .val (.long p1), .second, .val (.int p2), .val (.long bb), .second, .val (.ref a33), .val (.ref a46), .val (.ref a60), .unset, .unset, .unset] [(.ref a75)]))
        refine own_Goes.st ?_ (fun _ k => XS.dup X75.here hx rfl (hb hby at_112) rfl rfl k)
        refine own_Goes.st ?_ (fun _ k => XS.lload X75.here hx rfl (hb hby at_113) rfl k)
        refine own_Goes.st ?_ (fun _ k => XS.aload X75.here hx rfl (hb hby at_115) rfl rfl k)
        have F85 : Exa Z h75 a46 "java/util/ArrayList" := (F78.ext E75)
        have F86 : Fld Z h75 a46 "java/util/ArrayList" "size" "I" (.int (0 : Int32)) := (((f57.ext E60).keep K70 (ninS ne63 nin0)).ext E75)
        obtain ⟨_, _, ⟨T87, L87, k87, n87⟩, -, X87, ⟨Lc87, hQ87, l87, y87, z87⟩, st87⟩ := X75.specialBack hx (y := (⟨"com/example/larder/larder/DoubleValue", "<init>", "(JLjava/util/List;)V"⟩ : MethodName)) rfl hown (mvT hZ (hw _ (List.mem_of_getElem? (i := 29) rfl))) (mvT hZ (hw _ (List.mem_of_getElem? (i := 30) rfl))) (mvT hZ (hw _ (List.mem_of_getElem? (i := 31) rfl))) (by decide) (backOf (W := 1) (rm_dv0 l Z a0 hw [] a75 bb a46 el (.long (0 : Int64)) .null h75 n0 Z81 A75 F83 F84 ge_a75 F85 F86 pr3 O82) hZ (hw _ (List.mem_of_getElem? (i := 31) rfl)) (hw _ (List.mem_of_getElem? (i := 28) rfl)) (by decide) (by decide)) (g := (mkF m 117 #[.val (.long p0), .second, .val (.long p1), .second, .val (.int p2), .val (.long bb), .second, .val (.ref a33), .val (.ref a46), .val (.ref a60), .unset, .unset, .unset] [(.ref a46), (.long bb), (.ref a75), (.ref a75)])) rfl (by rw [hml]; rfl) (Steps.refl _) (a := a75) (argsL := [(.long bb), (.ref a46)]) (rest := [(.ref a75)]) (lenOf own_pd__28_JLjava_2f_util_2f_List_3b__29_V rfl) rfl (by show 2 * 0 + _ ≤ _; exact Nat.le_of_eq rfl) (hb hby at_117) (fun _ _ => ⟨rfl, e75, (by decide : 4 + 0 ≤ _), (by decide : 10 + 0 ≤ _)⟩)
        dsimp only [Pt.U, Pt.locs, Pt.cells, Pt.slots] at X87 l87 y87 z87 st87 hQ87
        rw [l87, y87, z87] at X87
        obtain ⟨rfl, Nq87, K87, f88, f89⟩ := hQ87
        have N87 := Fr.app N70 Nq87
        refine own_Goes.tr st87 ?_
        have Z90 : n0 ≤ T87.heap.size := Nat.le_trans Z81 K87.1
        have O91 := O82.keep K87 (allS ge_a75 all0)
        show own_Goes p.tables e below P (T87.setTop (mkF m 120 #[.val (.long p0), .second, .val (.long p1), .second, .val (.int p2), .val (.long bb), .second, .val (.ref a33), .val (.ref a46), .val (.ref a60), .unset, .unset, .unset] [(.ref a75)]))
        refine own_Goes.st ?_ (fun _ k => XS.astore X87.here hx rfl (hb hby at_120) rfl rfl (l' := #[.val (.long p0), .second, .val (.long p1), .second, .val (.int p2), .val (.long bb), .second, .val (.ref a33), .val (.ref a46), .val (.ref a60), .val (.ref a75), .unset, .unset]) rfl k)
        have F92 : Exa Z T87.heap a60 "com/example/larder/larder/DoubleValue" := ((f71.ext E75).keep K87)
        have F93 : Fld Z T87.heap a60 "com/example/larder/larder/DoubleValue" "bits" "J" (.long p0) := ((f72.ext E75).keep K87 (ninS ne80 nin0))
        exact JT _ _ (X87.more (by decide) (by decide)) _ rfl N87 Z90 a33 a46 a60 a75 O91 F92 F93 f88 f89
      · skip
        refine own_Goes.st ?_ (fun _ k => XS.ifNo X53.here hx rfl (hb hby at_80) rfl ((if0 _ _).trans (feq hm2).1) k)
        refine own_Goes.st ?_ (fun _ k => XS.aload X53.here hx rfl (hb hby at_83) rfl rfl k)
        obtain ⟨T94, h94, X94, e94, E94, A94, D94, -, st94⟩ := newO X53 hx hZ hown (hw _ (List.mem_of_getElem? (i := 78) rfl)) (hw _ (List.mem_of_getElem? (i := 79) rfl)) (hw _ (List.mem_of_getElem? (i := 80) rfl)) rfl (g := (mkF m 85 #[.val (.long p0), .second, .val (.long p1), .second, .val (.int p2), .val (.long bb), .second, .val (.ref a33), .val (.ref a46), .unset, .unset, .unset, .unset] [(.ref a46)])) rfl (hb hby at_85) (by decide) (by decide)
        obtain ⟨a94, g94⟩ : ∃ z, z = T53.heap.size := ⟨_, rfl⟩
        rw [← g94] at A94 D94 st94
        have F95 : Exa Z T53.heap a33 "java/util/ArrayList" := ((f40.ext E46).keep K53)
        have ne96 : a33 ≠ a94 := Nat.ne_of_lt (Nat.lt_of_lt_of_eq F95.lt g94.symm)
        have ne97 : a46 ≠ a94 := Nat.ne_of_lt (Nat.lt_of_lt_of_eq f54.lt g94.symm)
        have ge_a94 : n0 ≤ a94 := Nat.le_trans Z58 (Nat.le_of_eq g94.symm)
        refine own_Goes.st ?_ st94
        have Z98 : n0 ≤ h94.size := Nat.le_trans Z58 E94.1
        have O99 := O59.ext E94
        have F100 : Fld Z h94 a94 "com/example/larder/larder/BooleanValue" "value" "Z" (.int (0 : Int32)) := D94 (Or.inr (hw _ (List.mem_of_getElem? (i := 99) rfl))) (ty := .boolean) (by decide)
        have F101 : Fld Z h94 a94 "com/example/larder/larder/BooleanValue" "annotations" "Ljava/util/List;" .null := D94 (Or.inr (hw _ (List.mem_of_getElem? (i := 101) rfl))) (ty := (.object "java/util/List")) (by decide)
        show own_Goes p.tables e below P (T94.setTop (mkF m 88 #[.val (.long p0), .second, .val (.long p1), .second, .val (.int p2), .val (.long bb), .second, .val (.ref a33), .val (.ref a46), .unset, .unset, .unset, .unset] [(.ref a94), (.ref a46)]))
        refine own_Goes.st ?_ (fun _ k => XS.dup X94.here hx rfl (hb hby at_88) rfl rfl k)
        refine own_Goes.st ?_ (fun _ k => XS.iconst X94.here hx rfl (hb hby at_89) k)
        obtain ⟨_, _, ⟨T102, L102, k102, n102⟩, -, X102, ⟨Lc102, hQ102, l102, y102, z102⟩, st102⟩ := X94.specialBack hx (y := (⟨"com/example/larder/larder/BooleanValue", "<init>", "(Z)V"⟩ : MethodName)) rfl hown (mvT hZ (hw _ (List.mem_of_getElem? (i := 81) rfl))) (mvT hZ (hw _ (List.mem_of_getElem? (i := 82) rfl))) (mvT hZ (hw _ (List.mem_of_getElem? (i := 83) rfl))) (by decide) (backOf (W := 2) (rm_bvn0 l Z a0 hw [] a94 el (.int (0 : Int32)) .null h94 n0 Z98 A94 F100 F101 ge_a94 pr3 O99 pr4 pr5) hZ (hw _ (List.mem_of_getElem? (i := 83) rfl)) (hw _ (List.mem_of_getElem? (i := 80) rfl)) (by decide) (by decide)) (g := (mkF m 90 #[.val (.long p0), .second, .val (.long p1), .second, .val (.int p2), .val (.long bb), .second, .val (.ref a33), .val (.ref a46), .unset, .unset, .unset, .unset] [(.int (0 : Int32)), (.ref a94), (.ref a94), (.ref a46)])) rfl (by rw [hml]; rfl) (Steps.refl _) (a := a94) (argsL := [(.int (0 : Int32))]) (rest := [(.ref a94), (.ref a46)]) (lenOf own_pd__28_Z_29_V rfl) rfl (by show 2 * 0 + _ ≤ _; exact Nat.le_of_eq rfl) (hb hby at_90) (fun _ _ => ⟨rfl, e94, (by decide : 3 + 0 ≤ _), (by decide : 8 + 0 ≤ _)⟩)
        dsimp only [Pt.U, Pt.locs, Pt.cells, Pt.slots] at X102 l102 y102 z102 st102 hQ102
        rw [l102, y102, z102] at X102
        obtain ⟨rfl, Nq102, K102, f103⟩ := hQ102
        have N102 := Fr.app N53 Nq102
        refine own_Goes.tr st102 ?_
        have Z104 : n0 ≤ T102.heap.size := Nat.le_trans Z98 K102.1
        have O105 := O99.keep K102 (allS ge_a94 all0)
        show own_Goes p.tables e below P (T102.setTop (mkF m 93 #[.val (.long p0), .second, .val (.long p1), .second, .val (.int p2), .val (.long bb), .second, .val (.ref a33), .val (.ref a46), .unset, .unset, .unset, .unset] [(.ref a94), (.ref a46)]))
        have F106 : Exa Z T102.heap a46 "java/util/ArrayList" := ((f54.ext E94).keep K102)
        have F107 : Fld Z T102.heap a46 "java/util/AbstractList" "modCount" "I" (.int (0 : Int32)) := ((f55.ext E94).keep K102 (ninS ne97 nin0))
        have F108 : Fld Z T102.heap a46 "java/util/ArrayList" "elementData" "[Ljava/lang/Object;" (.ref de) := ((f56.ext E94).keep K102 (ninS ne97 nin0))
        have F109 : Fld Z T102.heap a46 "java/util/ArrayList" "size" "I" (.int (0 : Int32)) := ((f57.ext E94).keep K102 (ninS ne97 nin0))
        obtain ⟨cq110, kq110, q110a, q110b, q110c⟩ := isOf hZ rfl F106
        obtain ⟨_, _, ⟨T110, L110, k110, n110⟩, -, X110, ⟨Lc110, hQ110, l110, y110, z110⟩, st110⟩ := X102.virtualBack hx (y := (⟨"java/util/ArrayList", "add", "(Ljava/lang/Object;)Z"⟩ : MethodName)) (z := (⟨"java/util/ArrayList", "add", "(Ljava/lang/Object;)Z"⟩ : MethodName)) hown (mvT hZ (hw _ (List.mem_of_getElem? (i := 102) rfl))) (mvT hZ (hw _ (List.mem_of_getElem? (i := 103) rfl))) (notFace_of_selects (args := #[]) (mvT hZ (hw _ (List.mem_of_getElem? (i := 105) rfl)))) (mvT hZ (hw _ (List.mem_of_getElem? (i := 105) rfl))) (mvT hZ (hw _ (List.mem_of_getElem? (i := 104) rfl))) (by decide) (backOf (W := 0) (rm_add l Z a0 hw [] a46 de kd a94 T102.heap n0 Z104 F106 F107 F108 F109 ge_a46 pr0 O105 pr2 f103) hZ (hw _ (List.mem_of_getElem? (i := 106) rfl)) (hw _ (List.mem_of_getElem? (i := 2) rfl)) (by decide) (by decide)) q110a q110c (g := (mkF m 93 #[.val (.long p0), .second, .val (.long p1), .second, .val (.int p2), .val (.long bb), .second, .val (.ref a33), .val (.ref a46), .unset, .unset, .unset, .unset] [(.ref a94), (.ref a46)])) rfl (by rw [hml]; rfl) (Steps.refl _) (argsL := [(.ref a94)]) (rest := []) (lenOf own_pd__28_Ljava_2f_lang_2f_Object_3b__29_Z rfl) rfl (by show 2 * 0 + _ ≤ _; exact Nat.le_of_eq rfl) (hb hby at_93) (fun _ _ => ⟨rfl, rfl, (by decide : 3 + 1 ≤ _), (by decide : 8 + 10 ≤ _)⟩)
        dsimp only [Pt.U, Pt.locs, Pt.cells, Pt.slots] at X110 l110 y110 z110 st110 hQ110
        rw [l110, y110, z110] at X110
        obtain ⟨b110, k110, rfl, Nq110, K110, f111, f112, f113, f114, f115, f116, f117, f118⟩ := hQ110
        have N110 := Fr.app N102 Nq110
        refine own_Goes.tr st110 ?_
        have F119 : Exa Z T102.heap a33 "java/util/ArrayList" := ((F95.ext E94).keep K102)
        have ne120 : a33 ≠ b110 := Nat.ne_of_lt (Nat.lt_of_lt_of_le F119.lt f115)
        have ne121 : a46 ≠ b110 := Nat.ne_of_lt (Nat.lt_of_lt_of_le F106.lt f115)
        have ne122 : a94 ≠ b110 := Nat.ne_of_lt (Nat.lt_of_lt_of_le f103.lt f115)
        have ge_b110 : n0 ≤ b110 := Nat.le_trans Z104 f115
        have Z123 : n0 ≤ T110.heap.size := Nat.le_trans Z104 K110.1
        have O124 := O105.keep K110 (allS ge_a46 all0)
        show own_Goes p.tables e below P (T110.setTop (mkF m 96 #[.val (.long p0), .second, .val (.long p1), .second, .val (.int p2), .val (.long bb), .second, .val (.ref a33), .val (.ref a46), .unset, .unset, .unset, .unset] [(.int (1 : Int32))]))
        refine own_Goes.st ?_ (fun _ k => XS.pop X110.here hx rfl (hb hby at_96) rfl rfl k)
        obtain ⟨T125, h125, X125, e125, E125, A125, D125, -, st125⟩ := newO X110 hx hZ hown (hw _ (List.mem_of_getElem? (i := 26) rfl)) (hw _ (List.mem_of_getElem? (i := 27) rfl)) (hw _ (List.mem_of_getElem? (i := 28) rfl)) rfl (g := (mkF m 97 #[.val (.long p0), .second, .val (.long p1), .second, .val (.int p2), .val (.long bb), .second, .val (.ref a33), .val (.ref a46), .unset, .unset, .unset, .unset] [])) rfl (hb hby at_97) (by decide) (by decide)
        obtain ⟨a125, g125⟩ : ∃ z, z = T110.heap.size := ⟨_, rfl⟩
        rw [← g125] at A125 D125 st125
        have F126 : Exa Z T110.heap a33 "java/util/ArrayList" := (F119.keep K110)
        have ne127 : a33 ≠ a125 := Nat.ne_of_lt (Nat.lt_of_lt_of_eq F126.lt g125.symm)
        have ne128 : a46 ≠ a125 := Nat.ne_of_lt (Nat.lt_of_lt_of_eq f111.lt g125.symm)
        have ne129 : a94 ≠ a125 := Nat.ne_of_lt (Nat.lt_of_lt_of_eq f118.lt g125.symm)
        have ne130 : b110 ≠ a125 := Nat.ne_of_lt (Nat.lt_of_lt_of_eq f116.lt g125.symm)
        have ge_a125 : n0 ≤ a125 := Nat.le_trans Z123 (Nat.le_of_eq g125.symm)
        refine own_Goes.st ?_ st125
        have Z131 : n0 ≤ h125.size := Nat.le_trans Z123 E125.1
        have O132 := O124.ext E125
        have F133 : Fld Z h125 a125 "com/example/larder/larder/DoubleValue" "bits" "J" (.long (0 : Int64)) := D125 (Or.inr (hw _ (List.mem_of_getElem? (i := 68) rfl))) (ty := .long) (by decide)
        have F134 : Fld Z h125 a125 "com/example/larder/larder/DoubleValue" "annotations" "Ljava/util/List;" .null := D125 (Or.inr (hw _ (List.mem_of_getElem? (i := 70) rfl))) (ty := (.object "java/util/List")) (by decide)
        show own_Goes p.tables e below P (T125.setTop (mkF m 100 #[.val (.long p0), .second, .val (.long p1), .second, .val (.int p2), .val (.long bb), .second, .val (.ref a33), .val (.ref a46), .unset, .unset, .unset, .unset] [(.ref a125)]))
        refine own_Goes.st ?_ (fun _ k => XS.dup X125.here hx rfl (hb hby at_100) rfl rfl k)
        refine own_Goes.st ?_ (fun _ k => XS.lloadN X125.here hx rfl (hb hby at_101) rfl k)
        refine own_Goes.st ?_ (fun _ k => XS.aload X125.here hx rfl (hb hby at_102) rfl rfl k)
        have F135 : Exa Z h125 a33 "java/util/ArrayList" := (F126.ext E125)
        have F136 : Fld Z h125 a33 "java/util/ArrayList" "size" "I" (.int (0 : Int32)) := ((((((f43.ext E46).keep K53 (ninS ne47 nin0)).ext E94).keep K102 (ninS ne96 nin0)).keep K110 (ninS ne47 nin0)).ext E125)
        obtain ⟨_, _, ⟨T137, L137, k137, n137⟩, -, X137, ⟨Lc137, hQ137, l137, y137, z137⟩, st137⟩ := X125.specialBack hx (y := (⟨"com/example/larder/larder/DoubleValue", "<init>", "(JLjava/util/List;)V"⟩ : MethodName)) rfl hown (mvT hZ (hw _ (List.mem_of_getElem? (i := 29) rfl))) (mvT hZ (hw _ (List.mem_of_getElem? (i := 30) rfl))) (mvT hZ (hw _ (List.mem_of_getElem? (i := 31) rfl))) (by decide) (backOf (W := 1) (rm_dv0 l Z a0 hw [] a125 p0 a33 el (.long (0 : Int64)) .null h125 n0 Z131 A125 F133 F134 ge_a125 F135 F136 pr3 O132) hZ (hw _ (List.mem_of_getElem? (i := 31) rfl)) (hw _ (List.mem_of_getElem? (i := 28) rfl)) (by decide) (by decide)) (g := (mkF m 104 #[.val (.long p0), .second, .val (.long p1), .second, .val (.int p2), .val (.long bb), .second, .val (.ref a33), .val (.ref a46), .unset, .unset, .unset, .unset] [(.ref a33), (.long p0), (.ref a125), (.ref a125)])) rfl (by rw [hml]; rfl) (Steps.refl _) (a := a125) (argsL := [(.long p0), (.ref a33)]) (rest := [(.ref a125)]) (lenOf own_pd__28_JLjava_2f_util_2f_List_3b__29_V rfl) rfl (by show 2 * 0 + _ ≤ _; exact Nat.le_of_eq rfl) (hb hby at_104) (fun _ _ => ⟨rfl, e125, (by decide : 5 + 0 ≤ _), (by decide : 20 + 0 ≤ _)⟩)
        dsimp only [Pt.U, Pt.locs, Pt.cells, Pt.slots] at X137 l137 y137 z137 st137 hQ137
        rw [l137, y137, z137] at X137
        obtain ⟨rfl, Nq137, K137, f138, f139⟩ := hQ137
        have N137 := Fr.app N110 Nq137
        refine own_Goes.tr st137 ?_
        have Z140 : n0 ≤ T137.heap.size := Nat.le_trans Z131 K137.1
        have O141 := O132.keep K137 (allS ge_a125 all0)
        show own_Goes p.tables e below P (T137.setTop (mkF m 107 #[.val (.long p0), .second, .val (.long p1), .second, .val (.int p2), .val (.long bb), .second, .val (.ref a33), .val (.ref a46), .unset, .unset, .unset, .unset] [(.ref a125)]))
        refine own_Goes.st ?_ (fun _ k => XS.astore X137.here hx rfl (hb hby at_107) rfl rfl (l' := #[.val (.long p0), .second, .val (.long p1), .second, .val (.int p2), .val (.long bb), .second, .val (.ref a33), .val (.ref a46), .val (.ref a125), .unset, .unset, .unset]) rfl k)
        obtain ⟨T142, h142, X142, e142, E142, A142, D142, -, st142⟩ := newO X137 hx hZ hown (hw _ (List.mem_of_getElem? (i := 26) rfl)) (hw _ (List.mem_of_getElem? (i := 27) rfl)) (hw _ (List.mem_of_getElem? (i := 28) rfl)) rfl (g := (mkF m 109 #[.val (.long p0), .second, .val (.long p1), .second, .val (.int p2), .val (.long bb), .second, .val (.ref a33), .val (.ref a46), .val (.ref a125), .unset, .unset, .unset] [])) rfl (hb hby at_109) (by decide) (by decide)
        obtain ⟨a142, g142⟩ : ∃ z, z = T137.heap.size := ⟨_, rfl⟩
        rw [← g142] at A142 D142 st142
        have F143 : Exa Z T137.heap a33 "java/util/ArrayList" := (F135.keep K137)
        have ne144 : a33 ≠ a142 := Nat.ne_of_lt (Nat.lt_of_lt_of_eq F143.lt g142.symm)
        have F145 : Exa Z T137.heap a46 "java/util/ArrayList" := ((f111.ext E125).keep K137)
        have ne146 : a46 ≠ a142 := Nat.ne_of_lt (Nat.lt_of_lt_of_eq F145.lt g142.symm)
        have F147 : Exa Z T137.heap a94 "com/example/larder/larder/BooleanValue" := ((f118.ext E125).keep K137)
        have ne148 : a94 ≠ a142 := Nat.ne_of_lt (Nat.lt_of_lt_of_eq F147.lt g142.symm)
        have F149 : Arv Z T137.heap b110 k110 (.object "java/lang/Object") (10 : Int32) [(.ref a94), .null, .null, .null, .null, .null, .null, .null, .null, .null] .null := ((f116.ext E125).keep K137 (ninS ne130 nin0))
        have ne150 : b110 ≠ a142 := Nat.ne_of_lt (Nat.lt_of_lt_of_eq F149.lt g142.symm)
        have ne151 : a125 ≠ a142 := Nat.ne_of_lt (Nat.lt_of_lt_of_eq f138.lt g142.symm)
        have ge_a142 : n0 ≤ a142 := Nat.le_trans Z140 (Nat.le_of_eq g142.symm)
        refine own_Goes.st ?_ st142
        have Z152 : n0 ≤ h142.size := Nat.le_trans Z140 E142.1
        have O153 := O141.ext E142
        have F154 : Fld Z h142 a142 "com/example/larder/larder/DoubleValue" "bits" "J" (.long (0 : Int64)) := D142 (Or.inr (hw _ (List.mem_of_getElem? (i := 68) rfl))) (ty := .long) (by decide)
        have F155 : Fld Z h142 a142 "com/example/larder/larder/DoubleValue" "annotations" "Ljava/util/List;" .null := D142 (Or.inr (hw _ (List.mem_of_getElem? (i := 70) rfl))) (ty := (.object "java/util/List")) (by decide)
        show own_Goes p.tables e below P (T142.setTop (mkF m 112 #[.val (.long p0), .second, .val (.long p1), .second, .val (.int p2), .val (.long bb), .second, .val (.ref a33), .val (.ref a46), .val (.ref a125), .unset, .unset, .unset] [(.ref a142)]))
        refine own_Goes.st ?_ (fun _ k => XS.dup X142.here hx rfl (hb hby at_112) rfl rfl k)
        refine own_Goes.st ?_ (fun _ k => XS.lload X142.here hx rfl (hb hby at_113) rfl k)
        refine own_Goes.st ?_ (fun _ k => XS.aload X142.here hx rfl (hb hby at_115) rfl rfl k)
        have F156 : Exa Z h142 a46 "java/util/ArrayList" := (F145.ext E142)
        have F157 : Fld Z h142 a46 "java/util/ArrayList" "elementData" "[Ljava/lang/Object;" (.ref b110) := (((f113.ext E125).keep K137 (ninS ne128 nin0)).ext E142)
        have F158 : Fld Z h142 a46 "java/util/ArrayList" "size" "I" (.int (1 : Int32)) := (((f114.ext E125).keep K137 (ninS ne128 nin0)).ext E142)
        have F159 : Arv Z h142 b110 k110 (.object "java/lang/Object") (10 : Int32) [(.ref a94), .null, .null, .null, .null, .null, .null, .null, .null, .null] .null := (F149.ext E142)
        have F160 : Exa Z h142 b110 "[Ljava/lang/Object;" := (((f117.ext E125).keep K137).ext E142)
        have F161 : Exa Z h142 a94 "com/example/larder/larder/BooleanValue" := (F147.ext E142)
        obtain ⟨_, _, ⟨T162, L162, k162, n162⟩, -, X162, ⟨Lc162, hQ162, l162, y162, z162⟩, st162⟩ := X142.specialBack hx (y := (⟨"com/example/larder/larder/DoubleValue", "<init>", "(JLjava/util/List;)V"⟩ : MethodName)) rfl hown (mvT hZ (hw _ (List.mem_of_getElem? (i := 29) rfl))) (mvT hZ (hw _ (List.mem_of_getElem? (i := 30) rfl))) (mvT hZ (hw _ (List.mem_of_getElem? (i := 31) rfl))) (by decide) (backOf (W := 1) (rm_dv1 l Z a0 hw [] a142 bb a46 b110 k110 a94 mr em (.long (0 : Int64)) .null h142 n0 Z152 A142 F154 F155 ge_a142 F156 F157 F158 F159 F160 F161 pr7 pr6 O153) hZ (hw _ (List.mem_of_getElem? (i := 31) rfl)) (hw _ (List.mem_of_getElem? (i := 28) rfl)) (by decide) (by decide)) (g := (mkF m 117 #[.val (.long p0), .second, .val (.long p1), .second, .val (.int p2), .val (.long bb), .second, .val (.ref a33), .val (.ref a46), .val (.ref a125), .unset, .unset, .unset] [(.ref a46), (.long bb), (.ref a142), (.ref a142)])) rfl (by rw [hml]; rfl) (Steps.refl _) (a := a142) (argsL := [(.long bb), (.ref a46)]) (rest := [(.ref a142)]) (lenOf own_pd__28_JLjava_2f_util_2f_List_3b__29_V rfl) rfl (by show 2 * 0 + _ ≤ _; exact Nat.le_of_eq rfl) (hb hby at_117) (fun _ _ => ⟨rfl, e142, (by decide : 6 + 2 ≤ _), (by decide : 22 + 3 ≤ _)⟩)
        dsimp only [Pt.U, Pt.locs, Pt.cells, Pt.slots] at X162 l162 y162 z162 st162 hQ162
        rw [l162, y162, z162] at X162
        obtain ⟨rfl, Nq162, K162, f163, f164⟩ := hQ162
        have N162 := Fr.app N137 Nq162
        refine own_Goes.tr st162 ?_
        have Z165 : n0 ≤ T162.heap.size := Nat.le_trans Z152 K162.1
        have O166 := O153.keep K162 (allS ge_a142 all0)
        show own_Goes p.tables e below P (T162.setTop (mkF m 120 #[.val (.long p0), .second, .val (.long p1), .second, .val (.int p2), .val (.long bb), .second, .val (.ref a33), .val (.ref a46), .val (.ref a125), .unset, .unset, .unset] [(.ref a142)]))
        refine own_Goes.st ?_ (fun _ k => XS.astore X162.here hx rfl (hb hby at_120) rfl rfl (l' := #[.val (.long p0), .second, .val (.long p1), .second, .val (.int p2), .val (.long bb), .second, .val (.ref a33), .val (.ref a46), .val (.ref a125), .val (.ref a142), .unset, .unset]) rfl k)
        have F167 : Exa Z T162.heap a125 "com/example/larder/larder/DoubleValue" := ((f138.ext E142).keep K162)
        have F168 : Fld Z T162.heap a125 "com/example/larder/larder/DoubleValue" "bits" "J" (.long p0) := ((f139.ext E142).keep K162 (ninS ne151 nin0))
        exact JT _ _ (X162.more (by decide) (by decide)) _ rfl N162 Z165 a33 a46 a125 a142 O166 F167 F168 f163 f164
    · skip
      refine own_Goes.st ?_ (fun _ k => XS.ifNo X53.here hx rfl (hb hby at_57) rfl ((if0 _ _).trans (feq hm1).1) k)
      refine own_Goes.st ?_ (fun _ k => XS.aload X53.here hx rfl (hb hby at_60) rfl rfl k)
      obtain ⟨T169, h169, X169, e169, E169, A169, D169, -, st169⟩ := newO X53 hx hZ hown (hw _ (List.mem_of_getElem? (i := 78) rfl)) (hw _ (List.mem_of_getElem? (i := 79) rfl)) (hw _ (List.mem_of_getElem? (i := 80) rfl)) rfl (g := (mkF m 62 #[.val (.long p0), .second, .val (.long p1), .second, .val (.int p2), .val (.long bb), .second, .val (.ref a33), .val (.ref a46), .unset, .unset, .unset, .unset] [(.ref a33)])) rfl (hb hby at_62) (by decide) (by decide)
      obtain ⟨a169, g169⟩ : ∃ z, z = T53.heap.size := ⟨_, rfl⟩
      rw [← g169] at A169 D169 st169
      have F170 : Exa Z T53.heap a33 "java/util/ArrayList" := ((f40.ext E46).keep K53)
      have ne171 : a33 ≠ a169 := Nat.ne_of_lt (Nat.lt_of_lt_of_eq F170.lt g169.symm)
      have ne172 : a46 ≠ a169 := Nat.ne_of_lt (Nat.lt_of_lt_of_eq f54.lt g169.symm)
      have ge_a169 : n0 ≤ a169 := Nat.le_trans Z58 (Nat.le_of_eq g169.symm)
      refine own_Goes.st ?_ st169
      have Z173 : n0 ≤ h169.size := Nat.le_trans Z58 E169.1
      have O174 := O59.ext E169
      have F175 : Fld Z h169 a169 "com/example/larder/larder/BooleanValue" "value" "Z" (.int (0 : Int32)) := D169 (Or.inr (hw _ (List.mem_of_getElem? (i := 99) rfl))) (ty := .boolean) (by decide)
      have F176 : Fld Z h169 a169 "com/example/larder/larder/BooleanValue" "annotations" "Ljava/util/List;" .null := D169 (Or.inr (hw _ (List.mem_of_getElem? (i := 101) rfl))) (ty := (.object "java/util/List")) (by decide)
      show own_Goes p.tables e below P (T169.setTop (mkF m 65 #[.val (.long p0), .second, .val (.long p1), .second, .val (.int p2), .val (.long bb), .second, .val (.ref a33), .val (.ref a46), .unset, .unset, .unset, .unset] [(.ref a169), (.ref a33)]))
      refine own_Goes.st ?_ (fun _ k => XS.dup X169.here hx rfl (hb hby at_65) rfl rfl k)
      refine own_Goes.st ?_ (fun _ k => XS.iconst X169.here hx rfl (hb hby at_66) k)
      obtain ⟨_, _, ⟨T177, L177, k177, n177⟩, -, X177, ⟨Lc177, hQ177, l177, y177, z177⟩, st177⟩ := X169.specialBack hx (y := (⟨"com/example/larder/larder/BooleanValue", "<init>", "(Z)V"⟩ : MethodName)) rfl hown (mvT hZ (hw _ (List.mem_of_getElem? (i := 81) rfl))) (mvT hZ (hw _ (List.mem_of_getElem? (i := 82) rfl))) (mvT hZ (hw _ (List.mem_of_getElem? (i := 83) rfl))) (by decide) (backOf (W := 2) (rm_bvn1 l Z a0 hw [] a169 el (.int (0 : Int32)) .null h169 n0 Z173 A169 F175 F176 ge_a169 pr3 O174 pr4 pr5) hZ (hw _ (List.mem_of_getElem? (i := 83) rfl)) (hw _ (List.mem_of_getElem? (i := 80) rfl)) (by decide) (by decide)) (g := (mkF m 67 #[.val (.long p0), .second, .val (.long p1), .second, .val (.int p2), .val (.long bb), .second, .val (.ref a33), .val (.ref a46), .unset, .unset, .unset, .unset] [(.int (1 : Int32)), (.ref a169), (.ref a169), (.ref a33)])) rfl (by rw [hml]; rfl) (Steps.refl _) (a := a169) (argsL := [(.int (1 : Int32))]) (rest := [(.ref a169), (.ref a33)]) (lenOf own_pd__28_Z_29_V rfl) rfl (by show 2 * 0 + _ ≤ _; exact Nat.le_of_eq rfl) (hb hby at_67) (fun _ _ => ⟨rfl, e169, (by decide : 3 + 0 ≤ _), (by decide : 8 + 0 ≤ _)⟩)
      dsimp only [Pt.U, Pt.locs, Pt.cells, Pt.slots] at X177 l177 y177 z177 st177 hQ177
      rw [l177, y177, z177] at X177
      obtain ⟨rfl, Nq177, K177, f178⟩ := hQ177
      have N177 := Fr.app N53 Nq177
      refine own_Goes.tr st177 ?_
      have Z179 : n0 ≤ T177.heap.size := Nat.le_trans Z173 K177.1
      have O180 := O174.keep K177 (allS ge_a169 all0)
      show own_Goes p.tables e below P (T177.setTop (mkF m 70 #[.val (.long p0), .second, .val (.long p1), .second, .val (.int p2), .val (.long bb), .second, .val (.ref a33), .val (.ref a46), .unset, .unset, .unset, .unset] [(.ref a169), (.ref a33)]))
      have F181 : Exa Z T177.heap a33 "java/util/ArrayList" := ((F170.ext E169).keep K177)
      have F182 : Fld Z T177.heap a33 "java/util/AbstractList" "modCount" "I" (.int (0 : Int32)) := ((((f41.ext E46).keep K53 (ninS ne47 nin0)).ext E169).keep K177 (ninS ne171 nin0))
      have F183 : Fld Z T177.heap a33 "java/util/ArrayList" "elementData" "[Ljava/lang/Object;" (.ref de) := ((((f42.ext E46).keep K53 (ninS ne47 nin0)).ext E169).keep K177 (ninS ne171 nin0))
      have F184 : Fld Z T177.heap a33 "java/util/ArrayList" "size" "I" (.int (0 : Int32)) := ((((f43.ext E46).keep K53 (ninS ne47 nin0)).ext E169).keep K177 (ninS ne171 nin0))
      obtain ⟨cq185, kq185, q185a, q185b, q185c⟩ := isOf hZ rfl F181
      obtain ⟨_, _, ⟨T185, L185, k185, n185⟩, -, X185, ⟨Lc185, hQ185, l185, y185, z185⟩, st185⟩ := X177.virtualBack hx (y := (⟨"java/util/ArrayList", "add", "(Ljava/lang/Object;)Z"⟩ : MethodName)) (z := (⟨"java/util/ArrayList", "add", "(Ljava/lang/Object;)Z"⟩ : MethodName)) hown (mvT hZ (hw _ (List.mem_of_getElem? (i := 102) rfl))) (mvT hZ (hw _ (List.mem_of_getElem? (i := 103) rfl))) (notFace_of_selects (args := #[]) (mvT hZ (hw _ (List.mem_of_getElem? (i := 105) rfl)))) (mvT hZ (hw _ (List.mem_of_getElem? (i := 105) rfl))) (mvT hZ (hw _ (List.mem_of_getElem? (i := 104) rfl))) (by decide) (backOf (W := 0) (rm_add l Z a0 hw [] a33 de kd a169 T177.heap n0 Z179 F181 F182 F183 F184 ge_a33 pr0 O180 pr2 f178) hZ (hw _ (List.mem_of_getElem? (i := 106) rfl)) (hw _ (List.mem_of_getElem? (i := 2) rfl)) (by decide) (by decide)) q185a q185c (g := (mkF m 70 #[.val (.long p0), .second, .val (.long p1), .second, .val (.int p2), .val (.long bb), .second, .val (.ref a33), .val (.ref a46), .unset, .unset, .unset, .unset] [(.ref a169), (.ref a33)])) rfl (by rw [hml]; rfl) (Steps.refl _) (argsL := [(.ref a169)]) (rest := []) (lenOf own_pd__28_Ljava_2f_lang_2f_Object_3b__29_Z rfl) rfl (by show 2 * 0 + _ ≤ _; exact Nat.le_of_eq rfl) (hb hby at_70) (fun _ _ => ⟨rfl, rfl, (by decide : 3 + 1 ≤ _), (by decide : 8 + 10 ≤ _)⟩)
      dsimp only [Pt.U, Pt.locs, Pt.cells, Pt.slots] at X185 l185 y185 z185 st185 hQ185
      rw [l185, y185, z185] at X185
      obtain ⟨b185, k185, rfl, Nq185, K185, f186, f187, f188, f189, f190, f191, f192, f193⟩ := hQ185
      have N185 := Fr.app N177 Nq185
      refine own_Goes.tr st185 ?_
      have ne194 : a33 ≠ b185 := Nat.ne_of_lt (Nat.lt_of_lt_of_le F181.lt f190)
      have F195 : Exa Z T177.heap a46 "java/util/ArrayList" := ((f54.ext E169).keep K177)
      have ne196 : a46 ≠ b185 := Nat.ne_of_lt (Nat.lt_of_lt_of_le F195.lt f190)
      have ne197 : a169 ≠ b185 := Nat.ne_of_lt (Nat.lt_of_lt_of_le f178.lt f190)
      have ge_b185 : n0 ≤ b185 := Nat.le_trans Z179 f190
      have Z198 : n0 ≤ T185.heap.size := Nat.le_trans Z179 K185.1
      have O199 := O180.keep K185 (allS ge_a33 all0)
      show own_Goes p.tables e below P (T185.setTop (mkF m 73 #[.val (.long p0), .second, .val (.long p1), .second, .val (.int p2), .val (.long bb), .second, .val (.ref a33), .val (.ref a46), .unset, .unset, .unset, .unset] [(.int (1 : Int32))]))
      refine own_Goes.st ?_ (fun _ k => XS.pop X185.here hx rfl (hb hby at_73) rfl rfl k)
      refine own_Goes.st ?_ (fun _ k => XS.iload X185.here hx rfl (hb hby at_74) rfl k)
      refine own_Goes.st ?_ (fun _ k => XS.sipush X185.here hx rfl (hb hby at_76) k)
      refine own_Goes.st ?_ (fun _ k => XS.iand X185.here hx rfl (hb hby at_79) rfl k)
      show own_Goes p.tables e below P (T185.setTop (mkF m 80 #[.val (.long p0), .second, .val (.long p1), .second, .val (.int p2), .val (.long bb), .second, .val (.ref a33), .val (.ref a46), .unset, .unset, .unset, .unset] [(.int (p2 &&& (512 : Int32)))]))
      by_cases hm2 : (p2 &&& (512 : Int32)) = (0 : Int32)
      · skip
        refine own_Goes.st ?_ (fun _ k => XS.ifYes X185.here hx rfl (pc0 := 80) (pc' := 97) rfl (hb hby at_80) rfl ((if0 _ _).trans (teq hm2).1) (by decide) (by decide) k)
        obtain ⟨T200, h200, X200, e200, E200, A200, D200, -, st200⟩ := newO X185 hx hZ hown (hw _ (List.mem_of_getElem? (i := 26) rfl)) (hw _ (List.mem_of_getElem? (i := 27) rfl)) (hw _ (List.mem_of_getElem? (i := 28) rfl)) rfl (g := (mkF m 97 #[.val (.long p0), .second, .val (.long p1), .second, .val (.int p2), .val (.long bb), .second, .val (.ref a33), .val (.ref a46), .unset, .unset, .unset, .unset] [])) rfl (hb hby at_97) (by decide) (by decide)
        obtain ⟨a200, g200⟩ : ∃ z, z = T185.heap.size := ⟨_, rfl⟩
        rw [← g200] at A200 D200 st200
        have ne201 : a33 ≠ a200 := Nat.ne_of_lt (Nat.lt_of_lt_of_eq f186.lt g200.symm)
        have F202 : Exa Z T185.heap a46 "java/util/ArrayList" := (F195.keep K185)
        have ne203 : a46 ≠ a200 := Nat.ne_of_lt (Nat.lt_of_lt_of_eq F202.lt g200.symm)
        have ne204 : a169 ≠ a200 := Nat.ne_of_lt (Nat.lt_of_lt_of_eq f193.lt g200.symm)
        have ne205 : b185 ≠ a200 := Nat.ne_of_lt (Nat.lt_of_lt_of_eq f191.lt g200.symm)
        have ge_a200 : n0 ≤ a200 := Nat.le_trans Z198 (Nat.le_of_eq g200.symm)
        refine own_Goes.st ?_ st200
        have Z206 : n0 ≤ h200.size := Nat.le_trans Z198 E200.1
        have O207 := O199.ext E200
        have F208 : Fld Z h200 a200 "com/example/larder/larder/DoubleValue" "bits" "J" (.long (0 : Int64)) := D200 (Or.inr (hw _ (List.mem_of_getElem? (i := 68) rfl))) (ty := .long) (by decide)
        have F209 : Fld Z h200 a200 "com/example/larder/larder/DoubleValue" "annotations" "Ljava/util/List;" .null := D200 (Or.inr (hw _ (List.mem_of_getElem? (i := 70) rfl))) (ty := (.object "java/util/List")) (by decide)
        show own_Goes p.tables e below P (T200.setTop (mkF m 100 #[.val (.long p0), .second, .val (.long p1), .second, .val (.int p2), .val (.long bb), .second, .val (.ref a33), .val (.ref a46), .unset, .unset, .unset, .unset] [(.ref a200)]))
        refine own_Goes.st ?_ (fun _ k => XS.dup X200.here hx rfl (hb hby at_100) rfl rfl k)
        refine own_Goes.st ?_ (fun _ k => XS.lloadN X200.here hx rfl (hb hby at_101) rfl k)
        refine own_Goes.st ?_ (fun _ k => XS.aload X200.here hx rfl (hb hby at_102) rfl rfl k)
        have F210 : Exa Z h200 a33 "java/util/ArrayList" := (f186.ext E200)
        have F211 : Fld Z h200 a33 "java/util/ArrayList" "elementData" "[Ljava/lang/Object;" (.ref b185) := (f188.ext E200)
        have F212 : Fld Z h200 a33 "java/util/ArrayList" "size" "I" (.int (1 : Int32)) := (f189.ext E200)
        have F213 : Arv Z h200 b185 k185 (.object "java/lang/Object") (10 : Int32) [(.ref a169), .null, .null, .null, .null, .null, .null, .null, .null, .null] .null := (f191.ext E200)
        have F214 : Exa Z h200 b185 "[Ljava/lang/Object;" := (f192.ext E200)
        have F215 : Exa Z h200 a169 "com/example/larder/larder/BooleanValue" := (f193.ext E200)
        obtain ⟨_, _, ⟨T216, L216, k216, n216⟩, -, X216, ⟨Lc216, hQ216, l216, y216, z216⟩, st216⟩ := X200.specialBack hx (y := (⟨"com/example/larder/larder/DoubleValue", "<init>", "(JLjava/util/List;)V"⟩ : MethodName)) rfl hown (mvT hZ (hw _ (List.mem_of_getElem? (i := 29) rfl))) (mvT hZ (hw _ (List.mem_of_getElem? (i := 30) rfl))) (mvT hZ (hw _ (List.mem_of_getElem? (i := 31) rfl))) (by decide) (backOf (W := 1) (rm_dv1 l Z a0 hw [] a200 p0 a33 b185 k185 a169 mr em (.long (0 : Int64)) .null h200 n0 Z206 A200 F208 F209 ge_a200 F210 F211 F212 F213 F214 F215 pr7 pr6 O207) hZ (hw _ (List.mem_of_getElem? (i := 31) rfl)) (hw _ (List.mem_of_getElem? (i := 28) rfl)) (by decide) (by decide)) (g := (mkF m 104 #[.val (.long p0), .second, .val (.long p1), .second, .val (.int p2), .val (.long bb), .second, .val (.ref a33), .val (.ref a46), .unset, .unset, .unset, .unset] [(.ref a33), (.long p0), (.ref a200), (.ref a200)])) rfl (by rw [hml]; rfl) (Steps.refl _) (a := a200) (argsL := [(.long p0), (.ref a33)]) (rest := [(.ref a200)]) (lenOf own_pd__28_JLjava_2f_util_2f_List_3b__29_V rfl) rfl (by show 2 * 0 + _ ≤ _; exact Nat.le_of_eq rfl) (hb hby at_104) (fun _ _ => ⟨rfl, e200, (by decide : 5 + 2 ≤ _), (by decide : 20 + 3 ≤ _)⟩)
        dsimp only [Pt.U, Pt.locs, Pt.cells, Pt.slots] at X216 l216 y216 z216 st216 hQ216
        rw [l216, y216, z216] at X216
        obtain ⟨rfl, Nq216, K216, f217, f218⟩ := hQ216
        have N216 := Fr.app N185 Nq216
        refine own_Goes.tr st216 ?_
        have Z219 : n0 ≤ T216.heap.size := Nat.le_trans Z206 K216.1
        have O220 := O207.keep K216 (allS ge_a200 all0)
        show own_Goes p.tables e below P (T216.setTop (mkF m 107 #[.val (.long p0), .second, .val (.long p1), .second, .val (.int p2), .val (.long bb), .second, .val (.ref a33), .val (.ref a46), .unset, .unset, .unset, .unset] [(.ref a200)]))
        refine own_Goes.st ?_ (fun _ k => XS.astore X216.here hx rfl (hb hby at_107) rfl rfl (l' := #[.val (.long p0), .second, .val (.long p1), .second, .val (.int p2), .val (.long bb), .second, .val (.ref a33), .val (.ref a46), .val (.ref a200), .unset, .unset, .unset]) rfl k)
        obtain ⟨T221, h221, X221, e221, E221, A221, D221, -, st221⟩ := newO X216 hx hZ hown (hw _ (List.mem_of_getElem? (i := 26) rfl)) (hw _ (List.mem_of_getElem? (i := 27) rfl)) (hw _ (List.mem_of_getElem? (i := 28) rfl)) rfl (g := (mkF m 109 #[.val (.long p0), .second, .val (.long p1), .second, .val (.int p2), .val (.long bb), .second, .val (.ref a33), .val (.ref a46), .val (.ref a200), .unset, .unset, .unset] [])) rfl (hb hby at_109) (by decide) (by decide)
        obtain ⟨a221, g221⟩ : ∃ z, z = T216.heap.size := ⟨_, rfl⟩
        rw [← g221] at A221 D221 st221
        have F222 : Exa Z T216.heap a33 "java/util/ArrayList" := (F210.keep K216)
        have ne223 : a33 ≠ a221 := Nat.ne_of_lt (Nat.lt_of_lt_of_eq F222.lt g221.symm)
        have F224 : Exa Z T216.heap a46 "java/util/ArrayList" := ((F202.ext E200).keep K216)
        have ne225 : a46 ≠ a221 := Nat.ne_of_lt (Nat.lt_of_lt_of_eq F224.lt g221.symm)
        have F226 : Exa Z T216.heap a169 "com/example/larder/larder/BooleanValue" := (F215.keep K216)
        have ne227 : a169 ≠ a221 := Nat.ne_of_lt (Nat.lt_of_lt_of_eq F226.lt g221.symm)
        have F228 : Arv Z T216.heap b185 k185 (.object "java/lang/Object") (10 : Int32) [(.ref a169), .null, .null, .null, .null, .null, .null, .null, .null, .null] .null := (F213.keep K216 (ninS ne205 nin0))
        have ne229 : b185 ≠ a221 := Nat.ne_of_lt (Nat.lt_of_lt_of_eq F228.lt g221.symm)
        have ne230 : a200 ≠ a221 := Nat.ne_of_lt (Nat.lt_of_lt_of_eq f217.lt g221.symm)
        have ge_a221 : n0 ≤ a221 := Nat.le_trans Z219 (Nat.le_of_eq g221.symm)
        refine own_Goes.st ?_ st221
        have Z231 : n0 ≤ h221.size := Nat.le_trans Z219 E221.1
        have O232 := O220.ext E221
        have F233 : Fld Z h221 a221 "com/example/larder/larder/DoubleValue" "bits" "J" (.long (0 : Int64)) := D221 (Or.inr (hw _ (List.mem_of_getElem? (i := 68) rfl))) (ty := .long) (by decide)
        have F234 : Fld Z h221 a221 "com/example/larder/larder/DoubleValue" "annotations" "Ljava/util/List;" .null := D221 (Or.inr (hw _ (List.mem_of_getElem? (i := 70) rfl))) (ty := (.object "java/util/List")) (by decide)
        show own_Goes p.tables e below P (T221.setTop (mkF m 112 #[.val (.long p0), .second, .val (.long p1), .second, .val (.int p2), .val (.long bb), .second, .val (.ref a33), .val (.ref a46), .val (.ref a200), .unset, .unset, .unset] [(.ref a221)]))
        refine own_Goes.st ?_ (fun _ k => XS.dup X221.here hx rfl (hb hby at_112) rfl rfl k)
        refine own_Goes.st ?_ (fun _ k => XS.lload X221.here hx rfl (hb hby at_113) rfl k)
        refine own_Goes.st ?_ (fun _ k => XS.aload X221.here hx rfl (hb hby at_115) rfl rfl k)
        have F235 : Exa Z h221 a46 "java/util/ArrayList" := (F224.ext E221)
        have F236 : Fld Z h221 a46 "java/util/ArrayList" "size" "I" (.int (0 : Int32)) := ((((((f57.ext E169).keep K177 (ninS ne172 nin0)).keep K185 (ninS (Ne.symm ne47) nin0)).ext E200).keep K216 (ninS ne203 nin0)).ext E221)
        obtain ⟨_, _, ⟨T237, L237, k237, n237⟩, -, X237, ⟨Lc237, hQ237, l237, y237, z237⟩, st237⟩ := X221.specialBack hx (y := (⟨"com/example/larder/larder/DoubleValue", "<init>", "(JLjava/util/List;)V"⟩ : MethodName)) rfl hown (mvT hZ (hw _ (List.mem_of_getElem? (i := 29) rfl))) (mvT hZ (hw _ (List.mem_of_getElem? (i := 30) rfl))) (mvT hZ (hw _ (List.mem_of_getElem? (i := 31) rfl))) (by decide) (backOf (W := 1) (rm_dv0 l Z a0 hw [] a221 bb a46 el (.long (0 : Int64)) .null h221 n0 Z231 A221 F233 F234 ge_a221 F235 F236 pr3 O232) hZ (hw _ (List.mem_of_getElem? (i := 31) rfl)) (hw _ (List.mem_of_getElem? (i := 28) rfl)) (by decide) (by decide)) (g := (mkF m 117 #[.val (.long p0), .second, .val (.long p1), .second, .val (.int p2), .val (.long bb), .second, .val (.ref a33), .val (.ref a46), .val (.ref a200), .unset, .unset, .unset] [(.ref a46), (.long bb), (.ref a221), (.ref a221)])) rfl (by rw [hml]; rfl) (Steps.refl _) (a := a221) (argsL := [(.long bb), (.ref a46)]) (rest := [(.ref a221)]) (lenOf own_pd__28_JLjava_2f_util_2f_List_3b__29_V rfl) rfl (by show 2 * 0 + _ ≤ _; exact Nat.le_of_eq rfl) (hb hby at_117) (fun _ _ => ⟨rfl, e221, (by decide : 8 + 0 ≤ _), (by decide : 25 + 0 ≤ _)⟩)
        dsimp only [Pt.U, Pt.locs, Pt.cells, Pt.slots] at X237 l237 y237 z237 st237 hQ237
        rw [l237, y237, z237] at X237
        obtain ⟨rfl, Nq237, K237, f238, f239⟩ := hQ237
        have N237 := Fr.app N216 Nq237
        refine own_Goes.tr st237 ?_
        have Z240 : n0 ≤ T237.heap.size := Nat.le_trans Z231 K237.1
        have O241 := O232.keep K237 (allS ge_a221 all0)
        show own_Goes p.tables e below P (T237.setTop (mkF m 120 #[.val (.long p0), .second, .val (.long p1), .second, .val (.int p2), .val (.long bb), .second, .val (.ref a33), .val (.ref a46), .val (.ref a200), .unset, .unset, .unset] [(.ref a221)]))
        refine own_Goes.st ?_ (fun _ k => XS.astore X237.here hx rfl (hb hby at_120) rfl rfl (l' := #[.val (.long p0), .second, .val (.long p1), .second, .val (.int p2), .val (.long bb), .second, .val (.ref a33), .val (.ref a46), .val (.ref a200), .val (.ref a221), .unset, .unset]) rfl k)
        have F242 : Exa Z T237.heap a200 "com/example/larder/larder/DoubleValue" := ((f217.ext E221).keep K237)
        have F243 : Fld Z T237.heap a200 "com/example/larder/larder/DoubleValue" "bits" "J" (.long p0) := ((f218.ext E221).keep K237 (ninS ne230 nin0))
        exact JT _ _ (X237.more (by decide) (by decide)) _ rfl N237 Z240 a33 a46 a200 a221 O241 F242 F243 f238 f239
      · skip
        refine own_Goes.st ?_ (fun _ k => XS.ifNo X185.here hx rfl (hb hby at_80) rfl ((if0 _ _).trans (feq hm2).1) k)
        refine own_Goes.st ?_ (fun _ k => XS.aload X185.here hx rfl (hb hby at_83) rfl rfl k)
        obtain ⟨T244, h244, X244, e244, E244, A244, D244, -, st244⟩ := newO X185 hx hZ hown (hw _ (List.mem_of_getElem? (i := 78) rfl)) (hw _ (List.mem_of_getElem? (i := 79) rfl)) (hw _ (List.mem_of_getElem? (i := 80) rfl)) rfl (g := (mkF m 85 #[.val (.long p0), .second, .val (.long p1), .second, .val (.int p2), .val (.long bb), .second, .val (.ref a33), .val (.ref a46), .unset, .unset, .unset, .unset] [(.ref a46)])) rfl (hb hby at_85) (by decide) (by decide)
        obtain ⟨a244, g244⟩ : ∃ z, z = T185.heap.size := ⟨_, rfl⟩
        rw [← g244] at A244 D244 st244
        have ne245 : a33 ≠ a244 := Nat.ne_of_lt (Nat.lt_of_lt_of_eq f186.lt g244.symm)
        have F246 : Exa Z T185.heap a46 "java/util/ArrayList" := (F195.keep K185)
        have ne247 : a46 ≠ a244 := Nat.ne_of_lt (Nat.lt_of_lt_of_eq F246.lt g244.symm)
        have ne248 : a169 ≠ a244 := Nat.ne_of_lt (Nat.lt_of_lt_of_eq f193.lt g244.symm)
        have ne249 : b185 ≠ a244 := Nat.ne_of_lt (Nat.lt_of_lt_of_eq f191.lt g244.symm)
        have ge_a244 : n0 ≤ a244 := Nat.le_trans Z198 (Nat.le_of_eq g244.symm)
        refine own_Goes.st ?_ st244
        have Z250 : n0 ≤ h244.size := Nat.le_trans Z198 E244.1
        have O251 := O199.ext E244
        have F252 : Fld Z h244 a244 "com/example/larder/larder/BooleanValue" "value" "Z" (.int (0 : Int32)) := D244 (Or.inr (hw _ (List.mem_of_getElem? (i := 99) rfl))) (ty := .boolean) (by decide)
        have F253 : Fld Z h244 a244 "com/example/larder/larder/BooleanValue" "annotations" "Ljava/util/List;" .null := D244 (Or.inr (hw _ (List.mem_of_getElem? (i := 101) rfl))) (ty := (.object "java/util/List")) (by decide)
        show own_Goes p.tables e below P (T244.setTop (mkF m 88 #[.val (.long p0), .second, .val (.long p1), .second, .val (.int p2), .val (.long bb), .second, .val (.ref a33), .val (.ref a46), .unset, .unset, .unset, .unset] [(.ref a244), (.ref a46)]))
        refine own_Goes.st ?_ (fun _ k => XS.dup X244.here hx rfl (hb hby at_88) rfl rfl k)
        refine own_Goes.st ?_ (fun _ k => XS.iconst X244.here hx rfl (hb hby at_89) k)
        obtain ⟨_, _, ⟨T254, L254, k254, n254⟩, -, X254, ⟨Lc254, hQ254, l254, y254, z254⟩, st254⟩ := X244.specialBack hx (y := (⟨"com/example/larder/larder/BooleanValue", "<init>", "(Z)V"⟩ : MethodName)) rfl hown (mvT hZ (hw _ (List.mem_of_getElem? (i := 81) rfl))) (mvT hZ (hw _ (List.mem_of_getElem? (i := 82) rfl))) (mvT hZ (hw _ (List.mem_of_getElem? (i := 83) rfl))) (by decide) (backOf (W := 2) (rm_bvn0 l Z a0 hw [] a244 el (.int (0 : Int32)) .null h244 n0 Z250 A244 F252 F253 ge_a244 pr3 O251 pr4 pr5) hZ (hw _ (List.mem_of_getElem? (i := 83) rfl)) (hw _ (List.mem_of_getElem? (i := 80) rfl)) (by decide) (by decide)) (g := (mkF m 90 #[.val (.long p0), .second, .val (.long p1), .second, .val (.int p2), .val (.long bb), .second, .val (.ref a33), .val (.ref a46), .unset, .unset, .unset, .unset] [(.int (0 : Int32)), (.ref a244), (.ref a244), (.ref a46)])) rfl (by rw [hml]; rfl) (Steps.refl _) (a := a244) (argsL := [(.int (0 : Int32))]) (rest := [(.ref a244), (.ref a46)]) (lenOf own_pd__28_Z_29_V rfl) rfl (by show 2 * 0 + _ ≤ _; exact Nat.le_of_eq rfl) (hb hby at_90) (fun _ _ => ⟨rfl, e244, (by decide : 5 + 0 ≤ _), (by decide : 20 + 0 ≤ _)⟩)
        dsimp only [Pt.U, Pt.locs, Pt.cells, Pt.slots] at X254 l254 y254 z254 st254 hQ254
        rw [l254, y254, z254] at X254
        obtain ⟨rfl, Nq254, K254, f255⟩ := hQ254
        have N254 := Fr.app N185 Nq254
        refine own_Goes.tr st254 ?_
        have Z256 : n0 ≤ T254.heap.size := Nat.le_trans Z250 K254.1
        have O257 := O251.keep K254 (allS ge_a244 all0)
        show own_Goes p.tables e below P (T254.setTop (mkF m 93 #[.val (.long p0), .second, .val (.long p1), .second, .val (.int p2), .val (.long bb), .second, .val (.ref a33), .val (.ref a46), .unset, .unset, .unset, .unset] [(.ref a244), (.ref a46)]))
        have F258 : Exa Z T254.heap a46 "java/util/ArrayList" := ((F246.ext E244).keep K254)
        have F259 : Fld Z T254.heap a46 "java/util/AbstractList" "modCount" "I" (.int (0 : Int32)) := (((((f55.ext E169).keep K177 (ninS ne172 nin0)).keep K185 (ninS (Ne.symm ne47) nin0)).ext E244).keep K254 (ninS ne247 nin0))
        have F260 : Fld Z T254.heap a46 "java/util/ArrayList" "elementData" "[Ljava/lang/Object;" (.ref de) := (((((f56.ext E169).keep K177 (ninS ne172 nin0)).keep K185 (ninS (Ne.symm ne47) nin0)).ext E244).keep K254 (ninS ne247 nin0))
        have F261 : Fld Z T254.heap a46 "java/util/ArrayList" "size" "I" (.int (0 : Int32)) := (((((f57.ext E169).keep K177 (ninS ne172 nin0)).keep K185 (ninS (Ne.symm ne47) nin0)).ext E244).keep K254 (ninS ne247 nin0))
        obtain ⟨cq262, kq262, q262a, q262b, q262c⟩ := isOf hZ rfl F258
        obtain ⟨_, _, ⟨T262, L262, k262, n262⟩, -, X262, ⟨Lc262, hQ262, l262, y262, z262⟩, st262⟩ := X254.virtualBack hx (y := (⟨"java/util/ArrayList", "add", "(Ljava/lang/Object;)Z"⟩ : MethodName)) (z := (⟨"java/util/ArrayList", "add", "(Ljava/lang/Object;)Z"⟩ : MethodName)) hown (mvT hZ (hw _ (List.mem_of_getElem? (i := 102) rfl))) (mvT hZ (hw _ (List.mem_of_getElem? (i := 103) rfl))) (notFace_of_selects (args := #[]) (mvT hZ (hw _ (List.mem_of_getElem? (i := 105) rfl)))) (mvT hZ (hw _ (List.mem_of_getElem? (i := 105) rfl))) (mvT hZ (hw _ (List.mem_of_getElem? (i := 104) rfl))) (by decide) (backOf (W := 0) (rm_add l Z a0 hw [] a46 de kd a244 T254.heap n0 Z256 F258 F259 F260 F261 ge_a46 pr0 O257 pr2 f255) hZ (hw _ (List.mem_of_getElem? (i := 106) rfl)) (hw _ (List.mem_of_getElem? (i := 2) rfl)) (by decide) (by decide)) q262a q262c (g := (mkF m 93 #[.val (.long p0), .second, .val (.long p1), .second, .val (.int p2), .val (.long bb), .second, .val (.ref a33), .val (.ref a46), .unset, .unset, .unset, .unset] [(.ref a244), (.ref a46)])) rfl (by rw [hml]; rfl) (Steps.refl _) (argsL := [(.ref a244)]) (rest := []) (lenOf own_pd__28_Ljava_2f_lang_2f_Object_3b__29_Z rfl) rfl (by show 2 * 0 + _ ≤ _; exact Nat.le_of_eq rfl) (hb hby at_93) (fun _ _ => ⟨rfl, rfl, (by decide : 5 + 1 ≤ _), (by decide : 20 + 10 ≤ _)⟩)
        dsimp only [Pt.U, Pt.locs, Pt.cells, Pt.slots] at X262 l262 y262 z262 st262 hQ262
        rw [l262, y262, z262] at X262
        obtain ⟨b262, k262, rfl, Nq262, K262, f263, f264, f265, f266, f267, f268, f269, f270⟩ := hQ262
        have N262 := Fr.app N254 Nq262
        refine own_Goes.tr st262 ?_
        have F271 : Exa Z T254.heap a33 "java/util/ArrayList" := ((f186.ext E244).keep K254)
        have ne272 : a33 ≠ b262 := Nat.ne_of_lt (Nat.lt_of_lt_of_le F271.lt f267)
        have ne273 : a46 ≠ b262 := Nat.ne_of_lt (Nat.lt_of_lt_of_le F258.lt f267)
        have F274 : Exa Z T254.heap a169 "com/example/larder/larder/BooleanValue" := ((f193.ext E244).keep K254)
        have ne275 : a169 ≠ b262 := Nat.ne_of_lt (Nat.lt_of_lt_of_le F274.lt f267)
        have F276 : Arv Z T254.heap b185 k185 (.object "java/lang/Object") (10 : Int32) [(.ref a169), .null, .null, .null, .null, .null, .null, .null, .null, .null] .null := ((f191.ext E244).keep K254 (ninS ne249 nin0))
        have ne277 : b185 ≠ b262 := Nat.ne_of_lt (Nat.lt_of_lt_of_le F276.lt f267)
        have ne278 : a244 ≠ b262 := Nat.ne_of_lt (Nat.lt_of_lt_of_le f255.lt f267)
        have ge_b262 : n0 ≤ b262 := Nat.le_trans Z256 f267
        have Z279 : n0 ≤ T262.heap.size := Nat.le_trans Z256 K262.1
        have O280 := O257.keep K262 (allS ge_a46 all0)
        show own_Goes p.tables e below P (T262.setTop (mkF m 96 #[.val (.long p0), .second, .val (.long p1), .second, .val (.int p2), .val (.long bb), .second, .val (.ref a33), .val (.ref a46), .unset, .unset, .unset, .unset] [(.int (1 : Int32))]))
        refine own_Goes.st ?_ (fun _ k => XS.pop X262.here hx rfl (hb hby at_96) rfl rfl k)
        obtain ⟨T281, h281, X281, e281, E281, A281, D281, -, st281⟩ := newO X262 hx hZ hown (hw _ (List.mem_of_getElem? (i := 26) rfl)) (hw _ (List.mem_of_getElem? (i := 27) rfl)) (hw _ (List.mem_of_getElem? (i := 28) rfl)) rfl (g := (mkF m 97 #[.val (.long p0), .second, .val (.long p1), .second, .val (.int p2), .val (.long bb), .second, .val (.ref a33), .val (.ref a46), .unset, .unset, .unset, .unset] [])) rfl (hb hby at_97) (by decide) (by decide)
        obtain ⟨a281, g281⟩ : ∃ z, z = T262.heap.size := ⟨_, rfl⟩
        rw [← g281] at A281 D281 st281
        have F282 : Exa Z T262.heap a33 "java/util/ArrayList" := (F271.keep K262)
        have ne283 : a33 ≠ a281 := Nat.ne_of_lt (Nat.lt_of_lt_of_eq F282.lt g281.symm)
        have ne284 : a46 ≠ a281 := Nat.ne_of_lt (Nat.lt_of_lt_of_eq f263.lt g281.symm)
        have F285 : Exa Z T262.heap a169 "com/example/larder/larder/BooleanValue" := (F274.keep K262)
        have ne286 : a169 ≠ a281 := Nat.ne_of_lt (Nat.lt_of_lt_of_eq F285.lt g281.symm)
        have F287 : Arv Z T262.heap b185 k185 (.object "java/lang/Object") (10 : Int32) [(.ref a169), .null, .null, .null, .null, .null, .null, .null, .null, .null] .null := (F276.keep K262 (ninS (Ne.symm ne196) nin0))
        have ne288 : b185 ≠ a281 := Nat.ne_of_lt (Nat.lt_of_lt_of_eq F287.lt g281.symm)
        have ne289 : a244 ≠ a281 := Nat.ne_of_lt (Nat.lt_of_lt_of_eq f270.lt g281.symm)
        have ne290 : b262 ≠ a281 := Nat.ne_of_lt (Nat.lt_of_lt_of_eq f268.lt g281.symm)
        have ge_a281 : n0 ≤ a281 := Nat.le_trans Z279 (Nat.le_of_eq g281.symm)
        refine own_Goes.st ?_ st281
        have Z291 : n0 ≤ h281.size := Nat.le_trans Z279 E281.1
        have O292 := O280.ext E281
        have F293 : Fld Z h281 a281 "com/example/larder/larder/DoubleValue" "bits" "J" (.long (0 : Int64)) := D281 (Or.inr (hw _ (List.mem_of_getElem? (i := 68) rfl))) (ty := .long) (by decide)
        have F294 : Fld Z h281 a281 "com/example/larder/larder/DoubleValue" "annotations" "Ljava/util/List;" .null := D281 (Or.inr (hw _ (List.mem_of_getElem? (i := 70) rfl))) (ty := (.object "java/util/List")) (by decide)
        show own_Goes p.tables e below P (T281.setTop (mkF m 100 #[.val (.long p0), .second, .val (.long p1), .second, .val (.int p2), .val (.long bb), .second, .val (.ref a33), .val (.ref a46), .unset, .unset, .unset, .unset] [(.ref a281)]))
        refine own_Goes.st ?_ (fun _ k => XS.dup X281.here hx rfl (hb hby at_100) rfl rfl k)
        refine own_Goes.st ?_ (fun _ k => XS.lloadN X281.here hx rfl (hb hby at_101) rfl k)
        refine own_Goes.st ?_ (fun _ k => XS.aload X281.here hx rfl (hb hby at_102) rfl rfl k)
        have F295 : Exa Z h281 a33 "java/util/ArrayList" := (F282.ext E281)
        have F296 : Fld Z h281 a33 "java/util/ArrayList" "elementData" "[Ljava/lang/Object;" (.ref b185) := ((((f188.ext E244).keep K254 (ninS ne245 nin0)).keep K262 (ninS ne47 nin0)).ext E281)
        have F297 : Fld Z h281 a33 "java/util/ArrayList" "size" "I" (.int (1 : Int32)) := ((((f189.ext E244).keep K254 (ninS ne245 nin0)).keep K262 (ninS ne47 nin0)).ext E281)
        have F298 : Arv Z h281 b185 k185 (.object "java/lang/Object") (10 : Int32) [(.ref a169), .null, .null, .null, .null, .null, .null, .null, .null, .null] .null := (F287.ext E281)
        have F299 : Exa Z h281 b185 "[Ljava/lang/Object;" := ((((f192.ext E244).keep K254).keep K262).ext E281)
        have F300 : Exa Z h281 a169 "com/example/larder/larder/BooleanValue" := (F285.ext E281)
        obtain ⟨_, _, ⟨T301, L301, k301, n301⟩, -, X301, ⟨Lc301, hQ301, l301, y301, z301⟩, st301⟩ := X281.specialBack hx (y := (⟨"com/example/larder/larder/DoubleValue", "<init>", "(JLjava/util/List;)V"⟩ : MethodName)) rfl hown (mvT hZ (hw _ (List.mem_of_getElem? (i := 29) rfl))) (mvT hZ (hw _ (List.mem_of_getElem? (i := 30) rfl))) (mvT hZ (hw _ (List.mem_of_getElem? (i := 31) rfl))) (by decide) (backOf (W := 1) (rm_dv1 l Z a0 hw [] a281 p0 a33 b185 k185 a169 mr em (.long (0 : Int64)) .null h281 n0 Z291 A281 F293 F294 ge_a281 F295 F296 F297 F298 F299 F300 pr7 pr6 O292) hZ (hw _ (List.mem_of_getElem? (i := 31) rfl)) (hw _ (List.mem_of_getElem? (i := 28) rfl)) (by decide) (by decide)) (g := (mkF m 104 #[.val (.long p0), .second, .val (.long p1), .second, .val (.int p2), .val (.long bb), .second, .val (.ref a33), .val (.ref a46), .unset, .unset, .unset, .unset] [(.ref a33), (.long p0), (.ref a281), (.ref a281)])) rfl (by rw [hml]; rfl) (Steps.refl _) (a := a281) (argsL := [(.long p0), (.ref a33)]) (rest := [(.ref a281)]) (lenOf own_pd__28_JLjava_2f_util_2f_List_3b__29_V rfl) rfl (by show 2 * 0 + _ ≤ _; exact Nat.le_of_eq rfl) (hb hby at_104) (fun _ _ => ⟨rfl, e281, (by decide : 7 + 2 ≤ _), (by decide : 32 + 3 ≤ _)⟩)
        dsimp only [Pt.U, Pt.locs, Pt.cells, Pt.slots] at X301 l301 y301 z301 st301 hQ301
        rw [l301, y301, z301] at X301
        obtain ⟨rfl, Nq301, K301, f302, f303⟩ := hQ301
        have N301 := Fr.app N262 Nq301
        refine own_Goes.tr st301 ?_
        have Z304 : n0 ≤ T301.heap.size := Nat.le_trans Z291 K301.1
        have O305 := O292.keep K301 (allS ge_a281 all0)
        show own_Goes p.tables e below P (T301.setTop (mkF m 107 #[.val (.long p0), .second, .val (.long p1), .second, .val (.int p2), .val (.long bb), .second, .val (.ref a33), .val (.ref a46), .unset, .unset, .unset, .unset] [(.ref a281)]))
        refine own_Goes.st ?_ (fun _ k => XS.astore X301.here hx rfl (hb hby at_107) rfl rfl (l' := #[.val (.long p0), .second, .val (.long p1), .second, .val (.int p2), .val (.long bb), .second, .val (.ref a33), .val (.ref a46), .val (.ref a281), .unset, .unset, .unset]) rfl k)
        obtain ⟨T306, h306, X306, e306, E306, A306, D306, -, st306⟩ := newO X301 hx hZ hown (hw _ (List.mem_of_getElem? (i := 26) rfl)) (hw _ (List.mem_of_getElem? (i := 27) rfl)) (hw _ (List.mem_of_getElem? (i := 28) rfl)) rfl (g := (mkF m 109 #[.val (.long p0), .second, .val (.long p1), .second, .val (.int p2), .val (.long bb), .second, .val (.ref a33), .val (.ref a46), .val (.ref a281), .unset, .unset, .unset] [])) rfl (hb hby at_109) (by decide) (by decide)
        obtain ⟨a306, g306⟩ : ∃ z, z = T301.heap.size := ⟨_, rfl⟩
        rw [← g306] at A306 D306 st306
        have F307 : Exa Z T301.heap a33 "java/util/ArrayList" := (F295.keep K301)
        have ne308 : a33 ≠ a306 := Nat.ne_of_lt (Nat.lt_of_lt_of_eq F307.lt g306.symm)
        have F309 : Exa Z T301.heap a46 "java/util/ArrayList" := ((f263.ext E281).keep K301)
        have ne310 : a46 ≠ a306 := Nat.ne_of_lt (Nat.lt_of_lt_of_eq F309.lt g306.symm)
        have F311 : Exa Z T301.heap a169 "com/example/larder/larder/BooleanValue" := (F300.keep K301)
        have ne312 : a169 ≠ a306 := Nat.ne_of_lt (Nat.lt_of_lt_of_eq F311.lt g306.symm)
        have F313 : Arv Z T301.heap b185 k185 (.object "java/lang/Object") (10 : Int32) [(.ref a169), .null, .null, .null, .null, .null, .null, .null, .null, .null] .null := (F298.keep K301 (ninS ne288 nin0))
        have ne314 : b185 ≠ a306 := Nat.ne_of_lt (Nat.lt_of_lt_of_eq F313.lt g306.symm)
        have F315 : Exa Z T301.heap a244 "com/example/larder/larder/BooleanValue" := ((f270.ext E281).keep K301)
        have ne316 : a244 ≠ a306 := Nat.ne_of_lt (Nat.lt_of_lt_of_eq F315.lt g306.symm)
        have F317 : Arv Z T301.heap b262 k262 (.object "java/lang/Object") (10 : Int32) [(.ref a244), .null, .null, .null, .null, .null, .null, .null, .null, .null] .null := ((f268.ext E281).keep K301 (ninS ne290 nin0))
        have ne318 : b262 ≠ a306 := Nat.ne_of_lt (Nat.lt_of_lt_of_eq F317.lt g306.symm)
        have ne319 : a281 ≠ a306 := Nat.ne_of_lt (Nat.lt_of_lt_of_eq f302.lt g306.symm)
        have ge_a306 : n0 ≤ a306 := Nat.le_trans Z304 (Nat.le_of_eq g306.symm)
        refine own_Goes.st ?_ st306
        have Z320 : n0 ≤ h306.size := Nat.le_trans Z304 E306.1
        have O321 := O305.ext E306
        have F322 : Fld Z h306 a306 "com/example/larder/larder/DoubleValue" "bits" "J" (.long (0 : Int64)) := D306 (Or.inr (hw _ (List.mem_of_getElem? (i := 68) rfl))) (ty := .long) (by decide)
        have F323 : Fld Z h306 a306 "com/example/larder/larder/DoubleValue" "annotations" "Ljava/util/List;" .null := D306 (Or.inr (hw _ (List.mem_of_getElem? (i := 70) rfl))) (ty := (.object "java/util/List")) (by decide)
        show own_Goes p.tables e below P (T306.setTop (mkF m 112 #[.val (.long p0), .second, .val (.long p1), .second, .val (.int p2), .val (.long bb), .second, .val (.ref a33), .val (.ref a46), .val (.ref a281), .unset, .unset, .unset] [(.ref a306)]))
        refine own_Goes.st ?_ (fun _ k => XS.dup X306.here hx rfl (hb hby at_112) rfl rfl k)
        refine own_Goes.st ?_ (fun _ k => XS.lload X306.here hx rfl (hb hby at_113) rfl k)
        refine own_Goes.st ?_ (fun _ k => XS.aload X306.here hx rfl (hb hby at_115) rfl rfl k)
        have F324 : Exa Z h306 a46 "java/util/ArrayList" := (F309.ext E306)
        have F325 : Fld Z h306 a46 "java/util/ArrayList" "elementData" "[Ljava/lang/Object;" (.ref b262) := (((f265.ext E281).keep K301 (ninS ne284 nin0)).ext E306)
        have F326 : Fld Z h306 a46 "java/util/ArrayList" "size" "I" (.int (1 : Int32)) := (((f266.ext E281).keep K301 (ninS ne284 nin0)).ext E306)
        have F327 : Arv Z h306 b262 k262 (.object "java/lang/Object") (10 : Int32) [(.ref a244), .null, .null, .null, .null, .null, .null, .null, .null, .null] .null := (F317.ext E306)
        have F328 : Exa Z h306 b262 "[Ljava/lang/Object;" := (((f269.ext E281).keep K301).ext E306)
        have F329 : Exa Z h306 a244 "com/example/larder/larder/BooleanValue" := (F315.ext E306)
        obtain ⟨_, _, ⟨T330, L330, k330, n330⟩, -, X330, ⟨Lc330, hQ330, l330, y330, z330⟩, st330⟩ := X306.specialBack hx (y := (⟨"com/example/larder/larder/DoubleValue", "<init>", "(JLjava/util/List;)V"⟩ : MethodName)) rfl hown (mvT hZ (hw _ (List.mem_of_getElem? (i := 29) rfl))) (mvT hZ (hw _ (List.mem_of_getElem? (i := 30) rfl))) (mvT hZ (hw _ (List.mem_of_getElem? (i := 31) rfl))) (by decide) (backOf (W := 1) (rm_dv1 l Z a0 hw [] a306 bb a46 b262 k262 a244 mr em (.long (0 : Int64)) .null h306 n0 Z320 A306 F322 F323 ge_a306 F324 F325 F326 F327 F328 F329 pr7 pr6 O321) hZ (hw _ (List.mem_of_getElem? (i := 31) rfl)) (hw _ (List.mem_of_getElem? (i := 28) rfl)) (by decide) (by decide)) (g := (mkF m 117 #[.val (.long p0), .second, .val (.long p1), .second, .val (.int p2), .val (.long bb), .second, .val (.ref a33), .val (.ref a46), .val (.ref a281), .unset, .unset, .unset] [(.ref a46), (.long bb), (.ref a306), (.ref a306)])) rfl (by rw [hml]; rfl) (Steps.refl _) (a := a306) (argsL := [(.long bb), (.ref a46)]) (rest := [(.ref a306)]) (lenOf own_pd__28_JLjava_2f_util_2f_List_3b__29_V rfl) rfl (by show 2 * 0 + _ ≤ _; exact Nat.le_of_eq rfl) (hb hby at_117) (fun _ _ => ⟨rfl, e306, (by decide : 10 + 2 ≤ _), (by decide : 37 + 3 ≤ _)⟩)
        dsimp only [Pt.U, Pt.locs, Pt.cells, Pt.slots] at X330 l330 y330 z330 st330 hQ330
        rw [l330, y330, z330] at X330
        obtain ⟨rfl, Nq330, K330, f331, f332⟩ := hQ330
        have N330 := Fr.app N301 Nq330
        refine own_Goes.tr st330 ?_
        have Z333 : n0 ≤ T330.heap.size := Nat.le_trans Z320 K330.1
        have O334 := O321.keep K330 (allS ge_a306 all0)
        show own_Goes p.tables e below P (T330.setTop (mkF m 120 #[.val (.long p0), .second, .val (.long p1), .second, .val (.int p2), .val (.long bb), .second, .val (.ref a33), .val (.ref a46), .val (.ref a281), .unset, .unset, .unset] [(.ref a306)]))
        refine own_Goes.st ?_ (fun _ k => XS.astore X330.here hx rfl (hb hby at_120) rfl rfl (l' := #[.val (.long p0), .second, .val (.long p1), .second, .val (.int p2), .val (.long bb), .second, .val (.ref a33), .val (.ref a46), .val (.ref a281), .val (.ref a306), .unset, .unset]) rfl k)
        have F335 : Exa Z T330.heap a281 "com/example/larder/larder/DoubleValue" := ((f302.ext E306).keep K330)
        have F336 : Fld Z T330.heap a281 "com/example/larder/larder/DoubleValue" "bits" "J" (.long p0) := ((f303.ext E306).keep K330 (ninS ne319 nin0))
        exact JT _ _ (X330.more (by decide) (by decide)) _ rfl N330 Z333 a33 a46 a281 a306 O334 F335 F336 f331 f332
  refine own_Goes.st ?_ (fun _ k => XS.lloadN X0.here hx rfl (hb hby at_0) rfl k)
  refine own_Goes.st ?_ (fun _ k => XS.lstore X0.here hx rfl (hb hby at_1) rfl (l' := #[.val (.long p0), .second, .val (.long p1), .second, .val (.int p2), .val (.long p1), .second, .unset, .unset, .unset, .unset, .unset, .unset]) rfl k)
  refine own_Goes.st ?_ (fun _ k => XS.iload X0.here hx rfl (hb hby at_3) rfl k)
  refine own_Goes.st ?_ (fun _ k => XS.iconst X0.here hx rfl (hb hby at_5) k)
  show own_Goes p.tables e below P (s₁.setTop (mkF m 6 #[.val (.long p0), .second, .val (.long p1), .second, .val (.int p2), .val (.long p1), .second, .unset, .unset, .unset, .unset, .unset, .unset] [(.int (1 : Int32)), (.int p2)]))
  refine own_Goes.st ?_ (fun _ k => XS.iand X0.here hx rfl (hb hby at_6) rfl k)
  by_cases hb1 : (p2 &&& (1 : Int32)) = (0 : Int32)
  · skip
    refine own_Goes.st ?_ (fun _ k => XS.ifYes X0.here hx rfl (pc0 := 7) (pc' := 13) rfl (hb hby at_7) rfl ((if0 _ _).trans (teq hb1).1) (by decide) (by decide) k)
    refine own_Goes.st ?_ (fun _ k => XS.iload X0.here hx rfl (hb hby at_13) rfl k)
    refine own_Goes.st ?_ (fun _ k => XS.iconst X0.here hx rfl (hb hby at_15) k)
    show own_Goes p.tables e below P (s₁.setTop (mkF m 16 #[.val (.long p0), .second, .val (.long p1), .second, .val (.int p2), .val (.long p1), .second, .unset, .unset, .unset, .unset, .unset, .unset] [(.int (2 : Int32)), (.int p2)]))
    refine own_Goes.st ?_ (fun _ k => XS.iand X0.here hx rfl (hb hby at_16) rfl k)
    by_cases hb2 : (p2 &&& (2 : Int32)) = (0 : Int32)
    · skip
      refine own_Goes.st ?_ (fun _ k => XS.ifYes X0.here hx rfl (pc0 := 17) (pc' := 33) rfl (hb hby at_17) rfl ((if0 _ _).trans (teq hb2).1) (by decide) (by decide) k)
      exact (J33 _)
    · skip
      refine own_Goes.st ?_ (fun _ k => XS.ifNo X0.here hx rfl (hb hby at_17) rfl ((if0 _ _).trans (feq hb2).1) k)
      refine own_Goes.st ?_ (fun _ k => XS.lloadN X0.here hx rfl (hb hby at_20) rfl k)
      refine own_Goes.st ?_ (fun _ k => XS.lconst X0.here hx rfl (hb hby at_21) k)
      show own_Goes p.tables e below P (s₁.setTop (mkF m 22 #[.val (.long p0), .second, .val (.long p1), .second, .val (.int p2), .val (.long p1), .second, .unset, .unset, .unset, .unset, .unset, .unset] [(.long (1 : Int64)), (.long p0)]))
      refine own_Goes.st ?_ (fun _ k => XS.iload X0.here hx rfl (hb hby at_22) rfl k)
      refine own_Goes.st ?_ (fun _ k => XS.iconst X0.here hx rfl (hb hby at_24) k)
      refine own_Goes.st ?_ (fun _ k => XS.iushr X0.here hx rfl (hb hby at_25) rfl k)
      refine own_Goes.st ?_ (fun _ k => XS.bipush X0.here hx rfl (hb hby at_26) k)
      show own_Goes p.tables e below P (s₁.setTop (mkF m 28 #[.val (.long p0), .second, .val (.long p1), .second, .val (.int p2), .val (.long p1), .second, .unset, .unset, .unset, .unset, .unset, .unset] [(.int (63 : Int32)), (.int (((p2).toUInt32 >>> ((2 : Int32) &&& 31).toUInt32).toInt32)), (.long (1 : Int64)), (.long p0)]))
      refine own_Goes.st ?_ (fun _ k => XS.iand X0.here hx rfl (hb hby at_28) rfl k)
      refine own_Goes.st ?_ (fun _ k => XS.lshl X0.here hx rfl (hb hby at_29) rfl k)
      refine own_Goes.st ?_ (fun _ k => XS.lxor X0.here hx rfl (hb hby at_30) rfl k)
      refine own_Goes.st ?_ (fun _ k => XS.lstore X0.here hx rfl (hb hby at_31) rfl (l' := #[.val (.long p0), .second, .val (.long p1), .second, .val (.int p2), .val (.long (p0 ^^^ ((1 : Int64) <<< (((((p2).toUInt32 >>> ((2 : Int32) &&& 31).toUInt32).toInt32) &&& (63 : Int32)) &&& 0x3f).toInt64))), .second, .unset, .unset, .unset, .unset, .unset, .unset]) rfl k)
      show own_Goes p.tables e below P (s₁.setTop (mkF m 33 #[.val (.long p0), .second, .val (.long p1), .second, .val (.int p2), .val (.long (p0 ^^^ ((1 : Int64) <<< (((((p2).toUInt32 >>> ((2 : Int32) &&& 31).toUInt32).toInt32) &&& (63 : Int32)) &&& 0x3f).toInt64))), .second, .unset, .unset, .unset, .unset, .unset, .unset] []))
      exact (J33 _)
  · skip
    refine own_Goes.st ?_ (fun _ k => XS.ifNo X0.here hx rfl (hb hby at_7) rfl ((if0 _ _).trans (feq hb1).1) k)
    refine own_Goes.st ?_ (fun _ k => XS.lloadN X0.here hx rfl (hb hby at_10) rfl k)
    refine own_Goes.st ?_ (fun _ k => XS.lstore X0.here hx rfl (hb hby at_11) rfl (l' := #[.val (.long p0), .second, .val (.long p1), .second, .val (.int p2), .val (.long p0), .second, .unset, .unset, .unset, .unset, .unset, .unset]) rfl k)
    show own_Goes p.tables e below P (s₁.setTop (mkF m 13 #[.val (.long p0), .second, .val (.long p1), .second, .val (.int p2), .val (.long p0), .second, .unset, .unset, .unset, .unset, .unset, .unset] []))
    refine own_Goes.st ?_ (fun _ k => XS.iload X0.here hx rfl (hb hby at_13) rfl k)
    refine own_Goes.st ?_ (fun _ k => XS.iconst X0.here hx rfl (hb hby at_15) k)
    refine own_Goes.st ?_ (fun _ k => XS.iand X0.here hx rfl (hb hby at_16) rfl k)
    by_cases hb2 : (p2 &&& (2 : Int32)) = (0 : Int32)
    · skip
      refine own_Goes.st ?_ (fun _ k => XS.ifYes X0.here hx rfl (pc0 := 17) (pc' := 33) rfl (hb hby at_17) rfl ((if0 _ _).trans (teq hb2).1) (by decide) (by decide) k)
      show own_Goes p.tables e below P (s₁.setTop (mkF m 33 #[.val (.long p0), .second, .val (.long p1), .second, .val (.int p2), .val (.long p0), .second, .unset, .unset, .unset, .unset, .unset, .unset] []))
      exact (J33 _)
    · skip
      refine own_Goes.st ?_ (fun _ k => XS.ifNo X0.here hx rfl (hb hby at_17) rfl ((if0 _ _).trans (feq hb2).1) k)
      show own_Goes p.tables e below P (s₁.setTop (mkF m 20 #[.val (.long p0), .second, .val (.long p1), .second, .val (.int p2), .val (.long p0), .second, .unset, .unset, .unset, .unset, .unset, .unset] []))
      refine own_Goes.st ?_ (fun _ k => XS.lloadN X0.here hx rfl (hb hby at_20) rfl k)
      refine own_Goes.st ?_ (fun _ k => XS.lconst X0.here hx rfl (hb hby at_21) k)
      refine own_Goes.st ?_ (fun _ k => XS.iload X0.here hx rfl (hb hby at_22) rfl k)
      refine own_Goes.st ?_ (fun _ k => XS.iconst X0.here hx rfl (hb hby at_24) k)
      show own_Goes p.tables e below P (s₁.setTop (mkF m 25 #[.val (.long p0), .second, .val (.long p1), .second, .val (.int p2), .val (.long p0), .second, .unset, .unset, .unset, .unset, .unset, .unset] [(.int (2 : Int32)), (.int p2), (.long (1 : Int64)), (.long p0)]))
      refine own_Goes.st ?_ (fun _ k => XS.iushr X0.here hx rfl (hb hby at_25) rfl k)
      refine own_Goes.st ?_ (fun _ k => XS.bipush X0.here hx rfl (hb hby at_26) k)
      refine own_Goes.st ?_ (fun _ k => XS.iand X0.here hx rfl (hb hby at_28) rfl k)
      refine own_Goes.st ?_ (fun _ k => XS.lshl X0.here hx rfl (hb hby at_29) rfl k)
      show own_Goes p.tables e below P (s₁.setTop (mkF m 30 #[.val (.long p0), .second, .val (.long p1), .second, .val (.int p2), .val (.long p0), .second, .unset, .unset, .unset, .unset, .unset, .unset] [(.long ((1 : Int64) <<< (((((p2).toUInt32 >>> ((2 : Int32) &&& 31).toUInt32).toInt32) &&& (63 : Int32)) &&& 0x3f).toInt64)), (.long p0)]))
      refine own_Goes.st ?_ (fun _ k => XS.lxor X0.here hx rfl (hb hby at_30) rfl k)
      refine own_Goes.st ?_ (fun _ k => XS.lstore X0.here hx rfl (hb hby at_31) rfl (l' := #[.val (.long p0), .second, .val (.long p1), .second, .val (.int p2), .val (.long (p0 ^^^ ((1 : Int64) <<< (((((p2).toUInt32 >>> ((2 : Int32) &&& 31).toUInt32).toInt32) &&& (63 : Int32)) &&& 0x3f).toInt64))), .second, .unset, .unset, .unset, .unset, .unset, .unset]) rfl k)
      exact (J33 _)
set_option maxRecDepth 65536 in
set_option maxHeartbeats 40000000 in
theorem comes_1 {Post : Tables → Env → Array Value → State → Outcome → State → Prop} (hpost : ∀ tb e args s v u, (limb_1_1.after args s (.returned v) u = true ∧ limb_1_2.after args s (.returned v) u = true ∧ True) → FrameEnd s (.returned v) u (Jvm.fieldLocs frame_1_writes args s ++ Jvm.arrayLocs frame_1_arrays args s ++ Jvm.staticLocs frame_1_statics s) 40 192 → Post tb e args s (.returned v) u) :
    ArmFor flags0 classFile x code maxLocals ret World_1 tables_1 room_1 Calls_1 rest_1 Pre_1 Post := by
  intro l hfl _ _ p e ha hc hk s m args below hf hA hF happ hP
  obtain ⟨hcalls, hrest, hpre⟩ := hP
  obtain ⟨-, -, -, hnamed, -, -, -, hat⟩ := (Spec.applies_iff hf).mp happ
  obtain ⟨hg, hn⟩ := and_e (Cond.before_iff.mp (show (Jvm.Cond.and given_1 narrow_1).before args s = true from hpre))
  obtain ⟨hg0, hg1⟩ := and_e hg
  obtain ⟨hv0, hr0⟩ := and_e hg1
  obtain ⟨hv1, hr1⟩ := and_e hr0
  obtain ⟨w0, w1, w2, rfl⟩ : ∃ w0 w1 w2 : Value, args = #[w0, w1, w2] := by
    have hs : args.size = 3 := by simpa [Cond.value, given_1] using hg0
    obtain ⟨L⟩ := args
    match L, hs with
    | [w0, w1, w2], _ => exact ⟨w0, w1, w2, rfl⟩
  have hw := fun d (hd : d ∈ tables_1) => atoms_spec (ws := Jvm.Cond.code x code maxLocals ret :: tables_1) hat d (List.mem_cons_of_mem _ hd)
  have hfit : Fit s := fun {y c} hc i hi => by
    obtain ⟨ha, rfl⟩ := Array.getElem?_eq_some_iff.mp hc
    have q := List.all_eq_true.mp ((Array.all_eq_true_iff_forall_mem.mp hF) _ (Array.getElem_mem ha)) i (List.mem_range.mpr hi)
    simpa [Array.getElem?_eq_getElem hi] using q
  obtain ⟨hsets, hown0⟩ := atoms_of _ (rest_1_c_eq ▸ (show rest_1_c.before _ s = true from hrest))
  obtain ⟨i0, ei0⟩ := isL_v hv0
  obtain rfl : w0 = (.long i0) := Option.some.inj ei0
  obtain ⟨i1, ei1⟩ := isL_v hv1
  obtain rfl : w1 = (.long i1) := Option.some.inj ei1
  obtain ⟨i2, ei2⟩ := is_v hr1
  obtain rfl : w2 = (.int i2) := Option.some.inj ei2
  obtain ⟨⟨mc, mk, mr, hm1, hm2, hm3⟩, -⟩ := hcalls
  have Mir : own_Mir s "[Ljava/lang/Object;" mr := ⟨mc, mk, hm1, hm2, hm3.1⟩
  obtain ⟨de, ede⟩ := exa_v (Cond.before_iff.mp (hsets _ (List.mem_of_getElem? (i := 7) rfl)))
  have Sde := Sta.start ede (Or.inr ⟨(hw _ (List.mem_of_getElem? (i := 2) rfl)), (hsets _ (List.mem_of_getElem? (i := 2) rfl))⟩)
  obtain ⟨cde, Ad⟩ := Arr.start ede (Cond.before_iff.mp (hsets _ (List.mem_of_getElem? (i := 6) rfl)))
  obtain ⟨ld1, ld2⟩ := own_len ede Ad (Cond.before_iff.mp (hsets _ (List.mem_of_getElem? (i := 8) rfl)))
  have Ade : Arv s s.heap de cde.cls (.object "java/lang/Object") (0 : Int32) [] .null := Arv.start hfit Ad ld1 ld2 (by decide) rfl trivial
  obtain ⟨el, eel⟩ := exa_v (Cond.before_iff.mp (hsets _ (List.mem_of_getElem? (i := 11) rfl)))
  have Sel := Sta.start eel (Or.inl (hsets _ (List.mem_of_getElem? (i := 10) rfl)))
  have Eel := Exa.start eel (Cond.before_iff.mp (hsets _ (List.mem_of_getElem? (i := 11) rfl)))
  have fel := own_eqint (Cond.before_iff.mp (hsets _ (List.mem_of_getElem? (i := 15) rfl)))
  rw [fld_at eel] at fel
  have Fel := Fld.start fel
  obtain ⟨em, eem⟩ := exa_v (Cond.before_iff.mp (hsets _ (List.mem_of_getElem? (i := 18) rfl)))
  have Sem := Sta.start eem (Or.inl (hsets _ (List.mem_of_getElem? (i := 17) rfl)))
  obtain ⟨lc, elc⟩ := exa_v (Cond.before_iff.mp (hsets _ (List.mem_of_getElem? (i := 28) rfl)))
  have Slc := Sta.start elc (Or.inl (hsets _ (List.mem_of_getElem? (i := 26) rfl)))
  obtain ⟨cl, hlc⟩ := Arr.start elc (Cond.before_iff.mp (hsets _ (List.mem_of_getElem? (i := 27) rfl)))
  obtain ⟨ll1, ll2⟩ := own_len elc hlc (Cond.before_iff.mp (hsets _ (List.mem_of_getElem? (i := 29) rfl)))
  have hls : cl.slots.size = 256 := own_size ll1 ll2
  have hla : own_LongAt s cl := own_longs elc hlc ll1 (Cond.before_iff.mp (hsets _ (List.mem_of_getElem? (i := 30) rfl)))
  obtain ⟨n, o, h1, h2, h3, _, L, rfl, ⟨rfl, N⟩, hq⟩ := rm_law l s _ hw tables_1 i0 i1 i2 de cde.cls el em mr lc cl s.heap s.heap.size (Nat.le_refl _) Sde (Old.start s) Ade Sel Eel Fel Sem Mir Slc hlc hls hla p e ha hc hk s m _ below hf ((Spec.applies_iff_loose hf).mp happ).1 ⟨rfl, State.Warmed39.refl s, rfl⟩ trivial
  refine ⟨n, _, h1, h2, h3, hpost _ _ _ _ _ _ ⟨Cond.after_iff.mpr rfl, Cond.after_iff.mpr (eq_i res_at (Term.int_eval (1)) rfl), trivial⟩ ⟨hq.1, hq.2.1, (hq.2.2.sift fun y hy => Or.inr (N y hy)).mono (by decide) (by decide)⟩⟩
theorem main_1_1 : Claimed_1_1 := comes_1 fun _ _ _ _ _ _ h hF => ⟨h.1, hF⟩
theorem main_1_2 : Claimed_1_2 := comes_1 fun _ _ _ _ _ _ h hF => ⟨h.2.1, hF⟩
end Jvm.Pilot.@@N@@
namespace Jvm.Pilot.@@N@@
open Jvm Jvm.ClassFile Sem Op Lib Jvm.Free Jvm.Stand Jvm.Pilot.@@N@@.Jvm.D
/-! MADE BY PROGRAM (witnessworld.py) out of the Statement's table words and the real class files: 38 classes; the members and pool entries that the words name. The judged class is class 1, her method 1. -/
namespace start1
open Jvm.ClassFile
def u (s : String) : CpInfo := .utf8 (stringToUtf16 s)
/-- a pool by its gaps: so many unusable entries, then the entry; so many at the end -/
def gap : Nat → List CpInfo → List CpInfo
  | 0, r => r
  | n + 1, r => .unusable :: gap n r
def poolList (es : List (Nat × CpInfo)) (last : Nat) : List CpInfo := es.foldr (fun e r => gap e.1 (e.2 :: r)) (gap last [])
def pool (es : List (Nat × CpInfo)) (last : Nat) : Array CpInfo := ⟨poolList es last⟩
def fileOf (pool : Array CpInfo) (this : Nat) (attrs : Array Attribute := #[]) (ms : Array MethodInfo := #[]) (fl : Nat := 33) (sup : Nat := 0) (ifs : Array Nat := #[]) (fds : Array FieldInfo := #[]) : ClassFile where
  minorVersion := 0
  majorVersion := 65
  constantPool := pool
  accessFlags := fl
  thisClass := this
  superClass := sup
  interfaces := ifs
  fields := fds
  methods := ms
  attributes := attrs
def plain (name : String) (sup : Option ClassId) : Class where
  name := name
  kind := .ordinary
  loader := none
  accessFlags := 33
  super := sup
  interfaces := #[]
  cf := none
  fields := #[]
  methods := #[]
  instanceTypes := #[]
  staticTypes := #[]
  resolved := #[]
  callSites := []
  init := .initialized
  statics := none
  mirror := none

def pool0 : Array CpInfo := pool [(5, u "<init>"), (0, u "()V"), (1, .class_ 10), (1, u "java/lang/Object"), (0, u "getClass"), (0, u "()Ljava/lang/Class;")] 111

def k0c0 : Code := { maxStack := 0, maxLocals := 1, code := object_method_1_code, exceptionTable := #[], attributes := #[] }
def k0m0 : Method := { name := "<init>", desc := "()V", sig := { parameters := [], returnType := none }, accessFlags := 1, code := some k0c0 }
def k0m1 : Method := { name := "getClass", desc := "()Ljava/lang/Class;", sig := { parameters := [], returnType := some (.object "java/lang/Class") }, accessFlags := 273, code := none }
/-- java/lang/Object -/
def k0 : Class := { plain "java/lang/Object" none with
  accessFlags := 33
  interfaces := #[]
  cf := some (fileOf pool0 8 #[] #[{ accessFlags := 1, nameIndex := 5, descriptorIndex := 6, attributes := #[] }, { accessFlags := 273, nameIndex := 11, descriptorIndex := 12, attributes := #[] }] 33 0 #[] #[])
  fields := #[]
  methods := #[k0m0, k0m1]
  instanceTypes := #[]
  staticTypes := #[]
  resolved := Array.replicate 124 none
  statics := none }

def pool1 : Array CpInfo := pool [(2, .class_ 4), (0, .nameAndType 5 6), (0, u "java/lang/Object"), (0, u "<init>"), (0, u "()V"), (0, .class_ 8), (0, u "java/util/ArrayList"), (0, .methodref 7 3), (0, .class_ 11), (0, u "com/example/larder/larder/BooleanValue"), (0, .methodref 10 13), (0, .nameAndType 5 14), (0, u "(Z)V"), (0, .methodref 7 16), (0, .nameAndType 17 18), (0, u "add"), (0, u "(Ljava/lang/Object;)Z"), (0, .class_ 20), (0, u "com/example/larder/larder/DoubleValue"), (0, .methodref 19 22), (0, .nameAndType 5 23), (0, u "(JLjava/util/List;)V"), (0, .methodref 19 25), (0, .nameAndType 26 18), (0, u "equals"), (0, .methodref 28 29), (0, .class_ 30), (0, .nameAndType 31 32), (0, u "java/lang/Long"), (0, u "valueOf"), (0, u "(J)Ljava/lang/Long;"), (0, .class_ 34), (0, u "com/example/larder/larder/DoubleValueEqualsPinLaw"), (2, u "law"), (0, u "(JJI)Z")] 3

def k1m0 : Method := { name := "<init>", desc := "()V", sig := { parameters := [], returnType := none }, accessFlags := 2, code := none }
def k1c1 : Code := { maxStack := 7, maxLocals := 13, code := code, exceptionTable := #[], attributes := #[] }
def k1m1 : Method := { name := "law", desc := "(JJI)Z", sig := { parameters := [.long, .long, .int], returnType := some .boolean }, accessFlags := 9, code := some k1c1 }
/-- com/example/larder/larder/DoubleValueEqualsPinLaw -/
def k1 : Class := { plain "com/example/larder/larder/DoubleValueEqualsPinLaw" (some 0) with
  accessFlags := 49
  interfaces := #[]
  cf := some (fileOf pool1 33 #[] #[{ accessFlags := 2, nameIndex := 5, descriptorIndex := 6, attributes := #[] }, { accessFlags := 9, nameIndex := 37, descriptorIndex := 38, attributes := #[] }] 49 2 #[] #[])
  fields := #[]
  methods := #[k1m0, k1m1]
  instanceTypes := #[]
  staticTypes := #[]
  resolved := Array.replicate 42 none
  statics := none }

def pool2 : Array CpInfo := pool [(8, .class_ 10), (1, u "java/lang/Iterable"), (24, .class_ 36), (0, u "java/lang/Object")] 25

/-- java/lang/Iterable -/
def k2 : Class := { plain "java/lang/Iterable" (some 0) with
  accessFlags := 1537
  interfaces := #[]
  cf := some (fileOf pool2 8 #[] #[] 1537 35 #[] #[])
  fields := #[]
  methods := #[]
  instanceTypes := #[]
  staticTypes := #[]
  resolved := Array.replicate 62 none
  statics := none }

def pool3 : Array CpInfo := pool [(10, .class_ 12), (1, u "java/util/Collection"), (0, u "toArray"), (16, u "()Z"), (29, .class_ 61), (0, u "java/lang/Object"), (0, .class_ 63), (0, u "java/lang/Iterable"), (2, u "isEmpty"), (3, u "()[Ljava/lang/Object;")] 44

def k3m0 : Method := { name := "isEmpty", desc := "()Z", sig := { parameters := [], returnType := some .boolean }, accessFlags := 1025, code := none }
def k3m1 : Method := { name := "toArray", desc := "()[Ljava/lang/Object;", sig := { parameters := [], returnType := some (.array (.object "java/lang/Object")) }, accessFlags := 1025, code := none }
/-- java/util/Collection -/
def k3 : Class := { plain "java/util/Collection" (some 0) with
  accessFlags := 1537
  interfaces := #[2]
  cf := some (fileOf pool3 10 #[] #[{ accessFlags := 1025, nameIndex := 66, descriptorIndex := 30, attributes := #[] }, { accessFlags := 1025, nameIndex := 13, descriptorIndex := 70, attributes := #[] }] 1537 60 #[62] #[])
  fields := #[]
  methods := #[k3m0, k3m1]
  instanceTypes := #[]
  staticTypes := #[]
  resolved := Array.replicate 115 none
  statics := none }

def pool4 : Array CpInfo := pool [(1, .methodref 2 3), (0, .class_ 4), (0, .nameAndType 5 6), (0, u "java/lang/Object"), (0, u "<init>"), (0, u "()V"), (1, .class_ 10), (1, u "java/util/AbstractCollection"), (66, .class_ 78), (0, u "java/util/Collection")] 81

def k4c0 : Code := { maxStack := 1, maxLocals := 1, code := jdk_22_method_1_code, exceptionTable := #[], attributes := #[] }
def k4m0 : Method := { name := "<init>", desc := "()V", sig := { parameters := [], returnType := none }, accessFlags := 4, code := some k4c0 }
/-- java/util/AbstractCollection -/
def k4 : Class := { plain "java/util/AbstractCollection" (some 0) with
  accessFlags := 1057
  interfaces := #[3]
  cf := some (fileOf pool4 8 #[] #[{ accessFlags := 4, nameIndex := 5, descriptorIndex := 6, attributes := #[] }] 1057 2 #[77] #[])
  fields := #[]
  methods := #[k4m0]
  instanceTypes := #[]
  staticTypes := #[]
  resolved := Array.replicate 160 none
  statics := none }

def pool5 : Array CpInfo := pool [(8, .class_ 10), (1, u "java/util/SequencedCollection"), (15, .class_ 27), (0, u "java/lang/Object"), (0, .class_ 29), (0, u "java/util/Collection")] 27

/-- java/util/SequencedCollection -/
def k5 : Class := { plain "java/util/SequencedCollection" (some 0) with
  accessFlags := 1537
  interfaces := #[3]
  cf := some (fileOf pool5 8 #[] #[] 1537 26 #[28] #[])
  fields := #[]
  methods := #[]
  instanceTypes := #[]
  staticTypes := #[]
  resolved := Array.replicate 57 none
  statics := none }

def pool6 : Array CpInfo := pool [(8, .class_ 10), (1, u "java/util/List"), (20, u "(Ljava/lang/Object;)V"), (16, u "<init>"), (39, u "of"), (1, .fieldref 91 92), (0, .class_ 93), (0, .nameAndType 94 95), (0, u "java/util/ImmutableCollections"), (0, u "EMPTY_LIST"), (0, u "Ljava/util/ImmutableCollections$ListN;"), (0, .class_ 97), (0, u "java/util/ImmutableCollections$List12"), (0, .methodref 96 99), (0, .nameAndType 48 31), (3, .class_ 104), (0, u "java/lang/Object"), (3, u "([Ljava/lang/Object;)Ljava/util/List;"), (3, .methodref 91 113), (0, .nameAndType 114 115), (0, u "listCopy"), (0, u "(Ljava/util/Collection;)Ljava/util/List;"), (3, u "()Ljava/util/List;"), (0, .class_ 121), (0, u "java/util/SequencedCollection"), (112, u "copyOf")] 16

def k6c0 : Code := { maxStack := 1, maxLocals := 0, code := jdk_40_method_36_code, exceptionTable := #[], attributes := #[] }
def k6m0 : Method := { name := "of", desc := "()Ljava/util/List;", sig := { parameters := [], returnType := some (.object "java/util/List") }, accessFlags := 9, code := some k6c0 }
def k6c1 : Code := { maxStack := 5, maxLocals := 2, code := jdk_40_method_47_code, exceptionTable := #[], attributes := #[] }
def k6m1 : Method := { name := "of", desc := "([Ljava/lang/Object;)Ljava/util/List;", sig := { parameters := [(.array (.object "java/lang/Object"))], returnType := some (.object "java/util/List") }, accessFlags := 137, code := some k6c1 }
def k6c2 : Code := { maxStack := 1, maxLocals := 1, code := jdk_40_method_48_code, exceptionTable := #[], attributes := #[] }
def k6m2 : Method := { name := "copyOf", desc := "(Ljava/util/Collection;)Ljava/util/List;", sig := { parameters := [(.object "java/util/Collection")], returnType := some (.object "java/util/List") }, accessFlags := 9, code := some k6c2 }
/-- java/util/List -/
def k6 : Class := { plain "java/util/List" (some 0) with
  accessFlags := 1537
  interfaces := #[5]
  cf := some (fileOf pool6 8 #[] #[{ accessFlags := 9, nameIndex := 88, descriptorIndex := 119, attributes := #[] }, { accessFlags := 137, nameIndex := 88, descriptorIndex := 108, attributes := #[] }, { accessFlags := 9, nameIndex := 234, descriptorIndex := 115, attributes := #[] }] 1537 103 #[120] #[])
  fields := #[]
  methods := #[k6m0, k6m1, k6m2]
  instanceTypes := #[]
  staticTypes := #[]
  resolved := Array.replicate 251 none
  statics := none }

def pool7 : Array CpInfo := pool [(1, .methodref 2 3), (0, .class_ 4), (0, .nameAndType 5 6), (0, u "java/util/AbstractCollection"), (0, u "<init>"), (0, u "()V"), (0, .fieldref 8 9), (0, .class_ 10), (0, .nameAndType 11 12), (0, u "java/util/AbstractList"), (0, u "modCount"), (0, u "I"), (64, .class_ 78), (0, u "java/util/AbstractList$Itr"), (3, .class_ 83), (0, u "java/util/AbstractList$ListItr"), (9, .class_ 94), (0, u "java/util/AbstractList$RandomAccessSubList"), (3, .class_ 99), (0, u "java/util/AbstractList$SubList"), (33, .class_ 134), (0, u "java/util/List"), (73, .class_ 209), (0, u "java/util/AbstractList$SubList$1"), (0, .class_ 211), (0, u "java/util/AbstractList$RandomAccessSpliterator")] 6

def k7c0 : Code := { maxStack := 2, maxLocals := 1, code := jdk_39_method_1_code, exceptionTable := #[], attributes := #[] }
def k7m0 : Method := { name := "<init>", desc := "()V", sig := { parameters := [], returnType := none }, accessFlags := 4, code := some k7c0 }
/-- java/util/AbstractList -/
def k7 : Class := { plain "java/util/AbstractList" (some 4) with
  accessFlags := 1057
  interfaces := #[6]
  cf := some (fileOf pool7 8 #[.nestMembers #[93, 98, 208, 210, 82, 77]] #[{ accessFlags := 4, nameIndex := 5, descriptorIndex := 6, attributes := #[] }] 1057 2 #[133] #[{ accessFlags := 132, nameIndex := 11, descriptorIndex := 12, attributes := #[] }])
  fields := #[{ name := "modCount", type := .int, accessFlags := 132, slot := 0, constantValue := 0 }]
  methods := #[k7m0]
  instanceTypes := #[.int]
  staticTypes := #[]
  resolved := Array.replicate 218 none
  statics := none }

def pool8 : Array CpInfo := pool [(1, .class_ 2), (0, u "java/util/RandomAccess"), (0, .class_ 4), (0, u "java/lang/Object")] 2

/-- java/util/RandomAccess -/
def k8 : Class := { plain "java/util/RandomAccess" (some 0) with
  accessFlags := 1537
  interfaces := #[]
  cf := some (fileOf pool8 1 #[] #[] 1537 3 #[] #[])
  fields := #[]
  methods := #[]
  instanceTypes := #[]
  staticTypes := #[]
  resolved := Array.replicate 7 none
  statics := none }

def pool9 : Array CpInfo := pool [(1, .class_ 2), (0, u "java/lang/Cloneable"), (0, .class_ 4), (0, u "java/lang/Object")] 2

/-- java/lang/Cloneable -/
def k9 : Class := { plain "java/lang/Cloneable" (some 0) with
  accessFlags := 1537
  interfaces := #[]
  cf := some (fileOf pool9 1 #[] #[] 1537 3 #[] #[])
  fields := #[]
  methods := #[]
  instanceTypes := #[]
  staticTypes := #[]
  resolved := Array.replicate 7 none
  statics := none }

def pool10 : Array CpInfo := pool [(1, .class_ 2), (0, u "java/io/Serializable"), (0, .class_ 4), (0, u "java/lang/Object")] 2

/-- java/io/Serializable -/
def k10 : Class := { plain "java/io/Serializable" (some 0) with
  accessFlags := 1537
  interfaces := #[]
  cf := some (fileOf pool10 1 #[] #[] 1537 3 #[] #[])
  fields := #[]
  methods := #[]
  instanceTypes := #[]
  staticTypes := #[]
  resolved := Array.replicate 7 none
  statics := none }

def pool11 : Array CpInfo := pool [(1, .methodref 2 3), (0, .class_ 4), (0, .nameAndType 5 6), (0, u "java/util/AbstractList"), (0, u "<init>"), (0, u "()V"), (0, .class_ 8), (0, u "java/lang/Object"), (0, .fieldref 10 11), (0, .class_ 12), (0, .nameAndType 13 14), (0, u "java/util/ArrayList"), (0, u "elementData"), (0, u "[Ljava/lang/Object;"), (2, u "EMPTY_ELEMENTDATA"), (21, .fieldref 10 40), (0, .nameAndType 41 14), (0, u "DEFAULTCAPACITY_EMPTY_ELEMENTDATA"), (4, u "toArray"), (0, u "()[Ljava/lang/Object;"), (0, .fieldref 10 49), (0, .nameAndType 50 51), (0, u "size"), (0, u "I"), (6, .class_ 60), (1, u "java/util/Arrays"), (0, u "copyOf"), (1, .fieldref 10 64), (0, .nameAndType 65 51), (0, u "modCount"), (0, .methodref 58 67), (0, .nameAndType 61 68), (0, u "([Ljava/lang/Object;I)[Ljava/lang/Object;"), (0, .methodref 10 70), (0, .nameAndType 71 72), (0, u "grow"), (0, u "(I)[Ljava/lang/Object;"), (6, .methodref 80 81), (0, .class_ 82), (0, .nameAndType 83 84), (0, u "java/lang/Math"), (0, u "max"), (0, u "(II)I"), (11, u "(Ljava/lang/Object;)Z"), (32, .methodref 10 130), (0, .nameAndType 71 47), (0, .methodref 10 132), (0, .nameAndType 133 134), (0, u "add"), (0, u "(Ljava/lang/Object;[Ljava/lang/Object;I)V"), (13, .class_ 149), (0, u "java/util/List"), (23, u "()Z"), (88, .class_ 263), (0, u "java/util/ArrayList$ListItr"), (3, .class_ 268), (0, u "java/util/ArrayList$Itr"), (7, .class_ 277), (0, u "java/util/ArrayList$SubList"), (12, .class_ 291), (0, u "java/util/ArrayList$ArrayListSpliterator"), (37, .class_ 330), (0, u "java/util/RandomAccess"), (0, .class_ 332), (0, u "java/lang/Cloneable"), (0, .class_ 334), (0, u "java/io/Serializable"), (0, u "serialVersionUID"), (0, u "J"), (3, u "DEFAULT_CAPACITY"), (22, u "isEmpty"), (136, .class_ 501), (0, u "java/util/ArrayList$SubList$2"), (0, .class_ 503), (0, u "java/util/ArrayList$SubList$1")] 5

def k11c0 : Code := { maxStack := 2, maxLocals := 1, code := jdk_38_method_2_code, exceptionTable := #[], attributes := #[] }
def k11m0 : Method := { name := "<init>", desc := "()V", sig := { parameters := [], returnType := none }, accessFlags := 1, code := some k11c0 }
def k11c1 : Code := { maxStack := 4, maxLocals := 4, code := jdk_38_method_6_code, exceptionTable := #[], attributes := #[] }
def k11m1 : Method := { name := "grow", desc := "(I)[Ljava/lang/Object;", sig := { parameters := [.int], returnType := some (.array (.object "java/lang/Object")) }, accessFlags := 2, code := some k11c1 }
def k11c2 : Code := { maxStack := 3, maxLocals := 1, code := jdk_38_method_7_code, exceptionTable := #[], attributes := #[] }
def k11m2 : Method := { name := "grow", desc := "()[Ljava/lang/Object;", sig := { parameters := [], returnType := some (.array (.object "java/lang/Object")) }, accessFlags := 2, code := some k11c2 }
def k11c3 : Code := { maxStack := 1, maxLocals := 1, code := jdk_38_method_9_code, exceptionTable := #[], attributes := #[] }
def k11m3 : Method := { name := "isEmpty", desc := "()Z", sig := { parameters := [], returnType := some .boolean }, accessFlags := 1, code := some k11c3 }
def k11c4 : Code := { maxStack := 2, maxLocals := 1, code := jdk_38_method_16_code, exceptionTable := #[], attributes := #[] }
def k11m4 : Method := { name := "toArray", desc := "()[Ljava/lang/Object;", sig := { parameters := [], returnType := some (.array (.object "java/lang/Object")) }, accessFlags := 1, code := some k11c4 }
def k11c5 : Code := { maxStack := 3, maxLocals := 4, code := jdk_38_method_24_code, exceptionTable := #[], attributes := #[] }
def k11m5 : Method := { name := "add", desc := "(Ljava/lang/Object;[Ljava/lang/Object;I)V", sig := { parameters := [(.object "java/lang/Object"), (.array (.object "java/lang/Object")), .int], returnType := none }, accessFlags := 2, code := some k11c5 }
def k11c6 : Code := { maxStack := 4, maxLocals := 2, code := jdk_38_method_25_code, exceptionTable := #[], attributes := #[] }
def k11m6 : Method := { name := "add", desc := "(Ljava/lang/Object;)Z", sig := { parameters := [(.object "java/lang/Object")], returnType := some .boolean }, accessFlags := 1, code := some k11c6 }
/-- java/util/ArrayList -/
def k11 : Class := { plain "java/util/ArrayList" (some 7) with
  accessFlags := 33
  interfaces := #[6, 8, 9, 10]
  cf := some (fileOf pool11 10 #[.nestMembers #[290, 276, 500, 502, 262, 267]] #[{ accessFlags := 1, nameIndex := 5, descriptorIndex := 6, attributes := #[] }, { accessFlags := 2, nameIndex := 71, descriptorIndex := 72, attributes := #[] }, { accessFlags := 2, nameIndex := 71, descriptorIndex := 47, attributes := #[] }, { accessFlags := 1, nameIndex := 363, descriptorIndex := 173, attributes := #[] }, { accessFlags := 1, nameIndex := 46, descriptorIndex := 47, attributes := #[] }, { accessFlags := 2, nameIndex := 133, descriptorIndex := 134, attributes := #[] }, { accessFlags := 1, nameIndex := 133, descriptorIndex := 96, attributes := #[] }] 33 2 #[148, 329, 331, 333] #[{ accessFlags := 26, nameIndex := 335, descriptorIndex := 336, attributes := #[] }, { accessFlags := 26, nameIndex := 340, descriptorIndex := 51, attributes := #[] }, { accessFlags := 26, nameIndex := 17, descriptorIndex := 14, attributes := #[] }, { accessFlags := 26, nameIndex := 41, descriptorIndex := 14, attributes := #[] }, { accessFlags := 128, nameIndex := 13, descriptorIndex := 14, attributes := #[] }, { accessFlags := 2, nameIndex := 50, descriptorIndex := 51, attributes := #[] }])
  fields := #[{ name := "serialVersionUID", type := .long, accessFlags := 26, slot := 0, constantValue := 0 }, { name := "DEFAULT_CAPACITY", type := .int, accessFlags := 26, slot := 1, constantValue := 0 }, { name := "EMPTY_ELEMENTDATA", type := (.array (.object "java/lang/Object")), accessFlags := 26, slot := 2, constantValue := 0 }, { name := "DEFAULTCAPACITY_EMPTY_ELEMENTDATA", type := (.array (.object "java/lang/Object")), accessFlags := 26, slot := 3, constantValue := 0 }, { name := "elementData", type := (.array (.object "java/lang/Object")), accessFlags := 128, slot := 1, constantValue := 0 }, { name := "size", type := .int, accessFlags := 2, slot := 2, constantValue := 0 }]
  methods := #[k11m0, k11m1, k11m2, k11m3, k11m4, k11m5, k11m6]
  instanceTypes := #[.int, (.array (.object "java/lang/Object")), .int]
  staticTypes := #[.long, .int, (.array (.object "java/lang/Object")), (.array (.object "java/lang/Object"))]
  resolved := Array.replicate 509 none
  statics := some 0 }

def pool12 : Array CpInfo := pool [(1, .methodref 2 3), (0, .class_ 4), (0, .nameAndType 5 6), (0, u "java/lang/Object"), (0, u "<init>"), (0, u "()V"), (0, .class_ 8), (0, u "java/lang/Record")] 13

def k12c0 : Code := { maxStack := 1, maxLocals := 1, code := jdk_30_method_1_code, exceptionTable := #[], attributes := #[] }
def k12m0 : Method := { name := "<init>", desc := "()V", sig := { parameters := [], returnType := none }, accessFlags := 4, code := some k12c0 }
/-- java/lang/Record -/
def k12 : Class := { plain "java/lang/Record" (some 0) with
  accessFlags := 1057
  interfaces := #[]
  cf := some (fileOf pool12 7 #[] #[{ accessFlags := 4, nameIndex := 5, descriptorIndex := 6, attributes := #[] }] 1057 2 #[] #[])
  fields := #[]
  methods := #[k12m0]
  instanceTypes := #[]
  staticTypes := #[]
  resolved := Array.replicate 22 none
  statics := none }

def pool13 : Array CpInfo := pool [(1, .class_ 2), (0, u "com/example/larder/larder/Value"), (0, .class_ 4), (0, u "java/lang/Object")] 32

/-- com/example/larder/larder/Value -/
def k13 : Class := { plain "com/example/larder/larder/Value" (some 0) with
  accessFlags := 1537
  interfaces := #[]
  cf := some (fileOf pool13 1 #[] #[] 1537 3 #[] #[])
  fields := #[]
  methods := #[]
  instanceTypes := #[]
  staticTypes := #[]
  resolved := Array.replicate 37 none
  statics := none }

def pool14 : Array CpInfo := pool [(1, .methodref 2 3), (0, .class_ 4), (0, .nameAndType 5 6), (0, u "java/lang/Record"), (0, u "<init>"), (0, u "()V"), (0, .interfaceMethodref 8 9), (0, .class_ 10), (0, .nameAndType 11 12), (0, u "java/util/List"), (0, u "copyOf"), (0, u "(Ljava/util/Collection;)Ljava/util/List;"), (0, .fieldref 14 15), (0, .class_ 16), (0, .nameAndType 17 18), (0, u "com/example/larder/larder/DoubleValue"), (0, u "bits"), (0, u "J"), (0, .fieldref 14 20), (0, .nameAndType 21 22), (0, u "annotations"), (0, u "Ljava/util/List;"), (6, u "(JLjava/util/List;)V"), (40, .class_ 71), (0, u "com/example/larder/larder/Value"), (10, u "equals"), (0, u "(Ljava/lang/Object;)Z")] 28

def k14c0 : Code := { maxStack := 3, maxLocals := 4, code := prog_16_method_1_code, exceptionTable := #[], attributes := #[] }
def k14m0 : Method := { name := "<init>", desc := "(JLjava/util/List;)V", sig := { parameters := [.long, (.object "java/util/List")], returnType := none }, accessFlags := 1, code := some k14c0 }
def k14c1 : Code := { maxStack := 4, maxLocals := 3, code := prog_16_method_6_code, exceptionTable := #[], attributes := #[] }
def k14m1 : Method := { name := "equals", desc := "(Ljava/lang/Object;)Z", sig := { parameters := [(.object "java/lang/Object")], returnType := some .boolean }, accessFlags := 1, code := some k14c1 }
/-- com/example/larder/larder/DoubleValue -/
def k14 : Class := { plain "com/example/larder/larder/DoubleValue" (some 12) with
  accessFlags := 49
  interfaces := #[13]
  cf := some (fileOf pool14 14 #[] #[{ accessFlags := 1, nameIndex := 5, descriptorIndex := 29, attributes := #[] }, { accessFlags := 1, nameIndex := 82, descriptorIndex := 83, attributes := #[] }] 49 2 #[70] #[{ accessFlags := 18, nameIndex := 17, descriptorIndex := 18, attributes := #[] }, { accessFlags := 18, nameIndex := 21, descriptorIndex := 22, attributes := #[] }])
  fields := #[{ name := "bits", type := .long, accessFlags := 18, slot := 0, constantValue := 0 }, { name := "annotations", type := (.object "java/util/List"), accessFlags := 18, slot := 1, constantValue := 0 }]
  methods := #[k14m0, k14m1]
  instanceTypes := #[.long, (.object "java/util/List")]
  staticTypes := #[]
  resolved := Array.replicate 112 none
  statics := none }

def pool15 : Array CpInfo := pool [(2, .class_ 4), (1, u "java/lang/Object"), (0, u "<init>"), (0, u "()V"), (3, .class_ 11), (0, u "java/util/ImmutableCollections$List12"), (0, .class_ 13), (0, u "java/util/ImmutableCollections$ListN"), (0, .fieldref 12 15), (0, .nameAndType 16 17), (0, u "allowNulls"), (0, u "Z"), (0, .class_ 19), (0, u "java/util/List"), (0, .interfaceMethodref 21 22), (0, .class_ 23), (0, .nameAndType 24 25), (0, u "java/util/Collection"), (0, u "isEmpty"), (0, u "()Z"), (0, .interfaceMethodref 18 27), (0, .nameAndType 28 29), (0, u "of"), (0, u "()Ljava/util/List;"), (0, .interfaceMethodref 21 31), (0, .nameAndType 32 33), (0, u "toArray"), (0, u "()[Ljava/lang/Object;"), (0, .interfaceMethodref 18 35), (0, .nameAndType 28 36), (0, u "([Ljava/lang/Object;)Ljava/util/List;"), (10, .class_ 49), (1, u "java/util/ImmutableCollections"), (0, u "$assertionsDisabled"), (5, u "[Ljava/lang/Object;"), (5, u "EMPTY_LIST"), (0, u "Ljava/util/ImmutableCollections$ListN;"), (8, u "EMPTY_LIST_NULLS"), (22, u "SALT32L"), (0, u "J"), (2, u "REVERSE"), (6, u "archivedObjects"), (2, u "EMPTY"), (0, u "Ljava/lang/Object;"), (0, .class_ 112), (0, u "java/util/ImmutableCollections$SetN"), (5, u "EMPTY_SET"), (0, u "Ljava/util/ImmutableCollections$SetN;"), (0, .class_ 121), (0, u "java/util/ImmutableCollections$MapN"), (3, u "EMPTY_MAP"), (0, u "Ljava/util/ImmutableCollections$MapN;"), (4, u "EXPAND_FACTOR"), (0, u "I"), (9, u "listCopy"), (0, u "(Ljava/util/Collection;)Ljava/util/List;"), (25, .class_ 170), (0, u "java/util/ImmutableCollections$MapN$MapNIterator"), (0, .class_ 172), (0, u "java/util/ImmutableCollections$MapN$1"), (0, .class_ 174), (0, u "java/util/ImmutableCollections$Map1"), (0, .class_ 176), (0, u "java/util/ImmutableCollections$AbstractImmutableMap"), (0, .class_ 178), (0, u "java/util/ImmutableCollections$SetN$SetNIterator"), (0, .class_ 180), (0, u "java/util/ImmutableCollections$Set12"), (0, .class_ 182), (0, u "java/util/ImmutableCollections$Set12$1"), (0, .class_ 184), (0, u "java/util/ImmutableCollections$AbstractImmutableSet"), (0, .class_ 186), (0, u "java/util/ImmutableCollections$SubList"), (0, .class_ 188), (0, u "java/util/ImmutableCollections$ListItr"), (0, .class_ 190), (0, u "java/util/ImmutableCollections$AbstractImmutableList"), (0, .class_ 192), (0, u "java/util/ImmutableCollections$AbstractImmutableCollection"), (0, .class_ 194), (0, u "java/util/ImmutableCollections$Access"), (0, .class_ 196), (0, u "java/util/ImmutableCollections$Access$1")] 16

def k15m0 : Method := { name := "<init>", desc := "()V", sig := { parameters := [], returnType := none }, accessFlags := 2, code := none }
def k15c1 : Code := { maxStack := 1, maxLocals := 2, code := jdk_56_method_3_code, exceptionTable := #[], attributes := #[] }
def k15m1 : Method := { name := "listCopy", desc := "(Ljava/util/Collection;)Ljava/util/List;", sig := { parameters := [(.object "java/util/Collection")], returnType := some (.object "java/util/List") }, accessFlags := 8, code := some k15c1 }
/-- java/util/ImmutableCollections -/
def k15 : Class := { plain "java/util/ImmutableCollections" (some 0) with
  accessFlags := 32
  interfaces := #[]
  cf := some (fileOf pool15 47 #[.nestMembers #[120, 169, 171, 173, 175, 111, 177, 179, 181, 183, 12, 10, 185, 187, 189, 191, 193, 195]] #[{ accessFlags := 2, nameIndex := 5, descriptorIndex := 6, attributes := #[] }, { accessFlags := 8, nameIndex := 142, descriptorIndex := 143, attributes := #[] }] 32 2 #[] #[{ accessFlags := 26, nameIndex := 95, descriptorIndex := 96, attributes := #[] }, { accessFlags := 26, nameIndex := 99, descriptorIndex := 17, attributes := #[] }, { accessFlags := 10, nameIndex := 106, descriptorIndex := 56, attributes := #[] }, { accessFlags := 26, nameIndex := 109, descriptorIndex := 110, attributes := #[] }, { accessFlags := 24, nameIndex := 62, descriptorIndex := 63, attributes := #[] }, { accessFlags := 24, nameIndex := 72, descriptorIndex := 63, attributes := #[] }, { accessFlags := 24, nameIndex := 118, descriptorIndex := 119, attributes := #[] }, { accessFlags := 24, nameIndex := 125, descriptorIndex := 126, attributes := #[] }, { accessFlags := 24, nameIndex := 131, descriptorIndex := 132, attributes := #[] }, { accessFlags := 4120, nameIndex := 50, descriptorIndex := 17, attributes := #[] }])
  fields := #[{ name := "SALT32L", type := .long, accessFlags := 26, slot := 0, constantValue := 0 }, { name := "REVERSE", type := .boolean, accessFlags := 26, slot := 1, constantValue := 0 }, { name := "archivedObjects", type := (.array (.object "java/lang/Object")), accessFlags := 10, slot := 2, constantValue := 0 }, { name := "EMPTY", type := (.object "java/lang/Object"), accessFlags := 26, slot := 3, constantValue := 0 }, { name := "EMPTY_LIST", type := (.object "java/util/ImmutableCollections$ListN"), accessFlags := 24, slot := 4, constantValue := 0 }, { name := "EMPTY_LIST_NULLS", type := (.object "java/util/ImmutableCollections$ListN"), accessFlags := 24, slot := 5, constantValue := 0 }, { name := "EMPTY_SET", type := (.object "java/util/ImmutableCollections$SetN"), accessFlags := 24, slot := 6, constantValue := 0 }, { name := "EMPTY_MAP", type := (.object "java/util/ImmutableCollections$MapN"), accessFlags := 24, slot := 7, constantValue := 0 }, { name := "EXPAND_FACTOR", type := .int, accessFlags := 24, slot := 8, constantValue := 0 }, { name := "$assertionsDisabled", type := .boolean, accessFlags := 4120, slot := 9, constantValue := 0 }]
  methods := #[k15m0, k15m1]
  instanceTypes := #[]
  staticTypes := #[.long, .boolean, (.array (.object "java/lang/Object")), (.object "java/lang/Object"), (.object "java/util/ImmutableCollections$ListN"), (.object "java/util/ImmutableCollections$ListN"), (.object "java/util/ImmutableCollections$SetN"), (.object "java/util/ImmutableCollections$MapN"), .int, .boolean]
  resolved := Array.replicate 213 none
  statics := some 1 }

def pool16 : Array CpInfo := pool [(1, .methodref 2 3), (0, .class_ 4), (0, .nameAndType 5 6), (0, u "java/util/AbstractCollection"), (0, u "<init>"), (0, u "()V"), (1, .class_ 10), (1, u "java/util/ImmutableCollections"), (2, .class_ 14), (0, u "java/util/ImmutableCollections$AbstractImmutableCollection")] 41

def k16c0 : Code := { maxStack := 1, maxLocals := 1, code := jdk_47_method_1_code, exceptionTable := #[], attributes := #[] }
def k16m0 : Method := { name := "<init>", desc := "()V", sig := { parameters := [], returnType := none }, accessFlags := 0, code := some k16c0 }
/-- java/util/ImmutableCollections$AbstractImmutableCollection -/
def k16 : Class := { plain "java/util/ImmutableCollections$AbstractImmutableCollection" (some 4) with
  accessFlags := 1056
  interfaces := #[]
  cf := some (fileOf pool16 13 #[.nestHost 8] #[{ accessFlags := 0, nameIndex := 5, descriptorIndex := 6, attributes := #[] }] 1056 2 #[] #[])
  fields := #[]
  methods := #[k16m0]
  instanceTypes := #[]
  staticTypes := #[]
  resolved := Array.replicate 56 none
  statics := none }

def pool17 : Array CpInfo := pool [(1, .methodref 2 3), (0, .class_ 4), (0, .nameAndType 5 6), (0, u "java/util/ImmutableCollections$AbstractImmutableCollection"), (0, u "<init>"), (0, u "()V"), (1, .class_ 10), (1, u "java/util/ImmutableCollections"), (3, .class_ 16), (1, u "java/util/ImmutableCollections$AbstractImmutableList"), (60, .class_ 78), (0, u "java/util/List"), (45, .class_ 125), (0, u "java/util/RandomAccess")] 70

def k17c0 : Code := { maxStack := 1, maxLocals := 1, code := jdk_46_method_1_code, exceptionTable := #[], attributes := #[] }
def k17m0 : Method := { name := "<init>", desc := "()V", sig := { parameters := [], returnType := none }, accessFlags := 0, code := some k17c0 }
/-- java/util/ImmutableCollections$AbstractImmutableList -/
def k17 : Class := { plain "java/util/ImmutableCollections$AbstractImmutableList" (some 16) with
  accessFlags := 1056
  interfaces := #[6, 8]
  cf := some (fileOf pool17 14 #[.nestHost 8] #[{ accessFlags := 0, nameIndex := 5, descriptorIndex := 6, attributes := #[] }] 1056 2 #[77, 124] #[])
  fields := #[]
  methods := #[k17m0]
  instanceTypes := #[]
  staticTypes := #[]
  resolved := Array.replicate 196 none
  statics := none }

def pool18 : Array CpInfo := pool [(1, .methodref 2 3), (0, .class_ 4), (0, .nameAndType 5 6), (0, u "java/util/ImmutableCollections$AbstractImmutableList"), (0, u "<init>"), (0, u "()V"), (0, .methodref 8 9), (0, .class_ 10), (0, .nameAndType 11 12), (0, u "java/util/Objects"), (0, u "requireNonNull"), (0, u "(Ljava/lang/Object;)Ljava/lang/Object;"), (0, .fieldref 14 15), (0, .class_ 16), (0, .nameAndType 17 18), (0, u "java/util/ImmutableCollections$List12"), (0, u "e0"), (0, u "Ljava/lang/Object;"), (0, .fieldref 20 21), (0, .class_ 22), (0, .nameAndType 23 18), (0, u "java/util/ImmutableCollections"), (0, u "EMPTY"), (0, .fieldref 14 25), (0, .nameAndType 26 18), (0, u "e1"), (43, .class_ 71), (0, u "java/io/Serializable"), (4, u "(Ljava/lang/Object;)V")] 48

def k18c0 : Code := { maxStack := 2, maxLocals := 2, code := jdk_44_method_1_code, exceptionTable := #[], attributes := #[] }
def k18m0 : Method := { name := "<init>", desc := "(Ljava/lang/Object;)V", sig := { parameters := [(.object "java/lang/Object")], returnType := none }, accessFlags := 0, code := some k18c0 }
/-- java/util/ImmutableCollections$List12 -/
def k18 : Class := { plain "java/util/ImmutableCollections$List12" (some 17) with
  accessFlags := 48
  interfaces := #[10]
  cf := some (fileOf pool18 14 #[.nestHost 20] #[{ accessFlags := 0, nameIndex := 5, descriptorIndex := 76, attributes := #[] }] 48 2 #[70] #[{ accessFlags := 18, nameIndex := 17, descriptorIndex := 18, attributes := #[] }, { accessFlags := 18, nameIndex := 26, descriptorIndex := 18, attributes := #[] }])
  fields := #[{ name := "e0", type := (.object "java/lang/Object"), accessFlags := 18, slot := 0, constantValue := 0 }, { name := "e1", type := (.object "java/lang/Object"), accessFlags := 18, slot := 1, constantValue := 0 }]
  methods := #[k18m0]
  instanceTypes := #[(.object "java/lang/Object"), (.object "java/lang/Object")]
  staticTypes := #[]
  resolved := Array.replicate 125 none
  statics := none }

def pool19 : Array CpInfo := pool [(2, .class_ 4), (1, u "java/util/ImmutableCollections$AbstractImmutableList"), (3, .class_ 10), (1, u "java/util/ImmutableCollections$ListN"), (0, u "elements"), (0, u "[Ljava/lang/Object;"), (2, u "allowNulls"), (0, u "Z"), (42, .class_ 60), (0, u "java/io/Serializable"), (53, .class_ 115), (0, u "java/util/ImmutableCollections")] 3

/-- java/util/ImmutableCollections$ListN -/
def k19 : Class := { plain "java/util/ImmutableCollections$ListN" (some 17) with
  accessFlags := 48
  interfaces := #[10]
  cf := some (fileOf pool19 8 #[.nestHost 114] #[] 48 2 #[59] #[{ accessFlags := 18, nameIndex := 11, descriptorIndex := 12, attributes := #[] }, { accessFlags := 18, nameIndex := 15, descriptorIndex := 16, attributes := #[] }])
  fields := #[{ name := "elements", type := (.array (.object "java/lang/Object")), accessFlags := 18, slot := 0, constantValue := 0 }, { name := "allowNulls", type := .boolean, accessFlags := 18, slot := 1, constantValue := 0 }]
  methods := #[]
  instanceTypes := #[(.array (.object "java/lang/Object")), .boolean]
  staticTypes := #[]
  resolved := Array.replicate 119 none
  statics := none }

def pool20 : Array CpInfo := pool [(1, .methodref 2 3), (0, .class_ 4), (0, .nameAndType 5 6), (0, u "java/lang/Record"), (0, u "<init>"), (0, u "()V"), (0, .interfaceMethodref 8 9), (0, .class_ 10), (0, .nameAndType 11 12), (0, u "java/util/List"), (0, u "copyOf"), (0, u "(Ljava/util/Collection;)Ljava/util/List;"), (0, .fieldref 14 15), (0, .class_ 16), (0, .nameAndType 17 18), (0, u "com/example/larder/larder/BooleanValue"), (0, u "value"), (0, u "Z"), (0, .fieldref 14 20), (0, .nameAndType 21 22), (0, u "annotations"), (0, u "Ljava/util/List;"), (0, .interfaceMethodref 8 24), (0, .nameAndType 25 26), (0, u "of"), (0, u "()Ljava/util/List;"), (0, .methodref 14 28), (0, .nameAndType 5 29), (0, u "(ZLjava/util/List;)V"), (2, u "TRUE"), (0, u "Lcom/example/larder/larder/BooleanValue;"), (2, u "FALSE"), (29, u "(Z)V"), (0, .class_ 68), (0, u "com/example/larder/larder/Value")] 39

def k20c0 : Code := { maxStack := 2, maxLocals := 3, code := prog_7_method_1_code, exceptionTable := #[], attributes := #[] }
def k20m0 : Method := { name := "<init>", desc := "(ZLjava/util/List;)V", sig := { parameters := [.boolean, (.object "java/util/List")], returnType := none }, accessFlags := 1, code := some k20c0 }
def k20c1 : Code := { maxStack := 3, maxLocals := 2, code := prog_7_method_2_code, exceptionTable := #[], attributes := #[] }
def k20m1 : Method := { name := "<init>", desc := "(Z)V", sig := { parameters := [.boolean], returnType := none }, accessFlags := 1, code := some k20c1 }
/-- com/example/larder/larder/BooleanValue -/
def k20 : Class := { plain "com/example/larder/larder/BooleanValue" (some 12) with
  accessFlags := 49
  interfaces := #[13]
  cf := some (fileOf pool20 14 #[] #[{ accessFlags := 1, nameIndex := 5, descriptorIndex := 29, attributes := #[] }, { accessFlags := 1, nameIndex := 5, descriptorIndex := 66, attributes := #[] }] 49 2 #[67] #[{ accessFlags := 18, nameIndex := 17, descriptorIndex := 18, attributes := #[] }, { accessFlags := 18, nameIndex := 21, descriptorIndex := 22, attributes := #[] }, { accessFlags := 25, nameIndex := 32, descriptorIndex := 33, attributes := #[] }, { accessFlags := 25, nameIndex := 36, descriptorIndex := 33, attributes := #[] }])
  fields := #[{ name := "value", type := .boolean, accessFlags := 18, slot := 0, constantValue := 0 }, { name := "annotations", type := (.object "java/util/List"), accessFlags := 18, slot := 1, constantValue := 0 }, { name := "TRUE", type := (.object "com/example/larder/larder/BooleanValue"), accessFlags := 25, slot := 0, constantValue := 0 }, { name := "FALSE", type := (.object "com/example/larder/larder/BooleanValue"), accessFlags := 25, slot := 1, constantValue := 0 }]
  methods := #[k20m0, k20m1]
  instanceTypes := #[.boolean, (.object "java/util/List")]
  staticTypes := #[(.object "com/example/larder/larder/BooleanValue"), (.object "com/example/larder/larder/BooleanValue")]
  resolved := Array.replicate 108 none
  statics := none }

def pool21 : Array CpInfo := pool [(1, .class_ 2), (0, u "java/lang/Math"), (1, .class_ 6), (1, u "java/lang/Object"), (0, u "<init>"), (0, u "()V"), (89, .class_ 100), (1, u "java/lang/Math$RandomNumberGeneratorHolder"), (71, u "negativeZeroFloatBits"), (0, u "J"), (2, u "negativeZeroDoubleBits"), (21, u "max"), (2, u "min"), (43, u "$assertionsDisabled"), (0, u "Z"), (88, u "(II)I"), (2, u "twoToTheDoubleScaleDown"), (0, u "D"), (4, u "twoToTheDoubleScaleUp"), (9, u "E"), (3, u "PI"), (2, u "TAU"), (2, u "DEGREES_TO_RADIANS"), (0, u "RADIANS_TO_DEGREES")] 94

def k21m0 : Method := { name := "<init>", desc := "()V", sig := { parameters := [], returnType := none }, accessFlags := 2, code := none }
def k21c1 : Code := { maxStack := 2, maxLocals := 2, code := jdk_29_method_65_code, exceptionTable := #[], attributes := #[] }
def k21m1 : Method := { name := "max", desc := "(II)I", sig := { parameters := [.int, .int], returnType := some .int }, accessFlags := 9, code := some k21c1 }
def k21c2 : Code := { maxStack := 2, maxLocals := 2, code := jdk_29_method_69_code, exceptionTable := #[], attributes := #[] }
def k21m2 : Method := { name := "min", desc := "(II)I", sig := { parameters := [.int, .int], returnType := some .int }, accessFlags := 9, code := some k21c2 }
/-- java/lang/Math -/
def k21 : Class := { plain "java/lang/Math" (some 0) with
  accessFlags := 49
  interfaces := #[]
  cf := some (fileOf pool21 1 #[.nestMembers #[98]] #[{ accessFlags := 2, nameIndex := 7, descriptorIndex := 8, attributes := #[] }, { accessFlags := 9, nameIndex := 198, descriptorIndex := 335, attributes := #[] }, { accessFlags := 9, nameIndex := 201, descriptorIndex := 335, attributes := #[] }] 49 4 #[] #[{ accessFlags := 25, nameIndex := 354, descriptorIndex := 339, attributes := #[] }, { accessFlags := 25, nameIndex := 358, descriptorIndex := 339, attributes := #[] }, { accessFlags := 25, nameIndex := 361, descriptorIndex := 339, attributes := #[] }, { accessFlags := 26, nameIndex := 364, descriptorIndex := 339, attributes := #[] }, { accessFlags := 26, nameIndex := 365, descriptorIndex := 339, attributes := #[] }, { accessFlags := 26, nameIndex := 172, descriptorIndex := 173, attributes := #[] }, { accessFlags := 26, nameIndex := 176, descriptorIndex := 173, attributes := #[] }, { accessFlags := 8, nameIndex := 344, descriptorIndex := 339, attributes := #[] }, { accessFlags := 8, nameIndex := 338, descriptorIndex := 339, attributes := #[] }, { accessFlags := 4120, nameIndex := 245, descriptorIndex := 246, attributes := #[] }])
  fields := #[{ name := "E", type := .double, accessFlags := 25, slot := 0, constantValue := 0 }, { name := "PI", type := .double, accessFlags := 25, slot := 1, constantValue := 0 }, { name := "TAU", type := .double, accessFlags := 25, slot := 2, constantValue := 0 }, { name := "DEGREES_TO_RADIANS", type := .double, accessFlags := 26, slot := 3, constantValue := 0 }, { name := "RADIANS_TO_DEGREES", type := .double, accessFlags := 26, slot := 4, constantValue := 0 }, { name := "negativeZeroFloatBits", type := .long, accessFlags := 26, slot := 5, constantValue := 0 }, { name := "negativeZeroDoubleBits", type := .long, accessFlags := 26, slot := 6, constantValue := 0 }, { name := "twoToTheDoubleScaleUp", type := .double, accessFlags := 8, slot := 7, constantValue := 0 }, { name := "twoToTheDoubleScaleDown", type := .double, accessFlags := 8, slot := 8, constantValue := 0 }, { name := "$assertionsDisabled", type := .boolean, accessFlags := 4120, slot := 9, constantValue := 0 }]
  methods := #[k21m0, k21m1, k21m2]
  instanceTypes := #[]
  staticTypes := #[.double, .double, .double, .double, .double, .long, .long, .double, .double, .boolean]
  resolved := Array.replicate 460 none
  statics := none }

def pool22 : Array CpInfo := pool [(2, .class_ 4), (1, u "java/lang/Object"), (0, u "<init>"), (0, u "()V"), (7, .class_ 16), (1, u "java/util/Arrays"), (57, .class_ 76), (1, u "java/util/Arrays$NaturalOrder"), (9, .methodref 2 87), (0, .nameAndType 88 89), (0, u "getClass"), (0, u "()Ljava/lang/Class;"), (20, .class_ 111), (0, u "[Ljava/lang/Object;"), (1, .class_ 115), (1, u "java/util/Arrays$LegacyMergeSort"), (1, u "Z"), (32, .methodref 151 152), (0, .class_ 153), (0, .nameAndType 154 155), (0, u "java/lang/System"), (0, u "arraycopy"), (0, u "(Ljava/lang/Object;ILjava/lang/Object;II)V"), (144, .methodref 14 301), (0, .nameAndType 302 303), (0, u "copyOf"), (0, u "([Ljava/lang/Object;ILjava/lang/Class;)[Ljava/lang/Object;"), (0, .methodref 305 306), (0, .class_ 307), (0, .nameAndType 308 309), (0, u "java/lang/Math"), (0, u "min"), (0, u "(II)I"), (65, .class_ 376), (0, u "java/util/Arrays$ArrayList"), (68, u "$assertionsDisabled"), (269, u "MIN_ARRAY_SORT_GRAN"), (0, u "I"), (2, u "INSERTIONSORT_THRESHOLD"), (140, u "([Ljava/lang/Object;I)[Ljava/lang/Object;"), (114, .class_ 976), (0, u "java/util/Arrays$ArrayItr")] 52

def k22m0 : Method := { name := "<init>", desc := "()V", sig := { parameters := [], returnType := none }, accessFlags := 2, code := none }
def k22c1 : Code := { maxStack := 3, maxLocals := 2, code := jdk_65_method_119_code, exceptionTable := #[], attributes := #[] }
def k22m1 : Method := { name := "copyOf", desc := "([Ljava/lang/Object;I)[Ljava/lang/Object;", sig := { parameters := [(.array (.object "java/lang/Object")), .int], returnType := some (.array (.object "java/lang/Object")) }, accessFlags := 9, code := some k22c1 }
def k22c2 : Code := { maxStack := 6, maxLocals := 4, code := jdk_65_method_120_code, exceptionTable := #[], attributes := #[] }
def k22m2 : Method := { name := "copyOf", desc := "([Ljava/lang/Object;ILjava/lang/Class;)[Ljava/lang/Object;", sig := { parameters := [(.array (.object "java/lang/Object")), .int, (.object "java/lang/Class")], returnType := some (.array (.object "java/lang/Object")) }, accessFlags := 9, code := some k22c2 }
/-- java/util/Arrays -/
def k22 : Class := { plain "java/util/Arrays" (some 0) with
  accessFlags := 49
  interfaces := #[]
  cf := some (fileOf pool22 14 #[.nestMembers #[975, 375, 113, 74]] #[{ accessFlags := 2, nameIndex := 5, descriptorIndex := 6, attributes := #[] }, { accessFlags := 9, nameIndex := 302, descriptorIndex := 860, attributes := #[] }, { accessFlags := 9, nameIndex := 302, descriptorIndex := 303, attributes := #[] }] 49 2 #[] #[{ accessFlags := 26, nameIndex := 715, descriptorIndex := 716, attributes := #[] }, { accessFlags := 26, nameIndex := 719, descriptorIndex := 716, attributes := #[] }, { accessFlags := 4120, nameIndex := 445, descriptorIndex := 117, attributes := #[] }])
  fields := #[{ name := "MIN_ARRAY_SORT_GRAN", type := .int, accessFlags := 26, slot := 0, constantValue := 0 }, { name := "INSERTIONSORT_THRESHOLD", type := .int, accessFlags := 26, slot := 1, constantValue := 0 }, { name := "$assertionsDisabled", type := .boolean, accessFlags := 4120, slot := 2, constantValue := 0 }]
  methods := #[k22m0, k22m1, k22m2]
  instanceTypes := #[]
  staticTypes := #[.int, .int, .boolean]
  resolved := Array.replicate 1029 none
  statics := none }

def pool23 : Array CpInfo := pool [(2, .class_ 4), (1, u "java/lang/Object"), (0, u "<init>"), (0, u "()V"), (1, .class_ 10), (1, u "java/lang/System"), (0, u "allowSecurityManager"), (0, u "I"), (16, u "cons"), (0, u "Ljava/io/Console;"), (77, .class_ 110), (1, u "java/lang/System$CallersHolder"), (43, u "initialErrStream"), (0, u "Ljava/io/PrintStream;"), (19, u "security"), (0, u "Ljava/lang/SecurityManager;"), (31, .class_ 209), (0, u "java/lang/System$1"), (7, u "props"), (0, u "Ljava/util/Properties;"), (2, u "lineSeparator"), (0, u "Ljava/lang/String;"), (96, .class_ 321), (1, u "java/lang/System$LoggerFinder"), (5, .class_ 328), (0, u "java/lang/System$Logger"), (67, u "err"), (2, u "out"), (91, u "notSupportedJnuEncoding"), (15, u "in"), (17, u "initialIn"), (0, u "Ljava/io/InputStream;"), (35, u "bootLayer"), (0, u "Ljava/lang/ModuleLayer;"), (99, .class_ 664), (0, u "java/lang/System$2"), (9, u "NEVER"), (2, u "MAYBE"), (49, u "arraycopy"), (0, u "(Ljava/lang/Object;ILjava/lang/Object;II)V"), (72, .class_ 802), (0, u "java/lang/System$Logger$Level")] 31

def k23m0 : Method := { name := "<init>", desc := "()V", sig := { parameters := [], returnType := none }, accessFlags := 2, code := none }
def k23m1 : Method := { name := "arraycopy", desc := "(Ljava/lang/Object;ILjava/lang/Object;II)V", sig := { parameters := [(.object "java/lang/Object"), .int, (.object "java/lang/Object"), .int, .int], returnType := none }, accessFlags := 265, code := none }
/-- java/lang/System -/
def k23 : Class := { plain "java/lang/System" (some 0) with
  accessFlags := 49
  interfaces := #[]
  cf := some (fileOf pool23 8 #[.nestMembers #[319, 327, 801, 108, 663, 208]] #[{ accessFlags := 2, nameIndex := 5, descriptorIndex := 6, attributes := #[] }, { accessFlags := 265, nameIndex := 727, descriptorIndex := 728, attributes := #[] }] 49 2 #[] #[{ accessFlags := 25, nameIndex := 507, descriptorIndex := 526, attributes := #[] }, { accessFlags := 25, nameIndex := 399, descriptorIndex := 155, attributes := #[] }, { accessFlags := 25, nameIndex := 396, descriptorIndex := 155, attributes := #[] }, { accessFlags := 10, nameIndex := 525, descriptorIndex := 526, attributes := #[] }, { accessFlags := 26, nameIndex := 674, descriptorIndex := 12, attributes := #[] }, { accessFlags := 26, nameIndex := 677, descriptorIndex := 12, attributes := #[] }, { accessFlags := 10, nameIndex := 11, descriptorIndex := 12, attributes := #[] }, { accessFlags := 74, nameIndex := 175, descriptorIndex := 176, attributes := #[] }, { accessFlags := 10, nameIndex := 491, descriptorIndex := 222, attributes := #[] }, { accessFlags := 74, nameIndex := 29, descriptorIndex := 30, attributes := #[] }, { accessFlags := 74, nameIndex := 154, descriptorIndex := 155, attributes := #[] }, { accessFlags := 10, nameIndex := 217, descriptorIndex := 218, attributes := #[] }, { accessFlags := 10, nameIndex := 221, descriptorIndex := 222, attributes := #[] }, { accessFlags := 8, nameIndex := 562, descriptorIndex := 563, attributes := #[] }])
  fields := #[{ name := "in", type := (.object "java/io/InputStream"), accessFlags := 25, slot := 0, constantValue := 0 }, { name := "out", type := (.object "java/io/PrintStream"), accessFlags := 25, slot := 1, constantValue := 0 }, { name := "err", type := (.object "java/io/PrintStream"), accessFlags := 25, slot := 2, constantValue := 0 }, { name := "initialIn", type := (.object "java/io/InputStream"), accessFlags := 10, slot := 3, constantValue := 0 }, { name := "NEVER", type := .int, accessFlags := 26, slot := 4, constantValue := 0 }, { name := "MAYBE", type := .int, accessFlags := 26, slot := 5, constantValue := 0 }, { name := "allowSecurityManager", type := .int, accessFlags := 10, slot := 6, constantValue := 0 }, { name := "security", type := (.object "java/lang/SecurityManager"), accessFlags := 74, slot := 7, constantValue := 0 }, { name := "notSupportedJnuEncoding", type := (.object "java/lang/String"), accessFlags := 10, slot := 8, constantValue := 0 }, { name := "cons", type := (.object "java/io/Console"), accessFlags := 74, slot := 9, constantValue := 0 }, { name := "initialErrStream", type := (.object "java/io/PrintStream"), accessFlags := 74, slot := 10, constantValue := 0 }, { name := "props", type := (.object "java/util/Properties"), accessFlags := 10, slot := 11, constantValue := 0 }, { name := "lineSeparator", type := (.object "java/lang/String"), accessFlags := 10, slot := 12, constantValue := 0 }, { name := "bootLayer", type := (.object "java/lang/ModuleLayer"), accessFlags := 8, slot := 13, constantValue := 0 }]
  methods := #[k23m0, k23m1]
  instanceTypes := #[]
  staticTypes := #[(.object "java/io/InputStream"), (.object "java/io/PrintStream"), (.object "java/io/PrintStream"), (.object "java/io/InputStream"), .int, .int, .int, (.object "java/lang/SecurityManager"), (.object "java/lang/String"), (.object "java/io/Console"), (.object "java/io/PrintStream"), (.object "java/util/Properties"), (.object "java/lang/String"), (.object "java/lang/ModuleLayer")]
  resolved := Array.replicate 834 none
  statics := none }

def pool24 : Array CpInfo := pool [(2, .class_ 4), (1, u "java/lang/Object"), (0, u "<init>"), (0, u "()V"), (35, .class_ 44), (1, u "java/util/Objects"), (0, u "requireNonNull"), (0, u "(Ljava/lang/Object;)Ljava/lang/Object;")] 137

def k24m0 : Method := { name := "<init>", desc := "()V", sig := { parameters := [], returnType := none }, accessFlags := 2, code := none }
def k24c1 : Code := { maxStack := 2, maxLocals := 1, code := jdk_31_method_10_code, exceptionTable := #[], attributes := #[] }
def k24m1 : Method := { name := "requireNonNull", desc := "(Ljava/lang/Object;)Ljava/lang/Object;", sig := { parameters := [(.object "java/lang/Object")], returnType := some (.object "java/lang/Object") }, accessFlags := 9, code := some k24c1 }
/-- java/util/Objects -/
def k24 : Class := { plain "java/util/Objects" (some 0) with
  accessFlags := 49
  interfaces := #[]
  cf := some (fileOf pool24 42 #[] #[{ accessFlags := 2, nameIndex := 5, descriptorIndex := 6, attributes := #[] }, { accessFlags := 9, nameIndex := 45, descriptorIndex := 46, attributes := #[] }] 49 2 #[] #[])
  fields := #[]
  methods := #[k24m0, k24m1]
  instanceTypes := #[]
  staticTypes := #[]
  resolved := Array.replicate 184 none
  statics := none }

def pool25 : Array CpInfo := pool [(1, .methodref 2 3), (0, .class_ 4), (0, .nameAndType 5 6), (0, u "java/lang/Object"), (0, u "<init>"), (0, u "()V"), (1, .class_ 10), (1, u "java/lang/Number"), (2, .class_ 14), (0, u "java/io/Serializable"), (0, u "serialVersionUID"), (0, u "J")] 20

def k25c0 : Code := { maxStack := 1, maxLocals := 1, code := jdk_18_method_1_code, exceptionTable := #[], attributes := #[] }
def k25m0 : Method := { name := "<init>", desc := "()V", sig := { parameters := [], returnType := none }, accessFlags := 1, code := some k25c0 }
/-- java/lang/Number -/
def k25 : Class := { plain "java/lang/Number" (some 0) with
  accessFlags := 1057
  interfaces := #[10]
  cf := some (fileOf pool25 8 #[] #[{ accessFlags := 1, nameIndex := 5, descriptorIndex := 6, attributes := #[] }] 1057 2 #[13] #[{ accessFlags := 26, nameIndex := 15, descriptorIndex := 16, attributes := #[] }])
  fields := #[{ name := "serialVersionUID", type := .long, accessFlags := 26, slot := 0, constantValue := 0 }]
  methods := #[k25m0]
  instanceTypes := #[]
  staticTypes := #[.long]
  resolved := Array.replicate 37 none
  statics := none }

def pool26 : Array CpInfo := pool [(1, .class_ 2), (0, u "java/lang/Comparable"), (0, .class_ 4), (0, u "java/lang/Object")] 7

/-- java/lang/Comparable -/
def k26 : Class := { plain "java/lang/Comparable" (some 0) with
  accessFlags := 1537
  interfaces := #[]
  cf := some (fileOf pool26 1 #[] #[] 1537 3 #[] #[])
  fields := #[]
  methods := #[]
  instanceTypes := #[]
  staticTypes := #[]
  resolved := Array.replicate 12 none
  statics := none }

def pool27 : Array CpInfo := pool [(1, .class_ 2), (0, u "java/lang/constant/Constable"), (0, .class_ 4), (0, u "java/lang/Object")] 6

/-- java/lang/constant/Constable -/
def k27 : Class := { plain "java/lang/constant/Constable" (some 0) with
  accessFlags := 1537
  interfaces := #[]
  cf := some (fileOf pool27 1 #[] #[] 1537 3 #[] #[])
  fields := #[]
  methods := #[]
  instanceTypes := #[]
  staticTypes := #[]
  resolved := Array.replicate 11 none
  statics := none }

def pool28 : Array CpInfo := pool [(1, .class_ 2), (0, u "java/lang/constant/ConstantDesc"), (0, .class_ 4), (0, u "java/lang/Object")] 32

/-- java/lang/constant/ConstantDesc -/
def k28 : Class := { plain "java/lang/constant/ConstantDesc" (some 0) with
  accessFlags := 1537
  interfaces := #[]
  cf := some (fileOf pool28 1 #[] #[] 1537 3 #[] #[])
  fields := #[]
  methods := #[]
  instanceTypes := #[]
  staticTypes := #[]
  resolved := Array.replicate 37 none
  statics := none }

def pool29 : Array CpInfo := pool [(1, .class_ 2), (0, u "java/lang/Long"), (55, .nameAndType 59 60), (0, u "<init>"), (0, u "()V"), (24, u "valueOf"), (143, u "(J)Ljava/lang/Long;"), (0, .long 18446744073709551488), (1, .long 127), (1, .fieldref 235 236), (0, .class_ 237), (0, .nameAndType 238 239), (0, u "java/lang/Long$LongCache"), (0, u "cache"), (0, u "[Ljava/lang/Long;"), (0, .methodref 1 241), (0, .nameAndType 59 242), (0, u "(J)V"), (27, .methodref 271 58), (0, .class_ 272), (0, u "java/lang/Number"), (0, .fieldref 1 274), (0, .nameAndType 275 276), (0, u "value"), (0, u "J"), (84, u "TYPE"), (0, u "Ljava/lang/Class;"), (0, .class_ 364), (0, u "java/lang/Comparable"), (0, .class_ 366), (0, u "java/lang/constant/Constable"), (0, .class_ 368), (0, u "java/lang/constant/ConstantDesc"), (0, u "MIN_VALUE"), (1, u "MAX_VALUE"), (4, u "SIZE"), (0, u "I"), (1, u "BYTES"), (1, u "serialVersionUID")] 142

def k29c0 : Code := { maxStack := 4, maxLocals := 3, code := jdk_35_method_24_code, exceptionTable := #[], attributes := #[] }
def k29m0 : Method := { name := "valueOf", desc := "(J)Ljava/lang/Long;", sig := { parameters := [.long], returnType := some (.object "java/lang/Long") }, accessFlags := 9, code := some k29c0 }
def k29c1 : Code := { maxStack := 3, maxLocals := 3, code := jdk_35_method_26_code, exceptionTable := #[], attributes := #[] }
def k29m1 : Method := { name := "<init>", desc := "(J)V", sig := { parameters := [.long], returnType := none }, accessFlags := 1, code := some k29c1 }
/-- java/lang/Long -/
def k29 : Class := { plain "java/lang/Long" (some 25) with
  accessFlags := 49
  interfaces := #[26, 27, 28]
  cf := some (fileOf pool29 1 #[.nestMembers #[235]] #[{ accessFlags := 9, nameIndex := 85, descriptorIndex := 229, attributes := #[] }, { accessFlags := 1, nameIndex := 59, descriptorIndex := 242, attributes := #[] }] 49 271 #[363, 365, 367] #[{ accessFlags := 25, nameIndex := 369, descriptorIndex := 276, attributes := #[] }, { accessFlags := 25, nameIndex := 371, descriptorIndex := 276, attributes := #[] }, { accessFlags := 25, nameIndex := 361, descriptorIndex := 362, attributes := #[] }, { accessFlags := 18, nameIndex := 275, descriptorIndex := 276, attributes := #[] }, { accessFlags := 25, nameIndex := 376, descriptorIndex := 377, attributes := #[] }, { accessFlags := 25, nameIndex := 379, descriptorIndex := 377, attributes := #[] }, { accessFlags := 26, nameIndex := 381, descriptorIndex := 276, attributes := #[] }])
  fields := #[{ name := "MIN_VALUE", type := .long, accessFlags := 25, slot := 0, constantValue := 0 }, { name := "MAX_VALUE", type := .long, accessFlags := 25, slot := 1, constantValue := 0 }, { name := "TYPE", type := (.object "java/lang/Class"), accessFlags := 25, slot := 2, constantValue := 0 }, { name := "value", type := .long, accessFlags := 18, slot := 0, constantValue := 0 }, { name := "SIZE", type := .int, accessFlags := 25, slot := 3, constantValue := 0 }, { name := "BYTES", type := .int, accessFlags := 25, slot := 4, constantValue := 0 }, { name := "serialVersionUID", type := .long, accessFlags := 26, slot := 5, constantValue := 0 }]
  methods := #[k29m0, k29m1]
  instanceTypes := #[.long]
  staticTypes := #[.long, .long, (.object "java/lang/Class"), .int, .int, .long]
  resolved := Array.replicate 524 none
  statics := none }

def pool30 : Array CpInfo := pool [(2, .class_ 4), (1, u "java/lang/Object"), (0, u "<init>"), (0, u "()V"), (0, .class_ 8), (0, u "java/lang/Long"), (7, .class_ 18), (1, u "java/lang/Long$LongCache"), (0, u "$assertionsDisabled"), (0, u "Z"), (8, u "archivedCache"), (0, u "[Ljava/lang/Long;"), (7, u "cache")] 24

def k30m0 : Method := { name := "<init>", desc := "()V", sig := { parameters := [], returnType := none }, accessFlags := 2, code := none }
/-- java/lang/Long$LongCache -/
def k30 : Class := { plain "java/lang/Long$LongCache" (some 0) with
  accessFlags := 48
  interfaces := #[]
  cf := some (fileOf pool30 16 #[.nestHost 7] #[{ accessFlags := 2, nameIndex := 5, descriptorIndex := 6, attributes := #[] }] 48 2 #[] #[{ accessFlags := 24, nameIndex := 38, descriptorIndex := 30, attributes := #[] }, { accessFlags := 8, nameIndex := 29, descriptorIndex := 30, attributes := #[] }, { accessFlags := 4120, nameIndex := 19, descriptorIndex := 20, attributes := #[] }])
  fields := #[{ name := "cache", type := (.array (.object "java/lang/Long")), accessFlags := 24, slot := 0, constantValue := 0 }, { name := "archivedCache", type := (.array (.object "java/lang/Long")), accessFlags := 8, slot := 1, constantValue := 0 }, { name := "$assertionsDisabled", type := .boolean, accessFlags := 4120, slot := 2, constantValue := 0 }]
  methods := #[k30m0]
  instanceTypes := #[]
  staticTypes := #[(.array (.object "java/lang/Long")), (.array (.object "java/lang/Long")), .boolean]
  resolved := Array.replicate 63 none
  statics := some 2 }

def pool31 : Array CpInfo := pool [(1, u "java/lang/Class"), (0, .class_ 1), (0, u "java/lang/Object"), (0, .class_ 3)] 3

/-- java/lang/Class -/
def k31 : Class := { plain "java/lang/Class" (some 0) with
  accessFlags := 49
  interfaces := #[]
  cf := some (fileOf pool31 2 #[] #[] 49 4 #[] #[])
  fields := #[]
  methods := #[]
  instanceTypes := #[]
  staticTypes := #[]
  resolved := Array.replicate 8 none
  statics := none }

/-- the primitive byte -/
def k32 : Class := { plain "byte" none with kind := .primitive 'B', accessFlags := 0x411 }
/-- [B -/
def k33 : Class := { plain "[B" (some 0) with kind := .array 32 .byte, interfaces := #[9, 10], accessFlags := 1041 }

/-- the primitive int -/
def k34 : Class := { plain "int" none with kind := .primitive 'I', accessFlags := 0x411 }
/-- [I -/
def k35 : Class := { plain "[I" (some 0) with kind := .array 34 .int, interfaces := #[9, 10], accessFlags := 1041 }

/-- [Ljava/lang/Long; -/
def k36 : Class := { plain "[Ljava/lang/Long;" (some 0) with kind := .array 29 (.object "java/lang/Long"), interfaces := #[9, 10], accessFlags := 1041 }

/-- [Ljava/lang/Object; -/
def k37 : Class := { plain "[Ljava/lang/Object;" (some 0) with kind := .array 0 (.object "java/lang/Object"), interfaces := #[9, 10], accessFlags := 1041, mirror := some 3 }

def heap : Heap := #[{ cls := 11, slots := #[.long 0, .int 0, .ref 261, .ref 262], vm := .statics 11 },
  { cls := 15, slots := #[.long 0, .int 0, .null, .ref 264, .ref 263, .null, .null, .null, .int 0, .int 1], vm := .statics 15 },
  { cls := 30, slots := #[.ref 4, .null, .int 0], vm := .statics 30 },
  { cls := 31, slots := #[], vm := .mirror 37 },
  { cls := 36, slots := #[.ref 5, .ref 6, .ref 7, .ref 8, .ref 9, .ref 10, .ref 11, .ref 12, .ref 13, .ref 14, .ref 15, .ref 16, .ref 17, .ref 18, .ref 19, .ref 20, .ref 21, .ref 22, .ref 23, .ref 24, .ref 25, .ref 26, .ref 27, .ref 28, .ref 29, .ref 30, .ref 31, .ref 32, .ref 33, .ref 34, .ref 35, .ref 36, .ref 37, .ref 38, .ref 39, .ref 40, .ref 41, .ref 42, .ref 43, .ref 44, .ref 45, .ref 46, .ref 47, .ref 48, .ref 49, .ref 50, .ref 51, .ref 52, .ref 53, .ref 54, .ref 55, .ref 56, .ref 57, .ref 58, .ref 59, .ref 60, .ref 61, .ref 62, .ref 63, .ref 64, .ref 65, .ref 66, .ref 67, .ref 68, .ref 69, .ref 70, .ref 71, .ref 72, .ref 73, .ref 74, .ref 75, .ref 76, .ref 77, .ref 78, .ref 79, .ref 80, .ref 81, .ref 82, .ref 83, .ref 84, .ref 85, .ref 86, .ref 87, .ref 88, .ref 89, .ref 90, .ref 91, .ref 92, .ref 93, .ref 94, .ref 95, .ref 96, .ref 97, .ref 98, .ref 99, .ref 100, .ref 101, .ref 102, .ref 103, .ref 104, .ref 105, .ref 106, .ref 107, .ref 108, .ref 109, .ref 110, .ref 111, .ref 112, .ref 113, .ref 114, .ref 115, .ref 116, .ref 117, .ref 118, .ref 119, .ref 120, .ref 121, .ref 122, .ref 123, .ref 124, .ref 125, .ref 126, .ref 127, .ref 128, .ref 129, .ref 130, .ref 131, .ref 132, .ref 133, .ref 134, .ref 135, .ref 136, .ref 137, .ref 138, .ref 139, .ref 140, .ref 141, .ref 142, .ref 143, .ref 144, .ref 145, .ref 146, .ref 147, .ref 148, .ref 149, .ref 150, .ref 151, .ref 152, .ref 153, .ref 154, .ref 155, .ref 156, .ref 157, .ref 158, .ref 159, .ref 160, .ref 161, .ref 162, .ref 163, .ref 164, .ref 165, .ref 166, .ref 167, .ref 168, .ref 169, .ref 170, .ref 171, .ref 172, .ref 173, .ref 174, .ref 175, .ref 176, .ref 177, .ref 178, .ref 179, .ref 180, .ref 181, .ref 182, .ref 183, .ref 184, .ref 185, .ref 186, .ref 187, .ref 188, .ref 189, .ref 190, .ref 191, .ref 192, .ref 193, .ref 194, .ref 195, .ref 196, .ref 197, .ref 198, .ref 199, .ref 200, .ref 201, .ref 202, .ref 203, .ref 204, .ref 205, .ref 206, .ref 207, .ref 208, .ref 209, .ref 210, .ref 211, .ref 212, .ref 213, .ref 214, .ref 215, .ref 216, .ref 217, .ref 218, .ref 219, .ref 220, .ref 221, .ref 222, .ref 223, .ref 224, .ref 225, .ref 226, .ref 227, .ref 228, .ref 229, .ref 230, .ref 231, .ref 232, .ref 233, .ref 234, .ref 235, .ref 236, .ref 237, .ref 238, .ref 239, .ref 240, .ref 241, .ref 242, .ref 243, .ref 244, .ref 245, .ref 246, .ref 247, .ref 248, .ref 249, .ref 250, .ref 251, .ref 252, .ref 253, .ref 254, .ref 255, .ref 256, .ref 257, .ref 258, .ref 259, .ref 260], vm := .none },
  { cls := 29, slots := #[.long (-128)], vm := .none },
  { cls := 29, slots := #[.long (-127)], vm := .none },
  { cls := 29, slots := #[.long (-126)], vm := .none },
  { cls := 29, slots := #[.long (-125)], vm := .none },
  { cls := 29, slots := #[.long (-124)], vm := .none },
  { cls := 29, slots := #[.long (-123)], vm := .none },
  { cls := 29, slots := #[.long (-122)], vm := .none },
  { cls := 29, slots := #[.long (-121)], vm := .none },
  { cls := 29, slots := #[.long (-120)], vm := .none },
  { cls := 29, slots := #[.long (-119)], vm := .none },
  { cls := 29, slots := #[.long (-118)], vm := .none },
  { cls := 29, slots := #[.long (-117)], vm := .none },
  { cls := 29, slots := #[.long (-116)], vm := .none },
  { cls := 29, slots := #[.long (-115)], vm := .none },
  { cls := 29, slots := #[.long (-114)], vm := .none },
  { cls := 29, slots := #[.long (-113)], vm := .none },
  { cls := 29, slots := #[.long (-112)], vm := .none },
  { cls := 29, slots := #[.long (-111)], vm := .none },
  { cls := 29, slots := #[.long (-110)], vm := .none },
  { cls := 29, slots := #[.long (-109)], vm := .none },
  { cls := 29, slots := #[.long (-108)], vm := .none },
  { cls := 29, slots := #[.long (-107)], vm := .none },
  { cls := 29, slots := #[.long (-106)], vm := .none },
  { cls := 29, slots := #[.long (-105)], vm := .none },
  { cls := 29, slots := #[.long (-104)], vm := .none },
  { cls := 29, slots := #[.long (-103)], vm := .none },
  { cls := 29, slots := #[.long (-102)], vm := .none },
  { cls := 29, slots := #[.long (-101)], vm := .none },
  { cls := 29, slots := #[.long (-100)], vm := .none },
  { cls := 29, slots := #[.long (-99)], vm := .none },
  { cls := 29, slots := #[.long (-98)], vm := .none },
  { cls := 29, slots := #[.long (-97)], vm := .none },
  { cls := 29, slots := #[.long (-96)], vm := .none },
  { cls := 29, slots := #[.long (-95)], vm := .none },
  { cls := 29, slots := #[.long (-94)], vm := .none },
  { cls := 29, slots := #[.long (-93)], vm := .none },
  { cls := 29, slots := #[.long (-92)], vm := .none },
  { cls := 29, slots := #[.long (-91)], vm := .none },
  { cls := 29, slots := #[.long (-90)], vm := .none },
  { cls := 29, slots := #[.long (-89)], vm := .none },
  { cls := 29, slots := #[.long (-88)], vm := .none },
  { cls := 29, slots := #[.long (-87)], vm := .none },
  { cls := 29, slots := #[.long (-86)], vm := .none },
  { cls := 29, slots := #[.long (-85)], vm := .none },
  { cls := 29, slots := #[.long (-84)], vm := .none },
  { cls := 29, slots := #[.long (-83)], vm := .none },
  { cls := 29, slots := #[.long (-82)], vm := .none },
  { cls := 29, slots := #[.long (-81)], vm := .none },
  { cls := 29, slots := #[.long (-80)], vm := .none },
  { cls := 29, slots := #[.long (-79)], vm := .none },
  { cls := 29, slots := #[.long (-78)], vm := .none },
  { cls := 29, slots := #[.long (-77)], vm := .none },
  { cls := 29, slots := #[.long (-76)], vm := .none },
  { cls := 29, slots := #[.long (-75)], vm := .none },
  { cls := 29, slots := #[.long (-74)], vm := .none },
  { cls := 29, slots := #[.long (-73)], vm := .none },
  { cls := 29, slots := #[.long (-72)], vm := .none },
  { cls := 29, slots := #[.long (-71)], vm := .none },
  { cls := 29, slots := #[.long (-70)], vm := .none },
  { cls := 29, slots := #[.long (-69)], vm := .none },
  { cls := 29, slots := #[.long (-68)], vm := .none },
  { cls := 29, slots := #[.long (-67)], vm := .none },
  { cls := 29, slots := #[.long (-66)], vm := .none },
  { cls := 29, slots := #[.long (-65)], vm := .none },
  { cls := 29, slots := #[.long (-64)], vm := .none },
  { cls := 29, slots := #[.long (-63)], vm := .none },
  { cls := 29, slots := #[.long (-62)], vm := .none },
  { cls := 29, slots := #[.long (-61)], vm := .none },
  { cls := 29, slots := #[.long (-60)], vm := .none },
  { cls := 29, slots := #[.long (-59)], vm := .none },
  { cls := 29, slots := #[.long (-58)], vm := .none },
  { cls := 29, slots := #[.long (-57)], vm := .none },
  { cls := 29, slots := #[.long (-56)], vm := .none },
  { cls := 29, slots := #[.long (-55)], vm := .none },
  { cls := 29, slots := #[.long (-54)], vm := .none },
  { cls := 29, slots := #[.long (-53)], vm := .none },
  { cls := 29, slots := #[.long (-52)], vm := .none },
  { cls := 29, slots := #[.long (-51)], vm := .none },
  { cls := 29, slots := #[.long (-50)], vm := .none },
  { cls := 29, slots := #[.long (-49)], vm := .none },
  { cls := 29, slots := #[.long (-48)], vm := .none },
  { cls := 29, slots := #[.long (-47)], vm := .none },
  { cls := 29, slots := #[.long (-46)], vm := .none },
  { cls := 29, slots := #[.long (-45)], vm := .none },
  { cls := 29, slots := #[.long (-44)], vm := .none },
  { cls := 29, slots := #[.long (-43)], vm := .none },
  { cls := 29, slots := #[.long (-42)], vm := .none },
  { cls := 29, slots := #[.long (-41)], vm := .none },
  { cls := 29, slots := #[.long (-40)], vm := .none },
  { cls := 29, slots := #[.long (-39)], vm := .none },
  { cls := 29, slots := #[.long (-38)], vm := .none },
  { cls := 29, slots := #[.long (-37)], vm := .none },
  { cls := 29, slots := #[.long (-36)], vm := .none },
  { cls := 29, slots := #[.long (-35)], vm := .none },
  { cls := 29, slots := #[.long (-34)], vm := .none },
  { cls := 29, slots := #[.long (-33)], vm := .none },
  { cls := 29, slots := #[.long (-32)], vm := .none },
  { cls := 29, slots := #[.long (-31)], vm := .none },
  { cls := 29, slots := #[.long (-30)], vm := .none },
  { cls := 29, slots := #[.long (-29)], vm := .none },
  { cls := 29, slots := #[.long (-28)], vm := .none },
  { cls := 29, slots := #[.long (-27)], vm := .none },
  { cls := 29, slots := #[.long (-26)], vm := .none },
  { cls := 29, slots := #[.long (-25)], vm := .none },
  { cls := 29, slots := #[.long (-24)], vm := .none },
  { cls := 29, slots := #[.long (-23)], vm := .none },
  { cls := 29, slots := #[.long (-22)], vm := .none },
  { cls := 29, slots := #[.long (-21)], vm := .none },
  { cls := 29, slots := #[.long (-20)], vm := .none },
  { cls := 29, slots := #[.long (-19)], vm := .none },
  { cls := 29, slots := #[.long (-18)], vm := .none },
  { cls := 29, slots := #[.long (-17)], vm := .none },
  { cls := 29, slots := #[.long (-16)], vm := .none },
  { cls := 29, slots := #[.long (-15)], vm := .none },
  { cls := 29, slots := #[.long (-14)], vm := .none },
  { cls := 29, slots := #[.long (-13)], vm := .none },
  { cls := 29, slots := #[.long (-12)], vm := .none },
  { cls := 29, slots := #[.long (-11)], vm := .none },
  { cls := 29, slots := #[.long (-10)], vm := .none },
  { cls := 29, slots := #[.long (-9)], vm := .none },
  { cls := 29, slots := #[.long (-8)], vm := .none },
  { cls := 29, slots := #[.long (-7)], vm := .none },
  { cls := 29, slots := #[.long (-6)], vm := .none },
  { cls := 29, slots := #[.long (-5)], vm := .none },
  { cls := 29, slots := #[.long (-4)], vm := .none },
  { cls := 29, slots := #[.long (-3)], vm := .none },
  { cls := 29, slots := #[.long (-2)], vm := .none },
  { cls := 29, slots := #[.long (-1)], vm := .none },
  { cls := 29, slots := #[.long 0], vm := .none },
  { cls := 29, slots := #[.long 1], vm := .none },
  { cls := 29, slots := #[.long 2], vm := .none },
  { cls := 29, slots := #[.long 3], vm := .none },
  { cls := 29, slots := #[.long 4], vm := .none },
  { cls := 29, slots := #[.long 5], vm := .none },
  { cls := 29, slots := #[.long 6], vm := .none },
  { cls := 29, slots := #[.long 7], vm := .none },
  { cls := 29, slots := #[.long 8], vm := .none },
  { cls := 29, slots := #[.long 9], vm := .none },
  { cls := 29, slots := #[.long 10], vm := .none },
  { cls := 29, slots := #[.long 11], vm := .none },
  { cls := 29, slots := #[.long 12], vm := .none },
  { cls := 29, slots := #[.long 13], vm := .none },
  { cls := 29, slots := #[.long 14], vm := .none },
  { cls := 29, slots := #[.long 15], vm := .none },
  { cls := 29, slots := #[.long 16], vm := .none },
  { cls := 29, slots := #[.long 17], vm := .none },
  { cls := 29, slots := #[.long 18], vm := .none },
  { cls := 29, slots := #[.long 19], vm := .none },
  { cls := 29, slots := #[.long 20], vm := .none },
  { cls := 29, slots := #[.long 21], vm := .none },
  { cls := 29, slots := #[.long 22], vm := .none },
  { cls := 29, slots := #[.long 23], vm := .none },
  { cls := 29, slots := #[.long 24], vm := .none },
  { cls := 29, slots := #[.long 25], vm := .none },
  { cls := 29, slots := #[.long 26], vm := .none },
  { cls := 29, slots := #[.long 27], vm := .none },
  { cls := 29, slots := #[.long 28], vm := .none },
  { cls := 29, slots := #[.long 29], vm := .none },
  { cls := 29, slots := #[.long 30], vm := .none },
  { cls := 29, slots := #[.long 31], vm := .none },
  { cls := 29, slots := #[.long 32], vm := .none },
  { cls := 29, slots := #[.long 33], vm := .none },
  { cls := 29, slots := #[.long 34], vm := .none },
  { cls := 29, slots := #[.long 35], vm := .none },
  { cls := 29, slots := #[.long 36], vm := .none },
  { cls := 29, slots := #[.long 37], vm := .none },
  { cls := 29, slots := #[.long 38], vm := .none },
  { cls := 29, slots := #[.long 39], vm := .none },
  { cls := 29, slots := #[.long 40], vm := .none },
  { cls := 29, slots := #[.long 41], vm := .none },
  { cls := 29, slots := #[.long 42], vm := .none },
  { cls := 29, slots := #[.long 43], vm := .none },
  { cls := 29, slots := #[.long 44], vm := .none },
  { cls := 29, slots := #[.long 45], vm := .none },
  { cls := 29, slots := #[.long 46], vm := .none },
  { cls := 29, slots := #[.long 47], vm := .none },
  { cls := 29, slots := #[.long 48], vm := .none },
  { cls := 29, slots := #[.long 49], vm := .none },
  { cls := 29, slots := #[.long 50], vm := .none },
  { cls := 29, slots := #[.long 51], vm := .none },
  { cls := 29, slots := #[.long 52], vm := .none },
  { cls := 29, slots := #[.long 53], vm := .none },
  { cls := 29, slots := #[.long 54], vm := .none },
  { cls := 29, slots := #[.long 55], vm := .none },
  { cls := 29, slots := #[.long 56], vm := .none },
  { cls := 29, slots := #[.long 57], vm := .none },
  { cls := 29, slots := #[.long 58], vm := .none },
  { cls := 29, slots := #[.long 59], vm := .none },
  { cls := 29, slots := #[.long 60], vm := .none },
  { cls := 29, slots := #[.long 61], vm := .none },
  { cls := 29, slots := #[.long 62], vm := .none },
  { cls := 29, slots := #[.long 63], vm := .none },
  { cls := 29, slots := #[.long 64], vm := .none },
  { cls := 29, slots := #[.long 65], vm := .none },
  { cls := 29, slots := #[.long 66], vm := .none },
  { cls := 29, slots := #[.long 67], vm := .none },
  { cls := 29, slots := #[.long 68], vm := .none },
  { cls := 29, slots := #[.long 69], vm := .none },
  { cls := 29, slots := #[.long 70], vm := .none },
  { cls := 29, slots := #[.long 71], vm := .none },
  { cls := 29, slots := #[.long 72], vm := .none },
  { cls := 29, slots := #[.long 73], vm := .none },
  { cls := 29, slots := #[.long 74], vm := .none },
  { cls := 29, slots := #[.long 75], vm := .none },
  { cls := 29, slots := #[.long 76], vm := .none },
  { cls := 29, slots := #[.long 77], vm := .none },
  { cls := 29, slots := #[.long 78], vm := .none },
  { cls := 29, slots := #[.long 79], vm := .none },
  { cls := 29, slots := #[.long 80], vm := .none },
  { cls := 29, slots := #[.long 81], vm := .none },
  { cls := 29, slots := #[.long 82], vm := .none },
  { cls := 29, slots := #[.long 83], vm := .none },
  { cls := 29, slots := #[.long 84], vm := .none },
  { cls := 29, slots := #[.long 85], vm := .none },
  { cls := 29, slots := #[.long 86], vm := .none },
  { cls := 29, slots := #[.long 87], vm := .none },
  { cls := 29, slots := #[.long 88], vm := .none },
  { cls := 29, slots := #[.long 89], vm := .none },
  { cls := 29, slots := #[.long 90], vm := .none },
  { cls := 29, slots := #[.long 91], vm := .none },
  { cls := 29, slots := #[.long 92], vm := .none },
  { cls := 29, slots := #[.long 93], vm := .none },
  { cls := 29, slots := #[.long 94], vm := .none },
  { cls := 29, slots := #[.long 95], vm := .none },
  { cls := 29, slots := #[.long 96], vm := .none },
  { cls := 29, slots := #[.long 97], vm := .none },
  { cls := 29, slots := #[.long 98], vm := .none },
  { cls := 29, slots := #[.long 99], vm := .none },
  { cls := 29, slots := #[.long 100], vm := .none },
  { cls := 29, slots := #[.long 101], vm := .none },
  { cls := 29, slots := #[.long 102], vm := .none },
  { cls := 29, slots := #[.long 103], vm := .none },
  { cls := 29, slots := #[.long 104], vm := .none },
  { cls := 29, slots := #[.long 105], vm := .none },
  { cls := 29, slots := #[.long 106], vm := .none },
  { cls := 29, slots := #[.long 107], vm := .none },
  { cls := 29, slots := #[.long 108], vm := .none },
  { cls := 29, slots := #[.long 109], vm := .none },
  { cls := 29, slots := #[.long 110], vm := .none },
  { cls := 29, slots := #[.long 111], vm := .none },
  { cls := 29, slots := #[.long 112], vm := .none },
  { cls := 29, slots := #[.long 113], vm := .none },
  { cls := 29, slots := #[.long 114], vm := .none },
  { cls := 29, slots := #[.long 115], vm := .none },
  { cls := 29, slots := #[.long 116], vm := .none },
  { cls := 29, slots := #[.long 117], vm := .none },
  { cls := 29, slots := #[.long 118], vm := .none },
  { cls := 29, slots := #[.long 119], vm := .none },
  { cls := 29, slots := #[.long 120], vm := .none },
  { cls := 29, slots := #[.long 121], vm := .none },
  { cls := 29, slots := #[.long 122], vm := .none },
  { cls := 29, slots := #[.long 123], vm := .none },
  { cls := 29, slots := #[.long 124], vm := .none },
  { cls := 29, slots := #[.long 125], vm := .none },
  { cls := 29, slots := #[.long 126], vm := .none },
  { cls := 29, slots := #[.long 127], vm := .none },
  { cls := 37, slots := #[], vm := .none },
  { cls := 37, slots := #[], vm := .none },
  { cls := 19, slots := #[.ref 261, .int 0], vm := .none },
  { cls := 0, slots := #[], vm := .none }]
def classes : Array Class := #[k0, k1, k2, k3, k4, k5, k6, k7, k8, k9, k10, k11, k12, k13, k14, k15, k16, k17, k18, k19, k20, k21, k22, k23, k24, k25, k26, k27, k28, k29, k30, k31, k32, k33, k34, k35, k36, k37]
def interned : List (Array UInt16 × Addr) := []
def slotsUsed : Nat := 531
def theMethod : MethodId := ⟨1, 1⟩
def args0 : Array Value := #[.long 5, .long 5, .int 0]
def aboutOver (below : List Frame) : State where
  vm := { classes := classes, interned := interned.toArray }
  heap := heap
  slotsUsed := slotsUsed
  threads := #[{ frames := .invoking theMethod args0 :: below }]
def below0 : List Frame := [.native { method := ⟨0, 0⟩, args := #[] }]
def about1 : State := aboutOver below0
def p0 : Program := .bare "" "" ""
def e0 : Env := launch0.env 0 0 0
theorem w_frames : about1.frames = Frame.invoking theMethod args0 :: below0 := rfl
set_option maxRecDepth 65536 in
theorem w_args : argsFit about1.vm theMethod args0 = true := by decide +kernel
set_option maxRecDepth 65536 in
theorem w_heap : heapFits about1 = true := by decide +kernel
set_option maxRecDepth 65536 in
theorem w_runnable : about1.curStatus? = some .runnable := by decide +kernel
set_option maxRecDepth 65536 in
theorem w_alone : about1.alone = true := by decide +kernel
set_option maxRecDepth 65536 in
theorem w_named : about1.methodNamed? x = some theMethod := by decide +kernel
set_option maxRecDepth 65536 in
theorem w_hears : about1.hears theMethod below0 = true := by decide +kernel
set_option maxRecDepth 65536 in
theorem w_ripe : about1.ripe theMethod args0 below0 = true := by decide +kernel
theorem w_running : about1.status = .running := rfl
set_option maxRecDepth 65536 in
theorem w_room : about1.hasRoom e0.platform room_1 = true :=
  launch0.hasRoom_least _ room_1 (by decide +kernel) (by decide +kernel) (by decide +kernel) (by decide +kernel) (by decide +kernel) (by decide +kernel)
theorem allAtoms_all (ts : List Jvm.Cond) (a : Array Jvm.Value) (st : Jvm.State) : (allAtoms ts).before a st = ts.all (fun c => c.before a st) := by
  induction ts with
  | nil => rfl
  | cons c t ih =>
    show (Jvm.Cond.and c (allAtoms t)).before a st = _
    rw [Jvm.Cond.before_and, ih, List.all_cons]
def words1 : List Jvm.Cond := Jvm.Cond.code x code maxLocals ret :: tables_1
/-- a 'code' word, met by the world's own term for the bytes: nothing is compared byte by byte -/
theorem code_word {y : MethodName} {bytes : ByteArray} {mx : Nat} {rt : Option FieldType} {a : Array Value} {s : State} {m : MethodId} {meth : Method} {c : Code} (h1 : s.methodNamed? y = some m) (h2 : s.vm.method? m = some meth) (h3 : meth.code = some c) (h4 : c.code = bytes)
    (h5 : (c.maxLocals == mx && c.exceptionTable.isEmpty && decide (c.maxStack ≤ mostOperands) && decide (meth.sig.returnType = rt) && !meth.locks && decide (parseMethodDescriptor y.desc = some meth.sig)) = true) : (Jvm.Cond.code y bytes mx rt).before a s = true := by
  simp only [Bool.and_eq_true, beq_iff_eq, Bool.not_eq_true', decide_eq_true_eq] at h5
  obtain ⟨⟨⟨⟨⟨g1, g2⟩, g3⟩, g4⟩, g5⟩, g6⟩ := h5
  simp [Cond.before, Cond.holds, Cond.value, h1, h2, h3, h4, g1, g2, g3, g4, g5, g6]
def isCode : Jvm.Cond → Bool
  | .code _ _ _ _ => true
  | _ => false
theorem all_split {L : List Jvm.Cond} {P : Jvm.Cond → Bool} (h1 : L.all (fun c => isCode c || P c) = true) (h2 : ∀ c ∈ L.filter isCode, P c = true) : L.all P = true := by
  refine List.all_eq_true.mpr fun c hc => ?_
  have h := List.all_eq_true.mp h1 c hc
  rcases Bool.eq_false_or_eq_true (isCode c) with hi | hi
  · exact h2 c (List.mem_filter.mpr ⟨hc, hi⟩)
  · simpa [hi] using h
set_option maxRecDepth 65536 in
theorem w_c0 : (Jvm.Cond.code x code maxLocals ret).before args0 about1 = true := code_word (m := ⟨1, 1⟩) (meth := k1m1) (c := k1c1) (by decide +kernel) rfl rfl rfl (by decide +kernel)
set_option maxRecDepth 65536 in
theorem w_c1 : (Jvm.Cond.code ({ cls := "java/util/ArrayList", name := "<init>", desc := "()V" } : Jvm.MethodName) jdk_38_method_2_code (1 : Nat) (Option.none : Option Jvm.ClassFile.FieldType)).before args0 about1 = true := code_word (m := ⟨11, 0⟩) (meth := k11m0) (c := k11c0) (by decide +kernel) rfl rfl rfl (by decide +kernel)
set_option maxRecDepth 65536 in
theorem w_c2 : (Jvm.Cond.code ({ cls := "java/util/AbstractList", name := "<init>", desc := "()V" } : Jvm.MethodName) jdk_39_method_1_code (1 : Nat) (Option.none : Option Jvm.ClassFile.FieldType)).before args0 about1 = true := code_word (m := ⟨7, 0⟩) (meth := k7m0) (c := k7c0) (by decide +kernel) rfl rfl rfl (by decide +kernel)
set_option maxRecDepth 65536 in
theorem w_c3 : (Jvm.Cond.code ({ cls := "java/util/AbstractCollection", name := "<init>", desc := "()V" } : Jvm.MethodName) jdk_22_method_1_code (1 : Nat) (Option.none : Option Jvm.ClassFile.FieldType)).before args0 about1 = true := code_word (m := ⟨4, 0⟩) (meth := k4m0) (c := k4c0) (by decide +kernel) rfl rfl rfl (by decide +kernel)
set_option maxRecDepth 65536 in
theorem w_c4 : (Jvm.Cond.code ({ cls := "java/lang/Object", name := "<init>", desc := "()V" } : Jvm.MethodName) object_method_1_code (1 : Nat) (Option.none : Option Jvm.ClassFile.FieldType)).before args0 about1 = true := code_word (m := ⟨0, 0⟩) (meth := k0m0) (c := k0c0) (by decide +kernel) rfl rfl rfl (by decide +kernel)
set_option maxRecDepth 65536 in
theorem w_c5 : (Jvm.Cond.code ({ cls := "com/example/larder/larder/DoubleValue", name := "<init>", desc := "(JLjava/util/List;)V" } : Jvm.MethodName) prog_16_method_1_code (4 : Nat) (Option.none : Option Jvm.ClassFile.FieldType)).before args0 about1 = true := code_word (m := ⟨14, 0⟩) (meth := k14m0) (c := k14c0) (by decide +kernel) rfl rfl rfl (by decide +kernel)
set_option maxRecDepth 65536 in
theorem w_c6 : (Jvm.Cond.code ({ cls := "java/lang/Record", name := "<init>", desc := "()V" } : Jvm.MethodName) jdk_30_method_1_code (1 : Nat) (Option.none : Option Jvm.ClassFile.FieldType)).before args0 about1 = true := code_word (m := ⟨12, 0⟩) (meth := k12m0) (c := k12c0) (by decide +kernel) rfl rfl rfl (by decide +kernel)
set_option maxRecDepth 65536 in
theorem w_c7 : (Jvm.Cond.code ({ cls := "java/util/List", name := "copyOf", desc := "(Ljava/util/Collection;)Ljava/util/List;" } : Jvm.MethodName) jdk_40_method_48_code (1 : Nat) (Option.some (Jvm.ClassFile.FieldType.object "java/util/List"))).before args0 about1 = true := code_word (m := ⟨6, 2⟩) (meth := k6m2) (c := k6c2) (by decide +kernel) rfl rfl rfl (by decide +kernel)
set_option maxRecDepth 65536 in
theorem w_c8 : (Jvm.Cond.code ({ cls := "java/util/ImmutableCollections", name := "listCopy", desc := "(Ljava/util/Collection;)Ljava/util/List;" } : Jvm.MethodName) jdk_56_method_3_code (2 : Nat) (Option.some (Jvm.ClassFile.FieldType.object "java/util/List"))).before args0 about1 = true := code_word (m := ⟨15, 1⟩) (meth := k15m1) (c := k15c1) (by decide +kernel) rfl rfl rfl (by decide +kernel)
set_option maxRecDepth 65536 in
theorem w_c9 : (Jvm.Cond.code ({ cls := "java/util/ArrayList", name := "isEmpty", desc := "()Z" } : Jvm.MethodName) jdk_38_method_9_code (1 : Nat) (Option.some Jvm.ClassFile.FieldType.boolean)).before args0 about1 = true := code_word (m := ⟨11, 3⟩) (meth := k11m3) (c := k11c3) (by decide +kernel) rfl rfl rfl (by decide +kernel)
set_option maxRecDepth 65536 in
theorem w_c10 : (Jvm.Cond.code ({ cls := "java/util/List", name := "of", desc := "()Ljava/util/List;" } : Jvm.MethodName) jdk_40_method_36_code (0 : Nat) (Option.some (Jvm.ClassFile.FieldType.object "java/util/List"))).before args0 about1 = true := code_word (m := ⟨6, 0⟩) (meth := k6m0) (c := k6c0) (by decide +kernel) rfl rfl rfl (by decide +kernel)
set_option maxRecDepth 65536 in
theorem w_c11 : (Jvm.Cond.code ({ cls := "com/example/larder/larder/DoubleValue", name := "equals", desc := "(Ljava/lang/Object;)Z" } : Jvm.MethodName) prog_16_method_6_code (3 : Nat) (Option.some Jvm.ClassFile.FieldType.boolean)).before args0 about1 = true := code_word (m := ⟨14, 1⟩) (meth := k14m1) (c := k14c1) (by decide +kernel) rfl rfl rfl (by decide +kernel)
set_option maxRecDepth 65536 in
theorem w_c12 : (Jvm.Cond.code ({ cls := "com/example/larder/larder/BooleanValue", name := "<init>", desc := "(Z)V" } : Jvm.MethodName) prog_7_method_2_code (2 : Nat) (Option.none : Option Jvm.ClassFile.FieldType)).before args0 about1 = true := code_word (m := ⟨20, 1⟩) (meth := k20m1) (c := k20c1) (by decide +kernel) rfl rfl rfl (by decide +kernel)
set_option maxRecDepth 65536 in
theorem w_c13 : (Jvm.Cond.code ({ cls := "com/example/larder/larder/BooleanValue", name := "<init>", desc := "(ZLjava/util/List;)V" } : Jvm.MethodName) prog_7_method_1_code (3 : Nat) (Option.none : Option Jvm.ClassFile.FieldType)).before args0 about1 = true := code_word (m := ⟨20, 0⟩) (meth := k20m0) (c := k20c0) (by decide +kernel) rfl rfl rfl (by decide +kernel)
set_option maxRecDepth 65536 in
theorem w_c14 : (Jvm.Cond.code ({ cls := "java/util/ArrayList", name := "add", desc := "(Ljava/lang/Object;)Z" } : Jvm.MethodName) jdk_38_method_25_code (2 : Nat) (Option.some Jvm.ClassFile.FieldType.boolean)).before args0 about1 = true := code_word (m := ⟨11, 6⟩) (meth := k11m6) (c := k11c6) (by decide +kernel) rfl rfl rfl (by decide +kernel)
set_option maxRecDepth 65536 in
theorem w_c15 : (Jvm.Cond.code ({ cls := "java/util/ArrayList", name := "add", desc := "(Ljava/lang/Object;[Ljava/lang/Object;I)V" } : Jvm.MethodName) jdk_38_method_24_code (4 : Nat) (Option.none : Option Jvm.ClassFile.FieldType)).before args0 about1 = true := code_word (m := ⟨11, 5⟩) (meth := k11m5) (c := k11c5) (by decide +kernel) rfl rfl rfl (by decide +kernel)
set_option maxRecDepth 65536 in
theorem w_c16 : (Jvm.Cond.code ({ cls := "java/util/ArrayList", name := "grow", desc := "()[Ljava/lang/Object;" } : Jvm.MethodName) jdk_38_method_7_code (1 : Nat) (Option.some (Jvm.ClassFile.FieldType.array (Jvm.ClassFile.FieldType.object "java/lang/Object")))).before args0 about1 = true := code_word (m := ⟨11, 2⟩) (meth := k11m2) (c := k11c2) (by decide +kernel) rfl rfl rfl (by decide +kernel)
set_option maxRecDepth 65536 in
theorem w_c17 : (Jvm.Cond.code ({ cls := "java/util/ArrayList", name := "grow", desc := "(I)[Ljava/lang/Object;" } : Jvm.MethodName) jdk_38_method_6_code (4 : Nat) (Option.some (Jvm.ClassFile.FieldType.array (Jvm.ClassFile.FieldType.object "java/lang/Object")))).before args0 about1 = true := code_word (m := ⟨11, 1⟩) (meth := k11m1) (c := k11c1) (by decide +kernel) rfl rfl rfl (by decide +kernel)
set_option maxRecDepth 65536 in
theorem w_c18 : (Jvm.Cond.code ({ cls := "java/lang/Math", name := "max", desc := "(II)I" } : Jvm.MethodName) jdk_29_method_65_code (2 : Nat) (Option.some Jvm.ClassFile.FieldType.int)).before args0 about1 = true := code_word (m := ⟨21, 1⟩) (meth := k21m1) (c := k21c1) (by decide +kernel) rfl rfl rfl (by decide +kernel)
set_option maxRecDepth 65536 in
theorem w_c19 : (Jvm.Cond.code ({ cls := "java/util/ArrayList", name := "toArray", desc := "()[Ljava/lang/Object;" } : Jvm.MethodName) jdk_38_method_16_code (1 : Nat) (Option.some (Jvm.ClassFile.FieldType.array (Jvm.ClassFile.FieldType.object "java/lang/Object")))).before args0 about1 = true := code_word (m := ⟨11, 4⟩) (meth := k11m4) (c := k11c4) (by decide +kernel) rfl rfl rfl (by decide +kernel)
set_option maxRecDepth 65536 in
theorem w_c20 : (Jvm.Cond.code ({ cls := "java/util/Arrays", name := "copyOf", desc := "([Ljava/lang/Object;I)[Ljava/lang/Object;" } : Jvm.MethodName) jdk_65_method_119_code (2 : Nat) (Option.some (Jvm.ClassFile.FieldType.array (Jvm.ClassFile.FieldType.object "java/lang/Object")))).before args0 about1 = true := code_word (m := ⟨22, 1⟩) (meth := k22m1) (c := k22c1) (by decide +kernel) rfl rfl rfl (by decide +kernel)
set_option maxRecDepth 65536 in
theorem w_c21 : (Jvm.Cond.code ({ cls := "java/util/Arrays", name := "copyOf", desc := "([Ljava/lang/Object;ILjava/lang/Class;)[Ljava/lang/Object;" } : Jvm.MethodName) jdk_65_method_120_code (4 : Nat) (Option.some (Jvm.ClassFile.FieldType.array (Jvm.ClassFile.FieldType.object "java/lang/Object")))).before args0 about1 = true := code_word (m := ⟨22, 2⟩) (meth := k22m2) (c := k22c2) (by decide +kernel) rfl rfl rfl (by decide +kernel)
set_option maxRecDepth 65536 in
theorem w_c22 : (Jvm.Cond.code ({ cls := "java/lang/Math", name := "min", desc := "(II)I" } : Jvm.MethodName) jdk_29_method_69_code (2 : Nat) (Option.some Jvm.ClassFile.FieldType.int)).before args0 about1 = true := code_word (m := ⟨21, 2⟩) (meth := k21m2) (c := k21c2) (by decide +kernel) rfl rfl rfl (by decide +kernel)
set_option maxRecDepth 65536 in
theorem w_c23 : (Jvm.Cond.code ({ cls := "java/util/List", name := "of", desc := "([Ljava/lang/Object;)Ljava/util/List;" } : Jvm.MethodName) jdk_40_method_47_code (2 : Nat) (Option.some (Jvm.ClassFile.FieldType.object "java/util/List"))).before args0 about1 = true := code_word (m := ⟨6, 1⟩) (meth := k6m1) (c := k6c1) (by decide +kernel) rfl rfl rfl (by decide +kernel)
set_option maxRecDepth 65536 in
theorem w_c24 : (Jvm.Cond.code ({ cls := "java/util/ImmutableCollections$List12", name := "<init>", desc := "(Ljava/lang/Object;)V" } : Jvm.MethodName) jdk_44_method_1_code (2 : Nat) (Option.none : Option Jvm.ClassFile.FieldType)).before args0 about1 = true := code_word (m := ⟨18, 0⟩) (meth := k18m0) (c := k18c0) (by decide +kernel) rfl rfl rfl (by decide +kernel)
set_option maxRecDepth 65536 in
theorem w_c25 : (Jvm.Cond.code ({ cls := "java/util/ImmutableCollections$AbstractImmutableList", name := "<init>", desc := "()V" } : Jvm.MethodName) jdk_46_method_1_code (1 : Nat) (Option.none : Option Jvm.ClassFile.FieldType)).before args0 about1 = true := code_word (m := ⟨17, 0⟩) (meth := k17m0) (c := k17c0) (by decide +kernel) rfl rfl rfl (by decide +kernel)
set_option maxRecDepth 65536 in
theorem w_c26 : (Jvm.Cond.code ({ cls := "java/util/ImmutableCollections$AbstractImmutableCollection", name := "<init>", desc := "()V" } : Jvm.MethodName) jdk_47_method_1_code (1 : Nat) (Option.none : Option Jvm.ClassFile.FieldType)).before args0 about1 = true := code_word (m := ⟨16, 0⟩) (meth := k16m0) (c := k16c0) (by decide +kernel) rfl rfl rfl (by decide +kernel)
set_option maxRecDepth 65536 in
theorem w_c27 : (Jvm.Cond.code ({ cls := "java/util/Objects", name := "requireNonNull", desc := "(Ljava/lang/Object;)Ljava/lang/Object;" } : Jvm.MethodName) jdk_31_method_10_code (1 : Nat) (Option.some (Jvm.ClassFile.FieldType.object "java/lang/Object"))).before args0 about1 = true := code_word (m := ⟨24, 1⟩) (meth := k24m1) (c := k24c1) (by decide +kernel) rfl rfl rfl (by decide +kernel)
set_option maxRecDepth 65536 in
theorem w_c28 : (Jvm.Cond.code ({ cls := "java/lang/Long", name := "valueOf", desc := "(J)Ljava/lang/Long;" } : Jvm.MethodName) jdk_35_method_24_code (3 : Nat) (Option.some (Jvm.ClassFile.FieldType.object "java/lang/Long"))).before args0 about1 = true := code_word (m := ⟨29, 0⟩) (meth := k29m0) (c := k29c0) (by decide +kernel) rfl rfl rfl (by decide +kernel)
set_option maxRecDepth 65536 in
theorem w_c29 : (Jvm.Cond.code ({ cls := "java/lang/Long", name := "<init>", desc := "(J)V" } : Jvm.MethodName) jdk_35_method_26_code (3 : Nat) (Option.none : Option Jvm.ClassFile.FieldType)).before args0 about1 = true := code_word (m := ⟨29, 1⟩) (meth := k29m1) (c := k29c1) (by decide +kernel) rfl rfl rfl (by decide +kernel)
set_option maxRecDepth 65536 in
theorem w_c30 : (Jvm.Cond.code ({ cls := "java/lang/Number", name := "<init>", desc := "()V" } : Jvm.MethodName) jdk_18_method_1_code (1 : Nat) (Option.none : Option Jvm.ClassFile.FieldType)).before args0 about1 = true := code_word (m := ⟨25, 0⟩) (meth := k25m0) (c := k25c0) (by decide +kernel) rfl rfl rfl (by decide +kernel)
def codes1 : List Jvm.Cond := [Jvm.Cond.code x code maxLocals ret, Jvm.Cond.code ({ cls := "java/util/ArrayList", name := "<init>", desc := "()V" } : Jvm.MethodName) jdk_38_method_2_code (1 : Nat) (Option.none : Option Jvm.ClassFile.FieldType), Jvm.Cond.code ({ cls := "java/util/AbstractList", name := "<init>", desc := "()V" } : Jvm.MethodName) jdk_39_method_1_code (1 : Nat) (Option.none : Option Jvm.ClassFile.FieldType), Jvm.Cond.code ({ cls := "java/util/AbstractCollection", name := "<init>", desc := "()V" } : Jvm.MethodName) jdk_22_method_1_code (1 : Nat) (Option.none : Option Jvm.ClassFile.FieldType), Jvm.Cond.code ({ cls := "java/lang/Object", name := "<init>", desc := "()V" } : Jvm.MethodName) object_method_1_code (1 : Nat) (Option.none : Option Jvm.ClassFile.FieldType), Jvm.Cond.code ({ cls := "com/example/larder/larder/DoubleValue", name := "<init>", desc := "(JLjava/util/List;)V" } : Jvm.MethodName) prog_16_method_1_code (4 : Nat) (Option.none : Option Jvm.ClassFile.FieldType), Jvm.Cond.code ({ cls := "java/lang/Record", name := "<init>", desc := "()V" } : Jvm.MethodName) jdk_30_method_1_code (1 : Nat) (Option.none : Option Jvm.ClassFile.FieldType), Jvm.Cond.code ({ cls := "java/util/List", name := "copyOf", desc := "(Ljava/util/Collection;)Ljava/util/List;" } : Jvm.MethodName) jdk_40_method_48_code (1 : Nat) (Option.some (Jvm.ClassFile.FieldType.object "java/util/List")), Jvm.Cond.code ({ cls := "java/util/ImmutableCollections", name := "listCopy", desc := "(Ljava/util/Collection;)Ljava/util/List;" } : Jvm.MethodName) jdk_56_method_3_code (2 : Nat) (Option.some (Jvm.ClassFile.FieldType.object "java/util/List")), Jvm.Cond.code ({ cls := "java/util/ArrayList", name := "isEmpty", desc := "()Z" } : Jvm.MethodName) jdk_38_method_9_code (1 : Nat) (Option.some Jvm.ClassFile.FieldType.boolean), Jvm.Cond.code ({ cls := "java/util/List", name := "of", desc := "()Ljava/util/List;" } : Jvm.MethodName) jdk_40_method_36_code (0 : Nat) (Option.some (Jvm.ClassFile.FieldType.object "java/util/List")), Jvm.Cond.code ({ cls := "com/example/larder/larder/DoubleValue", name := "equals", desc := "(Ljava/lang/Object;)Z" } : Jvm.MethodName) prog_16_method_6_code (3 : Nat) (Option.some Jvm.ClassFile.FieldType.boolean), Jvm.Cond.code ({ cls := "com/example/larder/larder/BooleanValue", name := "<init>", desc := "(Z)V" } : Jvm.MethodName) prog_7_method_2_code (2 : Nat) (Option.none : Option Jvm.ClassFile.FieldType), Jvm.Cond.code ({ cls := "com/example/larder/larder/BooleanValue", name := "<init>", desc := "(ZLjava/util/List;)V" } : Jvm.MethodName) prog_7_method_1_code (3 : Nat) (Option.none : Option Jvm.ClassFile.FieldType), Jvm.Cond.code ({ cls := "java/util/ArrayList", name := "add", desc := "(Ljava/lang/Object;)Z" } : Jvm.MethodName) jdk_38_method_25_code (2 : Nat) (Option.some Jvm.ClassFile.FieldType.boolean), Jvm.Cond.code ({ cls := "java/util/ArrayList", name := "add", desc := "(Ljava/lang/Object;[Ljava/lang/Object;I)V" } : Jvm.MethodName) jdk_38_method_24_code (4 : Nat) (Option.none : Option Jvm.ClassFile.FieldType), Jvm.Cond.code ({ cls := "java/util/ArrayList", name := "grow", desc := "()[Ljava/lang/Object;" } : Jvm.MethodName) jdk_38_method_7_code (1 : Nat) (Option.some (Jvm.ClassFile.FieldType.array (Jvm.ClassFile.FieldType.object "java/lang/Object"))), Jvm.Cond.code ({ cls := "java/util/ArrayList", name := "grow", desc := "(I)[Ljava/lang/Object;" } : Jvm.MethodName) jdk_38_method_6_code (4 : Nat) (Option.some (Jvm.ClassFile.FieldType.array (Jvm.ClassFile.FieldType.object "java/lang/Object"))), Jvm.Cond.code ({ cls := "java/lang/Math", name := "max", desc := "(II)I" } : Jvm.MethodName) jdk_29_method_65_code (2 : Nat) (Option.some Jvm.ClassFile.FieldType.int), Jvm.Cond.code ({ cls := "java/util/ArrayList", name := "toArray", desc := "()[Ljava/lang/Object;" } : Jvm.MethodName) jdk_38_method_16_code (1 : Nat) (Option.some (Jvm.ClassFile.FieldType.array (Jvm.ClassFile.FieldType.object "java/lang/Object"))), Jvm.Cond.code ({ cls := "java/util/Arrays", name := "copyOf", desc := "([Ljava/lang/Object;I)[Ljava/lang/Object;" } : Jvm.MethodName) jdk_65_method_119_code (2 : Nat) (Option.some (Jvm.ClassFile.FieldType.array (Jvm.ClassFile.FieldType.object "java/lang/Object"))), Jvm.Cond.code ({ cls := "java/util/Arrays", name := "copyOf", desc := "([Ljava/lang/Object;ILjava/lang/Class;)[Ljava/lang/Object;" } : Jvm.MethodName) jdk_65_method_120_code (4 : Nat) (Option.some (Jvm.ClassFile.FieldType.array (Jvm.ClassFile.FieldType.object "java/lang/Object"))), Jvm.Cond.code ({ cls := "java/lang/Math", name := "min", desc := "(II)I" } : Jvm.MethodName) jdk_29_method_69_code (2 : Nat) (Option.some Jvm.ClassFile.FieldType.int), Jvm.Cond.code ({ cls := "java/util/List", name := "of", desc := "([Ljava/lang/Object;)Ljava/util/List;" } : Jvm.MethodName) jdk_40_method_47_code (2 : Nat) (Option.some (Jvm.ClassFile.FieldType.object "java/util/List")), Jvm.Cond.code ({ cls := "java/util/ImmutableCollections$List12", name := "<init>", desc := "(Ljava/lang/Object;)V" } : Jvm.MethodName) jdk_44_method_1_code (2 : Nat) (Option.none : Option Jvm.ClassFile.FieldType), Jvm.Cond.code ({ cls := "java/util/ImmutableCollections$AbstractImmutableList", name := "<init>", desc := "()V" } : Jvm.MethodName) jdk_46_method_1_code (1 : Nat) (Option.none : Option Jvm.ClassFile.FieldType), Jvm.Cond.code ({ cls := "java/util/ImmutableCollections$AbstractImmutableCollection", name := "<init>", desc := "()V" } : Jvm.MethodName) jdk_47_method_1_code (1 : Nat) (Option.none : Option Jvm.ClassFile.FieldType), Jvm.Cond.code ({ cls := "java/util/Objects", name := "requireNonNull", desc := "(Ljava/lang/Object;)Ljava/lang/Object;" } : Jvm.MethodName) jdk_31_method_10_code (1 : Nat) (Option.some (Jvm.ClassFile.FieldType.object "java/lang/Object")), Jvm.Cond.code ({ cls := "java/lang/Long", name := "valueOf", desc := "(J)Ljava/lang/Long;" } : Jvm.MethodName) jdk_35_method_24_code (3 : Nat) (Option.some (Jvm.ClassFile.FieldType.object "java/lang/Long")), Jvm.Cond.code ({ cls := "java/lang/Long", name := "<init>", desc := "(J)V" } : Jvm.MethodName) jdk_35_method_26_code (3 : Nat) (Option.none : Option Jvm.ClassFile.FieldType), Jvm.Cond.code ({ cls := "java/lang/Number", name := "<init>", desc := "()V" } : Jvm.MethodName) jdk_18_method_1_code (1 : Nat) (Option.none : Option Jvm.ClassFile.FieldType)]
set_option maxRecDepth 65536 in
theorem codes_eq : words1.filter isCode = codes1 := rfl
theorem w_codes : ∀ c ∈ words1.filter isCode, c.before args0 about1 = true := by
  rw [codes_eq]
  intro c hc
  simp only [codes1, List.mem_cons, List.not_mem_nil, or_false] at hc
  rcases hc with rfl | rfl | rfl | rfl | rfl | rfl | rfl | rfl | rfl | rfl | rfl | rfl | rfl | rfl | rfl | rfl | rfl | rfl | rfl | rfl | rfl | rfl | rfl | rfl | rfl | rfl | rfl | rfl | rfl | rfl | rfl
  · exact w_c0
  · exact w_c1
  · exact w_c2
  · exact w_c3
  · exact w_c4
  · exact w_c5
  · exact w_c6
  · exact w_c7
  · exact w_c8
  · exact w_c9
  · exact w_c10
  · exact w_c11
  · exact w_c12
  · exact w_c13
  · exact w_c14
  · exact w_c15
  · exact w_c16
  · exact w_c17
  · exact w_c18
  · exact w_c19
  · exact w_c20
  · exact w_c21
  · exact w_c22
  · exact w_c23
  · exact w_c24
  · exact w_c25
  · exact w_c26
  · exact w_c27
  · exact w_c28
  · exact w_c29
  · exact w_c30
set_option maxRecDepth 65536 in
theorem w_t1 : (words1.take 24).all (fun c => isCode c || c.before args0 about1) = true := by decide +kernel
set_option maxRecDepth 65536 in
theorem w_t2 : ((words1.drop 24).take 24).all (fun c => isCode c || c.before args0 about1) = true := by decide +kernel
set_option maxRecDepth 65536 in
theorem w_t3 : (((words1.drop 24).drop 24).take 24).all (fun c => isCode c || c.before args0 about1) = true := by decide +kernel
set_option maxRecDepth 65536 in
theorem w_t4 : ((((words1.drop 24).drop 24).drop 24).take 24).all (fun c => isCode c || c.before args0 about1) = true := by decide +kernel
set_option maxRecDepth 65536 in
theorem w_t5 : (((((words1.drop 24).drop 24).drop 24).drop 24).take 24).all (fun c => isCode c || c.before args0 about1) = true := by decide +kernel
set_option maxRecDepth 65536 in
theorem w_t6 : ((((((words1.drop 24).drop 24).drop 24).drop 24).drop 24).take 24).all (fun c => isCode c || c.before args0 about1) = true := by decide +kernel
set_option maxRecDepth 65536 in
theorem w_t7 : (((((((words1.drop 24).drop 24).drop 24).drop 24).drop 24).drop 24).take 24).all (fun c => isCode c || c.before args0 about1) = true := by decide +kernel
set_option maxRecDepth 65536 in
theorem w_t8 : ((((((((words1.drop 24).drop 24).drop 24).drop 24).drop 24).drop 24).drop 24).take 24).all (fun c => isCode c || c.before args0 about1) = true := by decide +kernel
set_option maxRecDepth 65536 in
theorem w_t9 : (((((((((words1.drop 24).drop 24).drop 24).drop 24).drop 24).drop 24).drop 24).drop 24).take 24).all (fun c => isCode c || c.before args0 about1) = true := by decide +kernel
set_option maxRecDepth 65536 in
theorem w_t10 : (((((((((words1.drop 24).drop 24).drop 24).drop 24).drop 24).drop 24).drop 24).drop 24).drop 24).all (fun c => isCode c || c.before args0 about1) = true := by decide +kernel
theorem w_tables : (allAtoms (Jvm.Cond.code x code maxLocals ret :: tables_1)).before args0 about1 = true := by
  rw [allAtoms_all]
  show words1.all (fun c => c.before args0 about1) = true
  refine all_split ?_ w_codes
  rw [← List.take_append_drop 24 words1, List.all_append, w_t1, ← List.take_append_drop 24 (words1.drop 24), List.all_append, w_t2, ← List.take_append_drop 24 ((words1.drop 24).drop 24), List.all_append, w_t3, ← List.take_append_drop 24 (((words1.drop 24).drop 24).drop 24), List.all_append, w_t4, ← List.take_append_drop 24 ((((words1.drop 24).drop 24).drop 24).drop 24), List.all_append, w_t5, ← List.take_append_drop 24 (((((words1.drop 24).drop 24).drop 24).drop 24).drop 24), List.all_append, w_t6, ← List.take_append_drop 24 ((((((words1.drop 24).drop 24).drop 24).drop 24).drop 24).drop 24), List.all_append, w_t7, ← List.take_append_drop 24 (((((((words1.drop 24).drop 24).drop 24).drop 24).drop 24).drop 24).drop 24), List.all_append, w_t8, ← List.take_append_drop 24 ((((((((words1.drop 24).drop 24).drop 24).drop 24).drop 24).drop 24).drop 24).drop 24), List.all_append, w_t9, w_t10]
  rfl
set_option maxRecDepth 65536 in
theorem w_rest : rest_1_c.before args0 about1 = true := by decide +kernel
set_option maxRecDepth 65536 in
theorem w_case : (Jvm.Cond.and given_1 narrow_1).before args0 about1 = true := by decide +kernel
theorem w_applies : (headSpec (Jvm.Cond.code x code maxLocals ret :: tables_1) room_1).applies x e0.platform about1 = true :=
  (Spec.applies_iff w_frames).mpr ⟨w_running, w_runnable, w_alone, w_named, w_hears, w_ripe, w_room, w_tables⟩
set_option maxRecDepth 65536 in
theorem atStart : AtStart classFile x code maxLocals ret World_1 tables_1 room_1 Calls_1 rest_1 Pre_1 launch0 p0 e0 about1 theMethod args0 below0 :=
  ⟨lists_1, trivial, launch0.admits_env _ _ _, launch0.least_env, fairChoices_fair.cas, fairChoices_fair.clock, w_frames, w_args, w_heap, w_applies, ⟨⟨37, k37, 3, by decide +kernel, rfl, rfl, _, rfl, rfl⟩, trivial⟩, w_rest, w_case⟩
end start1
theorem witness_1 : WitnessClaimed_1 := ⟨start1.p0, start1.e0, start1.about1, start1.theMethod, start1.args0, start1.below0, start1.atStart⟩
end Jvm.Pilot.@@N@@
