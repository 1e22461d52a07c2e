import JvmDerived
import JvmDerived.Pilot.@@N@@Statement
import JvmDerived.Pilot.@@N@@Code
set_option linter.unusedVariables false
set_option linter.unusedSimpArgs false
namespace Jvm.Pilot.@@N@@
open Jvm Jvm.ClassFile Sem Op Lib Jvm.Free Jvm.Stand Jvm.LawKit Jvm.RoadKit Bundle Jvm.Pilot.@@N@@.Jvm.D
/-- from the state A the body comes to its end as Q says -/
def own_Fin (tb : Tables) (e : Env) (below : List Frame) (s : State) (Q : Option Value → Heap → List Loc → Prop) (kc ks : Nat) (A : State) : Prop :=
  ∃ s₂ o, Steps tb e below A s₂ ∧ s₂.status = .running ∧ Ended s₂ below o ∧ ∃ v L, o = .returned v ∧ Q v s₂.heap L ∧ FrameEnd s o s₂ L kc ks
theorem own_G (tb : Tables) (e : Env) (below : List Frame) (s : State) (Q : Option Value → Heap → List Loc → Prop) (kc ks : Nat) :
    ∃ G : State → Prop, (∀ {A B : State}, (∀ t, Steps tb e below B t → Steps tb e below A t) → G B → G A) ∧ (∀ A, own_Fin tb e below s Q kc ks A → G A) ∧ (∀ A, G A → own_Fin tb e below s Q kc ks A) :=
  ⟨own_Fin tb e below s Q kc ks, fun h k => by obtain ⟨s₂, o, h1, r⟩ := k; exact ⟨s₂, o, h _ h1, r⟩, fun _ h => h, fun _ h => h⟩
theorem own_ret {p : Program} {l : Launch} {e : Env} {R : Room} {s : State} {m : MethodId} {args : Array Value} {below : List Frame} {meth : Method} {c : Code} {T : State} {locs : List Loc} {cells slots : Nat} {Q : Option Value → Heap → List Loc → Prop} {kc ks : Nat} {A : State} {v : Option Value}
    (X : Stand p l e R s m args below meth c T locs cells slots) (hlk : meth.locks = false) (hv : meth.sig.returnType = none → v = none) (hQ : Q v T.heap locs) (hc : cells ≤ kc) (hs : slots ≤ ks)
    (st : ∀ fs, (∀ (f : JFrame) (acts : List Action), f.method = m → f.locked = none → f.entered = [] → (doReturn e (T.setTop f) acts v).1 = T.setFrames fs) → Steps p.tables e below A (T.setFrames fs)) : own_Fin p.tables e below s Q kc ks A := by
  obtain ⟨fs, hr, hrun, hended, hW, hsame⟩ := X.leave hv hlk
  exact ⟨_, _, st fs hr, hrun, hended, _, _, rfl, hQ, ⟨_, rfl⟩, hW, hsame.mono hc hs⟩
theorem own_old {Z : State} {n0 : Nat} {h : Heap} (O : Old Z n0 h) : n0 ≤ h.size := O.1 ▸ O.2.1
theorem own_cat {v : Value} (h : v.isRef = true) : v.category = 1 := by rcases ref_cases h with rfl | ⟨a, rfl⟩ <;> rfl
theorem own_mvM {Z s : State} {a0 args : Array Value} {own host : String} {index : Nat} {y : MethodName} (hZ : Z.Warmed39 s.vm) (w : (Jvm.Cond.methodLinkNest own index y host).before a0 Z = true) : (Jvm.Cond.methodLinkNest own index y host).before args s = true := (Cond.methodLinkNest_wide hZ w :)
theorem own_ne_arv {Z : State} {h : Heap} {a b : Addr} {C : String} {a0 : Array Value} {n : Nat} {k : ClassId} {ty : FieldType} {z : Int32} {vs : List Value} {d : Value} (E : Exa Z h a C) (wi : (Jvm.Cond.instantiable C n).before a0 Z = true) (A : Arv Z h b k ty z vs d) : a ≠ b := by
  obtain ⟨c, A, -⟩ := A
  exact ne_arr E wi A
theorem own_narB (x : Int32) : nar .byte x.toInt8.toInt32 = x.toInt8.toInt32 := by
  refine Int32.toInt_inj.mp ?_
  have h1 := c_i2b x
  have h2 := c_i2b x.toInt8.toInt32
  show (x.toInt8.toInt32.toInt8.toInt32).toInt = _
  omega
theorem own_narC (x : Int32) : nar .char x.toUInt32.toUInt16.toUInt32.toInt32 = x.toUInt32.toUInt16.toUInt32.toInt32 := by
  refine Int32.toInt_inj.mp ?_
  have h1 := c_i2c x
  have h2 := c_i2c x.toUInt32.toUInt16.toUInt32.toInt32
  show (x.toUInt32.toUInt16.toUInt32.toInt32.toUInt32.toUInt16.toUInt32.toInt32).toInt = _
  omega
theorem own_exa {s : State} {args : Array Value} {t : Term} {K : String} (h : (Jvm.Cond.exactly t K).value args s none s [] = some true) : ∃ a, t.eval args s none [] s = some (.ref a) ∧ Exa s s.heap a K := by
  obtain ⟨a, c', cell, k, e1, e2, e3, e4, e5, e6, e7⟩ := Cond.exactly_spec (Cond.before_iff.mpr h)
  exact ⟨a, e1, Exa.start e1 h⟩
theorem own_fint {s : State} {args : Array Value} {t : Term} {C n d : String} {a : Addr} {k : Int32} (ht : t.eval args s none [] s = some (.ref a)) (h : (Jvm.Cond.eq (.field t C n d) (.int k)).value args s none s [] = some true) : Fld s s.heap a C n d (.int k) := by
  refine Fld.start ?_
  rw [← fld_at ht]
  have hk : (Term.int k).eval args s none [] s = some (.int k) := rfl
  cases q : (Term.field t C n d).eval args s none [] s with
  | none => simp [Cond.value, q] at h
  | some v => cases v <;> simp [Cond.value, q, hk] at h; rw [h]
theorem own_flong {s : State} {args : Array Value} {t : Term} {C n d : String} {a : Addr} {k : Int64} (ht : t.eval args s none [] s = some (.ref a)) (h : (Jvm.Cond.eq (.field t C n d) (.long k)).value args s none s [] = some true) : Fld s s.heap a C n d (.long k) := by
  refine Fld.start ?_
  rw [← fld_at ht]
  have hk : (Term.long k).eval args s none [] s = some (.long k) := rfl
  cases q : (Term.field t C n d).eval args s none [] s with
  | none => simp [Cond.value, q] at h
  | some v => cases v <;> simp [Cond.value, q, hk] at h; rw [h]
theorem own_nni2d (x : Int32) : Jvm.Free.Fl.NoNaN64 (FP.i2d x) := nn_w (i2d_w x)
theorem ef_0 (m : MethodId) (x0 : Addr)  : entryFrame m #[(.ref x0)] 1 = mkF m 0 #[.val (.ref x0)] [] := by first | (simp [entryFrame, mkF, argsToLocals, Value.category]; done) | rfl
theorem pn_0 : plainName "java/lang/Record" = true := by first | (simp [plainName, overriddenIn]; done) | decide +kernel
theorem d2_0 : decode jdk_30_method_1_code 0 = .ok (.aload_n 0, 1) := by decide +kernel
theorem d2_1 : decode jdk_30_method_1_code 1 = .ok (.invokespecial 1, 3) := by decide +kernel
theorem d2_4 : decode jdk_30_method_1_code 4 = .ok (.return_, 1) := by decide +kernel
def Q_rec (Z : State) (a : Addr) (h0 : Heap) (n0 : Nat) (v : Option Value) (h : Heap) (L : List Loc) : Prop := v = none ∧ Fr n0 L ∧ h = h0
set_option maxRecDepth 65536 in
set_option maxHeartbeats 40000000 in
theorem rm_rec (l : Launch) (Z : State) (a0 : Array Value) (hw : ∀ d ∈ tables_1, d.before a0 Z = true) (ws : List Jvm.Cond) (a : Addr) (h0 : Heap) (n0 : Nat) (O0 : Old Z n0 h0)  :
    MetFree l (⟨"java/lang/Record", "<init>", "()V"⟩ : MethodName) (head1 (Jvm.Cond.code (⟨"java/lang/Record", "<init>", "()V"⟩ : MethodName) jdk_30_method_1_code 1 none :: ws) ({ frames := 1, cells := 0, slots := 0, locals := 12 } : Room)) (fun aV U => aV = #[(.ref a)] ∧ Z.Warmed39 U.vm ∧ U.heap = h0) (fun _ _ _ _ _ => True) (fun _ U o U' => ∃ v L, o = .returned v ∧ Q_rec Z a h0 n0 v U'.heap L ∧ FrameEnd U o U' L ({ frames := 1, cells := 0, slots := 0, locals := 12 } : Room).cells ({ frames := 1, cells := 0, slots := 0, locals := 12 } : Room).slots) := by
  refine MetFree.of_bodySF (plainFor_of_name pn_0) hisR ?_
  intro pr_ en_ st_ me_ args below meth_ co_ s₁ Bd hml0 hP hK
  obtain ⟨rfl, hZ, hh⟩ := hP
  have hx := Bd.exec
  have hby := Bd.bytes
  have hml : co_.maxLocals = 1 := hml0
  have hown : st_.vm.findClass "java/lang/Record" = some me_.cls := findClass_of_methodNamed Bd.named
  have hnm := (name_of_methodNamed Bd.named Bd.method).1
  have X0 : Stand pr_ l en_ ({ frames := 1, cells := 0, slots := 0, locals := 12 } : Room) st_ me_ #[(.ref a)] below meth_ co_ s₁ [] 0 0 := Stand.of_body Bd
  have e0 : s₁.heap = h0 := by rw [← hh, Bd.state]; rfl
  have N0 := Fr.nil n0
  have K0 := Keep.refl h0 []
  obtain ⟨G, gv, gf, gb⟩ := own_G pr_.tables en_ below st_ (Q_rec Z a h0 n0) ({ frames := 1, cells := 0, slots := 0, locals := 12 } : Room).cells ({ frames := 1, cells := 0, slots := 0, locals := 12 } : Room).slots
  show own_Fin pr_.tables en_ below st_ (Q_rec Z a h0 n0) ({ frames := 1, cells := 0, slots := 0, locals := 12 } : Room).cells ({ frames := 1, cells := 0, slots := 0, locals := 12 } : Room).slots (s₁.setTop (entryFrame me_ #[(.ref a)] 1))
  refine gb _ (gv (fun tQ kQ => castTop (ef_0 me_ a) kQ) ?_)
  show G (s₁.setTop (mkF me_ 0 #[.val (.ref a)] []))
  refine gv (fun tQ kQ => XS.aloadN X0.here hx rfl (hb hby d2_0) rfl rfl kQ) ?_
  show G (s₁.setTop (mkF me_ 1 #[.val (.ref a)] [(.ref a)]))
  obtain ⟨T1, X1, e1, st1⟩ := initO X0 hx hZ hown (hw _ (List.mem_of_getElem? (i := 11) rfl)) (hw _ (List.mem_of_getElem? (i := 12) rfl)) (hw _ (List.mem_of_getElem? (i := 13) rfl)) e0 (g := (mkF me_ 1 #[.val (.ref a)] [(.ref a)])) rfl (by rw [hml]; rfl) rfl (hb hby d2_1) (by decide) (W := 0) (by show 2 * 0 + _ ≤ _; exact Nat.le_of_eq rfl) (by decide)
  refine gv st1 ?_
  show G (T1.setTop (mkF me_ 4 #[.val (.ref a)] []))
  refine gf _ (own_ret X1 Bd.notSynchronized (v := none) (fun _ => rfl) ?_ (by decide) (by decide) (fun fs hr => X1.returnOut hx Bd.returns (hb hby d2_4) hr))
  show Q_rec Z a h0 n0 _ T1.heap _
  rw [e1]
  exact ⟨rfl, N0, rfl⟩
theorem pn_1 : plainName "java/lang/Number" = true := by first | (simp [plainName, overriddenIn]; done) | decide +kernel
theorem d7_0 : decode jdk_18_method_1_code 0 = .ok (.aload_n 0, 1) := by decide +kernel
theorem d7_1 : decode jdk_18_method_1_code 1 = .ok (.invokespecial 1, 3) := by decide +kernel
theorem d7_4 : decode jdk_18_method_1_code 4 = .ok (.return_, 1) := by decide +kernel
def Q_num (Z : State) (a : Addr) (h0 : Heap) (n0 : Nat) (v : Option Value) (h : Heap) (L : List Loc) : Prop := v = none ∧ Fr n0 L ∧ h = h0
set_option maxRecDepth 65536 in
set_option maxHeartbeats 40000000 in
theorem rm_num (l : Launch) (Z : State) (a0 : Array Value) (hw : ∀ d ∈ tables_1, d.before a0 Z = true) (ws : List Jvm.Cond) (a : Addr) (h0 : Heap) (n0 : Nat) (O0 : Old Z n0 h0)  :
    MetFree l (⟨"java/lang/Number", "<init>", "()V"⟩ : MethodName) (head1 (Jvm.Cond.code (⟨"java/lang/Number", "<init>", "()V"⟩ : MethodName) jdk_18_method_1_code 1 none :: ws) ({ frames := 1, cells := 0, slots := 0, locals := 12 } : Room)) (fun aV U => aV = #[(.ref a)] ∧ Z.Warmed39 U.vm ∧ U.heap = h0) (fun _ _ _ _ _ => True) (fun _ U o U' => ∃ v L, o = .returned v ∧ Q_num Z a h0 n0 v U'.heap L ∧ FrameEnd U o U' L ({ frames := 1, cells := 0, slots := 0, locals := 12 } : Room).cells ({ frames := 1, cells := 0, slots := 0, locals := 12 } : Room).slots) := by
  refine MetFree.of_bodySF (plainFor_of_name pn_1) hisR ?_
  intro pr_ en_ st_ me_ args below meth_ co_ s₁ Bd hml0 hP hK
  obtain ⟨rfl, hZ, hh⟩ := hP
  have hx := Bd.exec
  have hby := Bd.bytes
  have hml : co_.maxLocals = 1 := hml0
  have hown : st_.vm.findClass "java/lang/Number" = some me_.cls := findClass_of_methodNamed Bd.named
  have hnm := (name_of_methodNamed Bd.named Bd.method).1
  have X0 : Stand pr_ l en_ ({ frames := 1, cells := 0, slots := 0, locals := 12 } : Room) st_ me_ #[(.ref a)] below meth_ co_ s₁ [] 0 0 := Stand.of_body Bd
  have e0 : s₁.heap = h0 := by rw [← hh, Bd.state]; rfl
  have N0 := Fr.nil n0
  have K0 := Keep.refl h0 []
  obtain ⟨G, gv, gf, gb⟩ := own_G pr_.tables en_ below st_ (Q_num Z a h0 n0) ({ frames := 1, cells := 0, slots := 0, locals := 12 } : Room).cells ({ frames := 1, cells := 0, slots := 0, locals := 12 } : Room).slots
  show own_Fin pr_.tables en_ below st_ (Q_num Z a h0 n0) ({ frames := 1, cells := 0, slots := 0, locals := 12 } : Room).cells ({ frames := 1, cells := 0, slots := 0, locals := 12 } : Room).slots (s₁.setTop (entryFrame me_ #[(.ref a)] 1))
  refine gb _ (gv (fun tQ kQ => castTop (ef_0 me_ a) kQ) ?_)
  show G (s₁.setTop (mkF me_ 0 #[.val (.ref a)] []))
  refine gv (fun tQ kQ => XS.aloadN X0.here hx rfl (hb hby d7_0) rfl rfl kQ) ?_
  show G (s₁.setTop (mkF me_ 1 #[.val (.ref a)] [(.ref a)]))
  obtain ⟨T2, X2, e2, st2⟩ := initO X0 hx hZ hown (hw _ (List.mem_of_getElem? (i := 47) rfl)) (hw _ (List.mem_of_getElem? (i := 12) rfl)) (hw _ (List.mem_of_getElem? (i := 13) rfl)) e0 (g := (mkF me_ 1 #[.val (.ref a)] [(.ref a)])) rfl (by rw [hml]; rfl) rfl (hb hby d7_1) (by decide) (W := 0) (by show 2 * 0 + _ ≤ _; exact Nat.le_of_eq rfl) (by decide)
  refine gv st2 ?_
  show G (T2.setTop (mkF me_ 4 #[.val (.ref a)] []))
  refine gf _ (own_ret X2 Bd.notSynchronized (v := none) (fun _ => rfl) ?_ (by decide) (by decide) (fun fs hr => X2.returnOut hx Bd.returns (hb hby d7_4) hr))
  show Q_num Z a h0 n0 _ T2.heap _
  rw [e2]
  exact ⟨rfl, N0, rfl⟩
theorem ef_1 (m : MethodId) (x0 : Addr) (x1 : UInt64) (x2 : UInt64) (x3 : UInt64) (x4 : UInt64) (x5 : UInt64) (x6 : UInt64)  : entryFrame m #[(.ref x0), (.double x1), (.double x2), (.double x3), (.double x4), (.double x5), (.double x6)] 13 = mkF m 0 #[.val (.ref x0), .val (.double x1), .second, .val (.double x2), .second, .val (.double x3), .second, .val (.double x4), .second, .val (.double x5), .second, .val (.double x6), .second] [] := by first | (simp [entryFrame, mkF, argsToLocals, Value.category]; done) | rfl
theorem pn_2 : plainName "com/example/mehr/mehr/Measures" = true := by first | (simp [plainName, overriddenIn]; done) | decide +kernel
theorem d1_0 : decode prog_10_method_1_code 0 = .ok (.aload_n 0, 1) := by decide +kernel
theorem d1_1 : decode prog_10_method_1_code 1 = .ok (.invokespecial 1, 3) := by decide +kernel
theorem pd_0 : parseMethodDescriptor "()V" = some ⟨[], none⟩ := by decide +kernel
theorem d1_4 : decode prog_10_method_1_code 4 = .ok (.aload_n 0, 1) := by decide +kernel
theorem d1_5 : decode prog_10_method_1_code 5 = .ok (.dload_n 1, 1) := by decide +kernel
theorem d1_6 : decode prog_10_method_1_code 6 = .ok (.putfield 7, 3) := by decide +kernel
theorem d1_9 : decode prog_10_method_1_code 9 = .ok (.aload_n 0, 1) := by decide +kernel
theorem d1_10 : decode prog_10_method_1_code 10 = .ok (.dload_n 3, 1) := by decide +kernel
theorem d1_11 : decode prog_10_method_1_code 11 = .ok (.putfield 13, 3) := by decide +kernel
theorem d1_14 : decode prog_10_method_1_code 14 = .ok (.aload_n 0, 1) := by decide +kernel
theorem d1_15 : decode prog_10_method_1_code 15 = .ok (.dload 5, 2) := by decide +kernel
theorem d1_17 : decode prog_10_method_1_code 17 = .ok (.putfield 16, 3) := by decide +kernel
theorem d1_20 : decode prog_10_method_1_code 20 = .ok (.aload_n 0, 1) := by decide +kernel
theorem d1_21 : decode prog_10_method_1_code 21 = .ok (.dload 7, 2) := by decide +kernel
theorem d1_23 : decode prog_10_method_1_code 23 = .ok (.putfield 19, 3) := by decide +kernel
theorem d1_26 : decode prog_10_method_1_code 26 = .ok (.aload_n 0, 1) := by decide +kernel
theorem d1_27 : decode prog_10_method_1_code 27 = .ok (.dload 9, 2) := by decide +kernel
theorem d1_29 : decode prog_10_method_1_code 29 = .ok (.putfield 22, 3) := by decide +kernel
theorem d1_32 : decode prog_10_method_1_code 32 = .ok (.aload_n 0, 1) := by decide +kernel
theorem d1_33 : decode prog_10_method_1_code 33 = .ok (.dload 11, 2) := by decide +kernel
theorem d1_35 : decode prog_10_method_1_code 35 = .ok (.putfield 25, 3) := by decide +kernel
theorem d1_38 : decode prog_10_method_1_code 38 = .ok (.return_, 1) := by decide +kernel
def Q_mi (Z : State) (a : Addr) (d0 : UInt64) (d1 : UInt64) (d2 : UInt64) (d3 : UInt64) (d4 : UInt64) (d5 : UInt64) (h0 : Heap) (n0 : Nat) (v : Option Value) (h : Heap) (L : List Loc) : Prop := v = none ∧ Fr n0 L ∧ Keep h0 h [a] ∧ (Exa Z h a "com/example/mehr/mehr/Measures") ∧ (Fld Z h a "com/example/mehr/mehr/Measures" "p1" "D" (.double d0)) ∧ (Fld Z h a "com/example/mehr/mehr/Measures" "p2" "D" (.double d1)) ∧ (Fld Z h a "com/example/mehr/mehr/Measures" "p5" "D" (.double d2)) ∧ (Fld Z h a "com/example/mehr/mehr/Measures" "p10" "D" (.double d3)) ∧ (Fld Z h a "com/example/mehr/mehr/Measures" "ndcg10" "D" (.double d4)) ∧ (Fld Z h a "com/example/mehr/mehr/Measures" "rr" "D" (.double d5))
set_option maxRecDepth 65536 in
set_option maxHeartbeats 40000000 in
theorem rm_mi (l : Launch) (Z : State) (a0 : Array Value) (hw : ∀ d ∈ tables_1, d.before a0 Z = true) (ws : List Jvm.Cond) (a : Addr) (d0 : UInt64) (d1 : UInt64) (d2 : UInt64) (d3 : UInt64) (d4 : UInt64) (d5 : UInt64) (h0 : Heap) (n0 : Nat) (O0 : Old Z n0 h0) (u0 : Exa Z h0 a "com/example/mehr/mehr/Measures") (u1 : Fld Z h0 a "com/example/mehr/mehr/Measures" "p1" "D" (.double 0)) (u2 : Fld Z h0 a "com/example/mehr/mehr/Measures" "p2" "D" (.double 0)) (u3 : Fld Z h0 a "com/example/mehr/mehr/Measures" "p5" "D" (.double 0)) (u4 : Fld Z h0 a "com/example/mehr/mehr/Measures" "p10" "D" (.double 0)) (u5 : Fld Z h0 a "com/example/mehr/mehr/Measures" "ndcg10" "D" (.double 0)) (u6 : Fld Z h0 a "com/example/mehr/mehr/Measures" "rr" "D" (.double 0)) (u7 : n0 ≤ a) :
    MetFree l (⟨"com/example/mehr/mehr/Measures", "<init>", "(DDDDDD)V"⟩ : MethodName) (head1 (Jvm.Cond.code (⟨"com/example/mehr/mehr/Measures", "<init>", "(DDDDDD)V"⟩ : MethodName) prog_10_method_1_code 13 none :: ws) ({ frames := 2, cells := 0, slots := 0, locals := 24 } : Room)) (fun aV U => aV = #[(.ref a), (.double d0), (.double d1), (.double d2), (.double d3), (.double d4), (.double d5)] ∧ Z.Warmed39 U.vm ∧ U.heap = h0) (fun _ _ _ _ _ => True) (fun _ U o U' => ∃ v L, o = .returned v ∧ Q_mi Z a d0 d1 d2 d3 d4 d5 h0 n0 v U'.heap L ∧ FrameEnd U o U' L ({ frames := 2, cells := 0, slots := 0, locals := 24 } : Room).cells ({ frames := 2, cells := 0, slots := 0, locals := 24 } : Room).slots) := by
  refine MetFree.of_bodySF (plainFor_of_name pn_2) hisR ?_
  intro pr_ en_ st_ me_ args below meth_ co_ s₁ Bd hml0 hP hK
  obtain ⟨rfl, hZ, hh⟩ := hP
  have hx := Bd.exec
  have hby := Bd.bytes
  have hml : co_.maxLocals = 13 := hml0
  have hown : st_.vm.findClass "com/example/mehr/mehr/Measures" = some me_.cls := findClass_of_methodNamed Bd.named
  have hnm := (name_of_methodNamed Bd.named Bd.method).1
  have X0 : Stand pr_ l en_ ({ frames := 2, cells := 0, slots := 0, locals := 24 } : Room) st_ me_ #[(.ref a), (.double d0), (.double d1), (.double d2), (.double d3), (.double d4), (.double d5)] below meth_ co_ s₁ [] 0 0 := Stand.of_body Bd
  have e0 : s₁.heap = h0 := by rw [← hh, Bd.state]; rfl
  have N0 := Fr.nil n0
  have K0 := Keep.refl h0 [a]
  obtain ⟨G, gv, gf, gb⟩ := own_G pr_.tables en_ below st_ (Q_mi Z a d0 d1 d2 d3 d4 d5 h0 n0) ({ frames := 2, cells := 0, slots := 0, locals := 24 } : Room).cells ({ frames := 2, cells := 0, slots := 0, locals := 24 } : Room).slots
  show own_Fin pr_.tables en_ below st_ (Q_mi Z a d0 d1 d2 d3 d4 d5 h0 n0) ({ frames := 2, cells := 0, slots := 0, locals := 24 } : Room).cells ({ frames := 2, cells := 0, slots := 0, locals := 24 } : Room).slots (s₁.setTop (entryFrame me_ #[(.ref a), (.double d0), (.double d1), (.double d2), (.double d3), (.double d4), (.double d5)] 13))
  refine gb _ (gv (fun tQ kQ => castTop (ef_1 me_ a d0 d1 d2 d3 d4 d5) kQ) ?_)
  show G (s₁.setTop (mkF me_ 0 #[.val (.ref a), .val (.double d0), .second, .val (.double d1), .second, .val (.double d2), .second, .val (.double d3), .second, .val (.double d4), .second, .val (.double d5), .second] []))
  refine gv (fun tQ kQ => XS.aloadN X0.here hx rfl (hb hby d1_0) rfl rfl kQ) ?_
  show G (s₁.setTop (mkF me_ 1 #[.val (.ref a), .val (.double d0), .second, .val (.double d1), .second, .val (.double d2), .second, .val (.double d3), .second, .val (.double d4), .second, .val (.double d5), .second] [(.ref a)]))
  obtain ⟨_, _, ⟨T3, L3, k3, n3⟩, -, X3, ⟨Lc3, hQ3, l3, y3, z3⟩, st3⟩ := X0.specialBack hx (y := (⟨"java/lang/Record", "<init>", "()V"⟩ : MethodName)) rfl hown (mvT hZ (hw _ (List.mem_of_getElem? (i := 6) rfl))) (mvT hZ (hw _ (List.mem_of_getElem? (i := 7) rfl))) (mvT hZ (hw _ (List.mem_of_getElem? (i := 10) rfl))) (by decide) (backOf (W := 0) (rm_rec l Z a0 hw [] a h0 n0 O0 ) hZ (hw _ (List.mem_of_getElem? (i := 10) rfl)) (hw _ (List.mem_of_getElem? (i := 9) rfl)) (by decide) (by decide)) (g := (mkF me_ 1 #[.val (.ref a), .val (.double d0), .second, .val (.double d1), .second, .val (.double d2), .second, .val (.double d3), .second, .val (.double d4), .second, .val (.double d5), .second] [(.ref a)])) rfl (by rw [hml]; rfl) (Steps.refl _) (a := a) (argsL := []) (rest := []) (lenOf pd_0 rfl) rfl (by show 2 * 0 + _ ≤ _; exact Nat.le_of_eq rfl) (hb hby d1_1) (fun _ _ => ⟨rfl, e0, (by decide : 0 + 0 ≤ _), (by decide : 0 + 0 ≤ _)⟩)
  dsimp only [Pt.U, Pt.locs, Pt.cells, Pt.slots] at X3 l3 y3 z3 st3 hQ3
  subst l3 y3 z3
  obtain ⟨rfl, Nq3, eq3⟩ := hQ3
  have N4 := Fr.app N0 Nq3
  refine gv (fun tQ kQ => st3.trans kQ) ?_
  show G (T3.setTop (mkF me_ 4 #[.val (.ref a), .val (.double d0), .second, .val (.double d1), .second, .val (.double d2), .second, .val (.double d3), .second, .val (.double d4), .second, .val (.double d5), .second] []))
  refine gv (fun tQ kQ => XS.aloadN X3.here hx rfl (hb hby d1_4) rfl rfl kQ) ?_
  show G (T3.setTop (mkF me_ 5 #[.val (.ref a), .val (.double d0), .second, .val (.double d1), .second, .val (.double d2), .second, .val (.double d3), .second, .val (.double d4), .second, .val (.double d5), .second] [(.ref a)]))
  refine gv (fun tQ kQ => XS.dloadN X3.here hx rfl (hb hby d1_5) rfl kQ) ?_
  show G (T3.setTop (mkF me_ 6 #[.val (.ref a), .val (.double d0), .second, .val (.double d1), .second, .val (.double d2), .second, .val (.double d3), .second, .val (.double d4), .second, .val (.double d5), .second] [(.double d0), (.ref a)]))
  obtain ⟨T5, h5, X5, e5, W5, st5⟩ := putF X3 hx hZ hown (host := "") (Or.inl (hw _ (List.mem_of_getElem? (i := 14) rfl))) Via.refl eq3 u1 u0 (Or.inr ⟨(hw _ (List.mem_of_getElem? (i := 15) rfl)), rfl, hnm⟩) (hw _ (List.mem_of_getElem? (i := 1) rfl)) (ty := .double) (by decide) rfl rfl (g := (mkF me_ 6 #[.val (.ref a), .val (.double d0), .second, .val (.double d1), .second, .val (.double d2), .second, .val (.double d3), .second, .val (.double d4), .second, .val (.double d5), .second] [(.double d0), (.ref a)])) rfl rfl (hb hby d1_6)
  refine gv st5 ?_
  have f7 : Exa Z h5 a "com/example/mehr/mehr/Measures" := u0.wr W5
  have f8 : Fld Z h5 a "com/example/mehr/mehr/Measures" "p2" "D" (.double 0) := u2.other W5 (Or.inr (slot_ne (Or.inr (hw _ (List.mem_of_getElem? (i := 17) rfl))) (Or.inr (hw _ (List.mem_of_getElem? (i := 15) rfl))) (by decide) (t := .double) (t' := .double) (by decide) (by decide)))
  have f9 : Fld Z h5 a "com/example/mehr/mehr/Measures" "p5" "D" (.double 0) := u3.other W5 (Or.inr (slot_ne (Or.inr (hw _ (List.mem_of_getElem? (i := 19) rfl))) (Or.inr (hw _ (List.mem_of_getElem? (i := 15) rfl))) (by decide) (t := .double) (t' := .double) (by decide) (by decide)))
  have f10 : Fld Z h5 a "com/example/mehr/mehr/Measures" "p10" "D" (.double 0) := u4.other W5 (Or.inr (slot_ne (Or.inr (hw _ (List.mem_of_getElem? (i := 21) rfl))) (Or.inr (hw _ (List.mem_of_getElem? (i := 15) rfl))) (by decide) (t := .double) (t' := .double) (by decide) (by decide)))
  have f11 : Fld Z h5 a "com/example/mehr/mehr/Measures" "ndcg10" "D" (.double 0) := u5.other W5 (Or.inr (slot_ne (Or.inr (hw _ (List.mem_of_getElem? (i := 23) rfl))) (Or.inr (hw _ (List.mem_of_getElem? (i := 15) rfl))) (by decide) (t := .double) (t' := .double) (by decide) (by decide)))
  have f12 : Fld Z h5 a "com/example/mehr/mehr/Measures" "rr" "D" (.double 0) := u6.other W5 (Or.inr (slot_ne (Or.inr (hw _ (List.mem_of_getElem? (i := 25) rfl))) (Or.inr (hw _ (List.mem_of_getElem? (i := 15) rfl))) (by decide) (t := .double) (t' := .double) (by decide) (by decide)))
  have O13 := O0.wr W5 u7
  have K14 := K0.wr W5 (Or.inl (List.mem_of_getElem? (i := 0) rfl))
  have N15 := Fr.snoc X5 N4 u7
  have f6 : Fld Z h5 a "com/example/mehr/mehr/Measures" "p1" "D" (.double d0) := u1.same W5
  show G (T5.setTop (mkF me_ 9 #[.val (.ref a), .val (.double d0), .second, .val (.double d1), .second, .val (.double d2), .second, .val (.double d3), .second, .val (.double d4), .second, .val (.double d5), .second] []))
  refine gv (fun tQ kQ => XS.aloadN X5.here hx rfl (hb hby d1_9) rfl rfl kQ) ?_
  show G (T5.setTop (mkF me_ 10 #[.val (.ref a), .val (.double d0), .second, .val (.double d1), .second, .val (.double d2), .second, .val (.double d3), .second, .val (.double d4), .second, .val (.double d5), .second] [(.ref a)]))
  refine gv (fun tQ kQ => XS.dloadN X5.here hx rfl (hb hby d1_10) rfl kQ) ?_
  show G (T5.setTop (mkF me_ 11 #[.val (.ref a), .val (.double d0), .second, .val (.double d1), .second, .val (.double d2), .second, .val (.double d3), .second, .val (.double d4), .second, .val (.double d5), .second] [(.double d1), (.ref a)]))
  obtain ⟨T16, h16, X16, e16, W16, st16⟩ := putF X5 hx hZ hown (host := "") (Or.inl (hw _ (List.mem_of_getElem? (i := 16) rfl))) Via.refl e5 f8 f7 (Or.inr ⟨(hw _ (List.mem_of_getElem? (i := 17) rfl)), rfl, hnm⟩) (hw _ (List.mem_of_getElem? (i := 1) rfl)) (ty := .double) (by decide) rfl rfl (g := (mkF me_ 11 #[.val (.ref a), .val (.double d0), .second, .val (.double d1), .second, .val (.double d2), .second, .val (.double d3), .second, .val (.double d4), .second, .val (.double d5), .second] [(.double d1), (.ref a)])) rfl rfl (hb hby d1_11)
  refine gv st16 ?_
  have f18 : Exa Z h16 a "com/example/mehr/mehr/Measures" := f7.wr W16
  have f19 : Fld Z h16 a "com/example/mehr/mehr/Measures" "p1" "D" (.double d0) := f6.other W16 (Or.inr (slot_ne (Or.inr (hw _ (List.mem_of_getElem? (i := 15) rfl))) (Or.inr (hw _ (List.mem_of_getElem? (i := 17) rfl))) (by decide) (t := .double) (t' := .double) (by decide) (by decide)))
  have f20 : Fld Z h16 a "com/example/mehr/mehr/Measures" "p5" "D" (.double 0) := f9.other W16 (Or.inr (slot_ne (Or.inr (hw _ (List.mem_of_getElem? (i := 19) rfl))) (Or.inr (hw _ (List.mem_of_getElem? (i := 17) rfl))) (by decide) (t := .double) (t' := .double) (by decide) (by decide)))
  have f21 : Fld Z h16 a "com/example/mehr/mehr/Measures" "p10" "D" (.double 0) := f10.other W16 (Or.inr (slot_ne (Or.inr (hw _ (List.mem_of_getElem? (i := 21) rfl))) (Or.inr (hw _ (List.mem_of_getElem? (i := 17) rfl))) (by decide) (t := .double) (t' := .double) (by decide) (by decide)))
  have f22 : Fld Z h16 a "com/example/mehr/mehr/Measures" "ndcg10" "D" (.double 0) := f11.other W16 (Or.inr (slot_ne (Or.inr (hw _ (List.mem_of_getElem? (i := 23) rfl))) (Or.inr (hw _ (List.mem_of_getElem? (i := 17) rfl))) (by decide) (t := .double) (t' := .double) (by decide) (by decide)))
  have f23 : Fld Z h16 a "com/example/mehr/mehr/Measures" "rr" "D" (.double 0) := f12.other W16 (Or.inr (slot_ne (Or.inr (hw _ (List.mem_of_getElem? (i := 25) rfl))) (Or.inr (hw _ (List.mem_of_getElem? (i := 17) rfl))) (by decide) (t := .double) (t' := .double) (by decide) (by decide)))
  have O24 := O13.wr W16 u7
  have K25 := K14.wr W16 (Or.inl (List.mem_of_getElem? (i := 0) rfl))
  have N26 := Fr.snoc X16 N15 u7
  have f17 : Fld Z h16 a "com/example/mehr/mehr/Measures" "p2" "D" (.double d1) := f8.same W16
  show G (T16.setTop (mkF me_ 14 #[.val (.ref a), .val (.double d0), .second, .val (.double d1), .second, .val (.double d2), .second, .val (.double d3), .second, .val (.double d4), .second, .val (.double d5), .second] []))
  refine gv (fun tQ kQ => XS.aloadN X16.here hx rfl (hb hby d1_14) rfl rfl kQ) ?_
  show G (T16.setTop (mkF me_ 15 #[.val (.ref a), .val (.double d0), .second, .val (.double d1), .second, .val (.double d2), .second, .val (.double d3), .second, .val (.double d4), .second, .val (.double d5), .second] [(.ref a)]))
  refine gv (fun tQ kQ => XS.dload X16.here hx rfl (hb hby d1_15) rfl kQ) ?_
  show G (T16.setTop (mkF me_ 17 #[.val (.ref a), .val (.double d0), .second, .val (.double d1), .second, .val (.double d2), .second, .val (.double d3), .second, .val (.double d4), .second, .val (.double d5), .second] [(.double d2), (.ref a)]))
  obtain ⟨T27, h27, X27, e27, W27, st27⟩ := putF X16 hx hZ hown (host := "") (Or.inl (hw _ (List.mem_of_getElem? (i := 18) rfl))) Via.refl e16 f20 f18 (Or.inr ⟨(hw _ (List.mem_of_getElem? (i := 19) rfl)), rfl, hnm⟩) (hw _ (List.mem_of_getElem? (i := 1) rfl)) (ty := .double) (by decide) rfl rfl (g := (mkF me_ 17 #[.val (.ref a), .val (.double d0), .second, .val (.double d1), .second, .val (.double d2), .second, .val (.double d3), .second, .val (.double d4), .second, .val (.double d5), .second] [(.double d2), (.ref a)])) rfl rfl (hb hby d1_17)
  refine gv st27 ?_
  have f29 : Exa Z h27 a "com/example/mehr/mehr/Measures" := f18.wr W27
  have f30 : Fld Z h27 a "com/example/mehr/mehr/Measures" "p1" "D" (.double d0) := f19.other W27 (Or.inr (slot_ne (Or.inr (hw _ (List.mem_of_getElem? (i := 15) rfl))) (Or.inr (hw _ (List.mem_of_getElem? (i := 19) rfl))) (by decide) (t := .double) (t' := .double) (by decide) (by decide)))
  have f31 : Fld Z h27 a "com/example/mehr/mehr/Measures" "p2" "D" (.double d1) := f17.other W27 (Or.inr (slot_ne (Or.inr (hw _ (List.mem_of_getElem? (i := 17) rfl))) (Or.inr (hw _ (List.mem_of_getElem? (i := 19) rfl))) (by decide) (t := .double) (t' := .double) (by decide) (by decide)))
  have f32 : Fld Z h27 a "com/example/mehr/mehr/Measures" "p10" "D" (.double 0) := f21.other W27 (Or.inr (slot_ne (Or.inr (hw _ (List.mem_of_getElem? (i := 21) rfl))) (Or.inr (hw _ (List.mem_of_getElem? (i := 19) rfl))) (by decide) (t := .double) (t' := .double) (by decide) (by decide)))
  have f33 : Fld Z h27 a "com/example/mehr/mehr/Measures" "ndcg10" "D" (.double 0) := f22.other W27 (Or.inr (slot_ne (Or.inr (hw _ (List.mem_of_getElem? (i := 23) rfl))) (Or.inr (hw _ (List.mem_of_getElem? (i := 19) rfl))) (by decide) (t := .double) (t' := .double) (by decide) (by decide)))
  have f34 : Fld Z h27 a "com/example/mehr/mehr/Measures" "rr" "D" (.double 0) := f23.other W27 (Or.inr (slot_ne (Or.inr (hw _ (List.mem_of_getElem? (i := 25) rfl))) (Or.inr (hw _ (List.mem_of_getElem? (i := 19) rfl))) (by decide) (t := .double) (t' := .double) (by decide) (by decide)))
  have O35 := O24.wr W27 u7
  have K36 := K25.wr W27 (Or.inl (List.mem_of_getElem? (i := 0) rfl))
  have N37 := Fr.snoc X27 N26 u7
  have f28 : Fld Z h27 a "com/example/mehr/mehr/Measures" "p5" "D" (.double d2) := f20.same W27
  show G (T27.setTop (mkF me_ 20 #[.val (.ref a), .val (.double d0), .second, .val (.double d1), .second, .val (.double d2), .second, .val (.double d3), .second, .val (.double d4), .second, .val (.double d5), .second] []))
  refine gv (fun tQ kQ => XS.aloadN X27.here hx rfl (hb hby d1_20) rfl rfl kQ) ?_
  show G (T27.setTop (mkF me_ 21 #[.val (.ref a), .val (.double d0), .second, .val (.double d1), .second, .val (.double d2), .second, .val (.double d3), .second, .val (.double d4), .second, .val (.double d5), .second] [(.ref a)]))
  refine gv (fun tQ kQ => XS.dload X27.here hx rfl (hb hby d1_21) rfl kQ) ?_
  show G (T27.setTop (mkF me_ 23 #[.val (.ref a), .val (.double d0), .second, .val (.double d1), .second, .val (.double d2), .second, .val (.double d3), .second, .val (.double d4), .second, .val (.double d5), .second] [(.double d3), (.ref a)]))
  obtain ⟨T38, h38, X38, e38, W38, st38⟩ := putF X27 hx hZ hown (host := "") (Or.inl (hw _ (List.mem_of_getElem? (i := 20) rfl))) Via.refl e27 f32 f29 (Or.inr ⟨(hw _ (List.mem_of_getElem? (i := 21) rfl)), rfl, hnm⟩) (hw _ (List.mem_of_getElem? (i := 1) rfl)) (ty := .double) (by decide) rfl rfl (g := (mkF me_ 23 #[.val (.ref a), .val (.double d0), .second, .val (.double d1), .second, .val (.double d2), .second, .val (.double d3), .second, .val (.double d4), .second, .val (.double d5), .second] [(.double d3), (.ref a)])) rfl rfl (hb hby d1_23)
  refine gv st38 ?_
  have f40 : Exa Z h38 a "com/example/mehr/mehr/Measures" := f29.wr W38
  have f41 : Fld Z h38 a "com/example/mehr/mehr/Measures" "p1" "D" (.double d0) := f30.other W38 (Or.inr (slot_ne (Or.inr (hw _ (List.mem_of_getElem? (i := 15) rfl))) (Or.inr (hw _ (List.mem_of_getElem? (i := 21) rfl))) (by decide) (t := .double) (t' := .double) (by decide) (by decide)))
  have f42 : Fld Z h38 a "com/example/mehr/mehr/Measures" "p2" "D" (.double d1) := f31.other W38 (Or.inr (slot_ne (Or.inr (hw _ (List.mem_of_getElem? (i := 17) rfl))) (Or.inr (hw _ (List.mem_of_getElem? (i := 21) rfl))) (by decide) (t := .double) (t' := .double) (by decide) (by decide)))
  have f43 : Fld Z h38 a "com/example/mehr/mehr/Measures" "p5" "D" (.double d2) := f28.other W38 (Or.inr (slot_ne (Or.inr (hw _ (List.mem_of_getElem? (i := 19) rfl))) (Or.inr (hw _ (List.mem_of_getElem? (i := 21) rfl))) (by decide) (t := .double) (t' := .double) (by decide) (by decide)))
  have f44 : Fld Z h38 a "com/example/mehr/mehr/Measures" "ndcg10" "D" (.double 0) := f33.other W38 (Or.inr (slot_ne (Or.inr (hw _ (List.mem_of_getElem? (i := 23) rfl))) (Or.inr (hw _ (List.mem_of_getElem? (i := 21) rfl))) (by decide) (t := .double) (t' := .double) (by decide) (by decide)))
  have f45 : Fld Z h38 a "com/example/mehr/mehr/Measures" "rr" "D" (.double 0) := f34.other W38 (Or.inr (slot_ne (Or.inr (hw _ (List.mem_of_getElem? (i := 25) rfl))) (Or.inr (hw _ (List.mem_of_getElem? (i := 21) rfl))) (by decide) (t := .double) (t' := .double) (by decide) (by decide)))
  have O46 := O35.wr W38 u7
  have K47 := K36.wr W38 (Or.inl (List.mem_of_getElem? (i := 0) rfl))
  have N48 := Fr.snoc X38 N37 u7
  have f39 : Fld Z h38 a "com/example/mehr/mehr/Measures" "p10" "D" (.double d3) := f32.same W38
  show G (T38.setTop (mkF me_ 26 #[.val (.ref a), .val (.double d0), .second, .val (.double d1), .second, .val (.double d2), .second, .val (.double d3), .second, .val (.double d4), .second, .val (.double d5), .second] []))
  refine gv (fun tQ kQ => XS.aloadN X38.here hx rfl (hb hby d1_26) rfl rfl kQ) ?_
  show G (T38.setTop (mkF me_ 27 #[.val (.ref a), .val (.double d0), .second, .val (.double d1), .second, .val (.double d2), .second, .val (.double d3), .second, .val (.double d4), .second, .val (.double d5), .second] [(.ref a)]))
  refine gv (fun tQ kQ => XS.dload X38.here hx rfl (hb hby d1_27) rfl kQ) ?_
  show G (T38.setTop (mkF me_ 29 #[.val (.ref a), .val (.double d0), .second, .val (.double d1), .second, .val (.double d2), .second, .val (.double d3), .second, .val (.double d4), .second, .val (.double d5), .second] [(.double d4), (.ref a)]))
  obtain ⟨T49, h49, X49, e49, W49, st49⟩ := putF X38 hx hZ hown (host := "") (Or.inl (hw _ (List.mem_of_getElem? (i := 22) rfl))) Via.refl e38 f44 f40 (Or.inr ⟨(hw _ (List.mem_of_getElem? (i := 23) rfl)), rfl, hnm⟩) (hw _ (List.mem_of_getElem? (i := 1) rfl)) (ty := .double) (by decide) rfl rfl (g := (mkF me_ 29 #[.val (.ref a), .val (.double d0), .second, .val (.double d1), .second, .val (.double d2), .second, .val (.double d3), .second, .val (.double d4), .second, .val (.double d5), .second] [(.double d4), (.ref a)])) rfl rfl (hb hby d1_29)
  refine gv st49 ?_
  have f51 : Exa Z h49 a "com/example/mehr/mehr/Measures" := f40.wr W49
  have f52 : Fld Z h49 a "com/example/mehr/mehr/Measures" "p1" "D" (.double d0) := f41.other W49 (Or.inr (slot_ne (Or.inr (hw _ (List.mem_of_getElem? (i := 15) rfl))) (Or.inr (hw _ (List.mem_of_getElem? (i := 23) rfl))) (by decide) (t := .double) (t' := .double) (by decide) (by decide)))
  have f53 : Fld Z h49 a "com/example/mehr/mehr/Measures" "p2" "D" (.double d1) := f42.other W49 (Or.inr (slot_ne (Or.inr (hw _ (List.mem_of_getElem? (i := 17) rfl))) (Or.inr (hw _ (List.mem_of_getElem? (i := 23) rfl))) (by decide) (t := .double) (t' := .double) (by decide) (by decide)))
  have f54 : Fld Z h49 a "com/example/mehr/mehr/Measures" "p5" "D" (.double d2) := f43.other W49 (Or.inr (slot_ne (Or.inr (hw _ (List.mem_of_getElem? (i := 19) rfl))) (Or.inr (hw _ (List.mem_of_getElem? (i := 23) rfl))) (by decide) (t := .double) (t' := .double) (by decide) (by decide)))
  have f55 : Fld Z h49 a "com/example/mehr/mehr/Measures" "p10" "D" (.double d3) := f39.other W49 (Or.inr (slot_ne (Or.inr (hw _ (List.mem_of_getElem? (i := 21) rfl))) (Or.inr (hw _ (List.mem_of_getElem? (i := 23) rfl))) (by decide) (t := .double) (t' := .double) (by decide) (by decide)))
  have f56 : Fld Z h49 a "com/example/mehr/mehr/Measures" "rr" "D" (.double 0) := f45.other W49 (Or.inr (slot_ne (Or.inr (hw _ (List.mem_of_getElem? (i := 25) rfl))) (Or.inr (hw _ (List.mem_of_getElem? (i := 23) rfl))) (by decide) (t := .double) (t' := .double) (by decide) (by decide)))
  have O57 := O46.wr W49 u7
  have K58 := K47.wr W49 (Or.inl (List.mem_of_getElem? (i := 0) rfl))
  have N59 := Fr.snoc X49 N48 u7
  have f50 : Fld Z h49 a "com/example/mehr/mehr/Measures" "ndcg10" "D" (.double d4) := f44.same W49
  show G (T49.setTop (mkF me_ 32 #[.val (.ref a), .val (.double d0), .second, .val (.double d1), .second, .val (.double d2), .second, .val (.double d3), .second, .val (.double d4), .second, .val (.double d5), .second] []))
  refine gv (fun tQ kQ => XS.aloadN X49.here hx rfl (hb hby d1_32) rfl rfl kQ) ?_
  show G (T49.setTop (mkF me_ 33 #[.val (.ref a), .val (.double d0), .second, .val (.double d1), .second, .val (.double d2), .second, .val (.double d3), .second, .val (.double d4), .second, .val (.double d5), .second] [(.ref a)]))
  refine gv (fun tQ kQ => XS.dload X49.here hx rfl (hb hby d1_33) rfl kQ) ?_
  show G (T49.setTop (mkF me_ 35 #[.val (.ref a), .val (.double d0), .second, .val (.double d1), .second, .val (.double d2), .second, .val (.double d3), .second, .val (.double d4), .second, .val (.double d5), .second] [(.double d5), (.ref a)]))
  obtain ⟨T60, h60, X60, e60, W60, st60⟩ := putF X49 hx hZ hown (host := "") (Or.inl (hw _ (List.mem_of_getElem? (i := 24) rfl))) Via.refl e49 f56 f51 (Or.inr ⟨(hw _ (List.mem_of_getElem? (i := 25) rfl)), rfl, hnm⟩) (hw _ (List.mem_of_getElem? (i := 1) rfl)) (ty := .double) (by decide) rfl rfl (g := (mkF me_ 35 #[.val (.ref a), .val (.double d0), .second, .val (.double d1), .second, .val (.double d2), .second, .val (.double d3), .second, .val (.double d4), .second, .val (.double d5), .second] [(.double d5), (.ref a)])) rfl rfl (hb hby d1_35)
  refine gv st60 ?_
  have f62 : Exa Z h60 a "com/example/mehr/mehr/Measures" := f51.wr W60
  have f63 : Fld Z h60 a "com/example/mehr/mehr/Measures" "p1" "D" (.double d0) := f52.other W60 (Or.inr (slot_ne (Or.inr (hw _ (List.mem_of_getElem? (i := 15) rfl))) (Or.inr (hw _ (List.mem_of_getElem? (i := 25) rfl))) (by decide) (t := .double) (t' := .double) (by decide) (by decide)))
  have f64 : Fld Z h60 a "com/example/mehr/mehr/Measures" "p2" "D" (.double d1) := f53.other W60 (Or.inr (slot_ne (Or.inr (hw _ (List.mem_of_getElem? (i := 17) rfl))) (Or.inr (hw _ (List.mem_of_getElem? (i := 25) rfl))) (by decide) (t := .double) (t' := .double) (by decide) (by decide)))
  have f65 : Fld Z h60 a "com/example/mehr/mehr/Measures" "p5" "D" (.double d2) := f54.other W60 (Or.inr (slot_ne (Or.inr (hw _ (List.mem_of_getElem? (i := 19) rfl))) (Or.inr (hw _ (List.mem_of_getElem? (i := 25) rfl))) (by decide) (t := .double) (t' := .double) (by decide) (by decide)))
  have f66 : Fld Z h60 a "com/example/mehr/mehr/Measures" "p10" "D" (.double d3) := f55.other W60 (Or.inr (slot_ne (Or.inr (hw _ (List.mem_of_getElem? (i := 21) rfl))) (Or.inr (hw _ (List.mem_of_getElem? (i := 25) rfl))) (by decide) (t := .double) (t' := .double) (by decide) (by decide)))
  have f67 : Fld Z h60 a "com/example/mehr/mehr/Measures" "ndcg10" "D" (.double d4) := f50.other W60 (Or.inr (slot_ne (Or.inr (hw _ (List.mem_of_getElem? (i := 23) rfl))) (Or.inr (hw _ (List.mem_of_getElem? (i := 25) rfl))) (by decide) (t := .double) (t' := .double) (by decide) (by decide)))
  have O68 := O57.wr W60 u7
  have K69 := K58.wr W60 (Or.inl (List.mem_of_getElem? (i := 0) rfl))
  have N70 := Fr.snoc X60 N59 u7
  have f61 : Fld Z h60 a "com/example/mehr/mehr/Measures" "rr" "D" (.double d5) := f56.same W60
  show G (T60.setTop (mkF me_ 38 #[.val (.ref a), .val (.double d0), .second, .val (.double d1), .second, .val (.double d2), .second, .val (.double d3), .second, .val (.double d4), .second, .val (.double d5), .second] []))
  refine gf _ (own_ret X60 Bd.notSynchronized (v := none) (fun _ => rfl) ?_ (by decide) (by decide) (fun fs hr => X60.returnOut hx Bd.returns (hb hby d1_38) hr))
  show Q_mi Z a d0 d1 d2 d3 d4 d5 h0 n0 _ T60.heap _
  rw [e60]
  exact ⟨rfl, N70, K69, f62, f63, f64, f65, f66, f67, f61⟩
theorem ef_2 (m : MethodId) (x0 : Addr) (x1 : UInt64)  : entryFrame m #[(.ref x0), (.double x1)] 3 = mkF m 0 #[.val (.ref x0), .val (.double x1), .second] [] := by first | (simp [entryFrame, mkF, argsToLocals, Value.category]; done) | rfl
theorem pn_3 : plainName "java/lang/Double" = true := by first | (simp [plainName, overriddenIn]; done) | decide +kernel
theorem d6_0 : decode jdk_117_method_9_code 0 = .ok (.aload_n 0, 1) := by decide +kernel
theorem d6_1 : decode jdk_117_method_9_code 1 = .ok (.invokespecial 113, 3) := by decide +kernel
theorem d6_4 : decode jdk_117_method_9_code 4 = .ok (.aload_n 0, 1) := by decide +kernel
theorem d6_5 : decode jdk_117_method_9_code 5 = .ok (.dload_n 1, 1) := by decide +kernel
theorem d6_6 : decode jdk_117_method_9_code 6 = .ok (.putfield 118, 3) := by decide +kernel
theorem d6_9 : decode jdk_117_method_9_code 9 = .ok (.return_, 1) := by decide +kernel
def Q_dbi (Z : State) (a : Addr) (d : UInt64) (h0 : Heap) (n0 : Nat) (v : Option Value) (h : Heap) (L : List Loc) : Prop := v = none ∧ Fr n0 L ∧ Keep h0 h [a] ∧ (Exa Z h a "java/lang/Double") ∧ (Fld Z h a "java/lang/Double" "value" "D" (.double d))
set_option maxRecDepth 65536 in
set_option maxHeartbeats 40000000 in
theorem rm_dbi (l : Launch) (Z : State) (a0 : Array Value) (hw : ∀ d ∈ tables_1, d.before a0 Z = true) (ws : List Jvm.Cond) (a : Addr) (d : UInt64) (h0 : Heap) (n0 : Nat) (O0 : Old Z n0 h0) (u0 : Exa Z h0 a "java/lang/Double") (u1 : Fld Z h0 a "java/lang/Double" "value" "D" (.double 0)) (u2 : n0 ≤ a) :
    MetFree l (⟨"java/lang/Double", "<init>", "(D)V"⟩ : MethodName) (head1 (Jvm.Cond.code (⟨"java/lang/Double", "<init>", "(D)V"⟩ : MethodName) jdk_117_method_9_code 3 none :: ws) ({ frames := 2, cells := 0, slots := 0, locals := 24 } : Room)) (fun aV U => aV = #[(.ref a), (.double d)] ∧ Z.Warmed39 U.vm ∧ U.heap = h0) (fun _ _ _ _ _ => True) (fun _ U o U' => ∃ v L, o = .returned v ∧ Q_dbi Z a d h0 n0 v U'.heap L ∧ FrameEnd U o U' L ({ frames := 2, cells := 0, slots := 0, locals := 24 } : Room).cells ({ frames := 2, cells := 0, slots := 0, locals := 24 } : Room).slots) := by
  refine MetFree.of_bodySF (plainFor_of_name pn_3) hisR ?_
  intro pr_ en_ st_ me_ args below meth_ co_ s₁ Bd hml0 hP hK
  obtain ⟨rfl, hZ, hh⟩ := hP
  have hx := Bd.exec
  have hby := Bd.bytes
  have hml : co_.maxLocals = 3 := hml0
  have hown : st_.vm.findClass "java/lang/Double" = some me_.cls := findClass_of_methodNamed Bd.named
  have hnm := (name_of_methodNamed Bd.named Bd.method).1
  have X0 : Stand pr_ l en_ ({ frames := 2, cells := 0, slots := 0, locals := 24 } : Room) st_ me_ #[(.ref a), (.double d)] below meth_ co_ s₁ [] 0 0 := Stand.of_body Bd
  have e0 : s₁.heap = h0 := by rw [← hh, Bd.state]; rfl
  have N0 := Fr.nil n0
  have K0 := Keep.refl h0 [a]
  obtain ⟨G, gv, gf, gb⟩ := own_G pr_.tables en_ below st_ (Q_dbi Z a d h0 n0) ({ frames := 2, cells := 0, slots := 0, locals := 24 } : Room).cells ({ frames := 2, cells := 0, slots := 0, locals := 24 } : Room).slots
  show own_Fin pr_.tables en_ below st_ (Q_dbi Z a d h0 n0) ({ frames := 2, cells := 0, slots := 0, locals := 24 } : Room).cells ({ frames := 2, cells := 0, slots := 0, locals := 24 } : Room).slots (s₁.setTop (entryFrame me_ #[(.ref a), (.double d)] 3))
  refine gb _ (gv (fun tQ kQ => castTop (ef_2 me_ a d) kQ) ?_)
  show G (s₁.setTop (mkF me_ 0 #[.val (.ref a), .val (.double d), .second] []))
  refine gv (fun tQ kQ => XS.aloadN X0.here hx rfl (hb hby d6_0) rfl rfl kQ) ?_
  show G (s₁.setTop (mkF me_ 1 #[.val (.ref a), .val (.double d), .second] [(.ref a)]))
  obtain ⟨_, _, ⟨T71, L71, k71, n71⟩, -, X71, ⟨Lc71, hQ71, l71, y71, z71⟩, st71⟩ := X0.specialBack hx (y := (⟨"java/lang/Number", "<init>", "()V"⟩ : MethodName)) rfl hown (mvT hZ (hw _ (List.mem_of_getElem? (i := 41) rfl))) (mvT hZ (hw _ (List.mem_of_getElem? (i := 42) rfl))) (mvT hZ (hw _ (List.mem_of_getElem? (i := 46) rfl))) (by decide) (backOf (W := 0) (rm_num l Z a0 hw [] a h0 n0 O0 ) hZ (hw _ (List.mem_of_getElem? (i := 46) rfl)) (hw _ (List.mem_of_getElem? (i := 45) rfl)) (by decide) (by decide)) (g := (mkF me_ 1 #[.val (.ref a), .val (.double d), .second] [(.ref a)])) rfl (by rw [hml]; rfl) (Steps.refl _) (a := a) (argsL := []) (rest := []) (lenOf pd_0 rfl) rfl (by show 2 * 0 + _ ≤ _; exact Nat.le_of_eq rfl) (hb hby d6_1) (fun _ _ => ⟨rfl, e0, (by decide : 0 + 0 ≤ _), (by decide : 0 + 0 ≤ _)⟩)
  dsimp only [Pt.U, Pt.locs, Pt.cells, Pt.slots] at X71 l71 y71 z71 st71 hQ71
  subst l71 y71 z71
  obtain ⟨rfl, Nq71, eq71⟩ := hQ71
  have N72 := Fr.app N0 Nq71
  refine gv (fun tQ kQ => st71.trans kQ) ?_
  show G (T71.setTop (mkF me_ 4 #[.val (.ref a), .val (.double d), .second] []))
  refine gv (fun tQ kQ => XS.aloadN X71.here hx rfl (hb hby d6_4) rfl rfl kQ) ?_
  show G (T71.setTop (mkF me_ 5 #[.val (.ref a), .val (.double d), .second] [(.ref a)]))
  refine gv (fun tQ kQ => XS.dloadN X71.here hx rfl (hb hby d6_5) rfl kQ) ?_
  show G (T71.setTop (mkF me_ 6 #[.val (.ref a), .val (.double d), .second] [(.double d), (.ref a)]))
  obtain ⟨T73, h73, X73, e73, W73, st73⟩ := putF X71 hx hZ hown (host := "") (Or.inl (hw _ (List.mem_of_getElem? (i := 48) rfl))) Via.refl eq71 u1 u0 (Or.inr ⟨(hw _ (List.mem_of_getElem? (i := 49) rfl)), rfl, hnm⟩) (hw _ (List.mem_of_getElem? (i := 36) rfl)) (ty := .double) (by decide) rfl rfl (g := (mkF me_ 6 #[.val (.ref a), .val (.double d), .second] [(.double d), (.ref a)])) rfl rfl (hb hby d6_6)
  refine gv st73 ?_
  have f75 : Exa Z h73 a "java/lang/Double" := u0.wr W73
  have O76 := O0.wr W73 u2
  have K77 := K0.wr W73 (Or.inl (List.mem_of_getElem? (i := 0) rfl))
  have N78 := Fr.snoc X73 N72 u2
  have f74 : Fld Z h73 a "java/lang/Double" "value" "D" (.double d) := u1.same W73
  show G (T73.setTop (mkF me_ 9 #[.val (.ref a), .val (.double d), .second] []))
  refine gf _ (own_ret X73 Bd.notSynchronized (v := none) (fun _ => rfl) ?_ (by decide) (by decide) (fun fs hr => X73.returnOut hx Bd.returns (hb hby d6_9) hr))
  show Q_dbi Z a d h0 n0 _ T73.heap _
  rw [e73]
  exact ⟨rfl, N78, K77, f75, f74⟩
theorem ef_3 (m : MethodId) (x0 : UInt64)  : entryFrame m #[(.double x0)] 2 = mkF m 0 #[.val (.double x0), .second] [] := by first | (simp [entryFrame, mkF, argsToLocals, Value.category]; done) | rfl
theorem d5_0 : decode jdk_117_method_4_code 0 = .ok (.new 1, 3) := by decide +kernel
theorem d5_3 : decode jdk_117_method_4_code 3 = .ok (.dup, 1) := by decide +kernel
theorem d5_4 : decode jdk_117_method_4_code 4 = .ok (.dload_n 0, 1) := by decide +kernel
theorem d5_5 : decode jdk_117_method_4_code 5 = .ok (.invokespecial 105, 3) := by decide +kernel
theorem pd_1 : parseMethodDescriptor "(D)V" = some ⟨[.double], none⟩ := by decide +kernel
theorem d5_8 : decode jdk_117_method_4_code 8 = .ok (.areturn, 1) := by decide +kernel
def Q_dvo (Z : State) (d : UInt64) (h0 : Heap) (n0 : Nat) (v : Option Value) (h : Heap) (L : List Loc) : Prop := ∃ (r : Addr), v = some (.ref r) ∧ Fr n0 L ∧ Keep h0 h [] ∧ h0.size ≤ r ∧ (Exa Z h r "java/lang/Double") ∧ (Fld Z h r "java/lang/Double" "value" "D" (.double d))
set_option maxRecDepth 65536 in
set_option maxHeartbeats 40000000 in
theorem rm_dvo (l : Launch) (Z : State) (a0 : Array Value) (hw : ∀ d ∈ tables_1, d.before a0 Z = true) (ws : List Jvm.Cond) (d : UInt64) (h0 : Heap) (n0 : Nat) (O0 : Old Z n0 h0)  :
    MetFree l (⟨"java/lang/Double", "valueOf", "(D)Ljava/lang/Double;"⟩ : MethodName) (head1 (Jvm.Cond.code (⟨"java/lang/Double", "valueOf", "(D)Ljava/lang/Double;"⟩ : MethodName) jdk_117_method_4_code 2 (some (.object "java/lang/Double")) :: ws) ({ frames := 3, cells := 1, slots := 1, locals := 39 } : Room)) (fun aV U => aV = #[(.double d)] ∧ Z.Warmed39 U.vm ∧ U.heap = h0) (fun _ _ _ _ _ => True) (fun _ U o U' => ∃ v L, o = .returned v ∧ Q_dvo Z d h0 n0 v U'.heap L ∧ FrameEnd U o U' L ({ frames := 3, cells := 1, slots := 1, locals := 39 } : Room).cells ({ frames := 3, cells := 1, slots := 1, locals := 39 } : Room).slots) := by
  refine MetFree.of_bodySF (plainFor_of_name pn_3) hisR ?_
  intro pr_ en_ st_ me_ args below meth_ co_ s₁ Bd hml0 hP hK
  obtain ⟨rfl, hZ, hh⟩ := hP
  have hx := Bd.exec
  have hby := Bd.bytes
  have hml : co_.maxLocals = 2 := hml0
  have hown : st_.vm.findClass "java/lang/Double" = some me_.cls := findClass_of_methodNamed Bd.named
  have hnm := (name_of_methodNamed Bd.named Bd.method).1
  have X0 : Stand pr_ l en_ ({ frames := 3, cells := 1, slots := 1, locals := 39 } : Room) st_ me_ #[(.double d)] below meth_ co_ s₁ [] 0 0 := Stand.of_body Bd
  have e0 : s₁.heap = h0 := by rw [← hh, Bd.state]; rfl
  have N0 := Fr.nil n0
  have K0 := Keep.refl h0 []
  obtain ⟨G, gv, gf, gb⟩ := own_G pr_.tables en_ below st_ (Q_dvo Z d h0 n0) ({ frames := 3, cells := 1, slots := 1, locals := 39 } : Room).cells ({ frames := 3, cells := 1, slots := 1, locals := 39 } : Room).slots
  show own_Fin pr_.tables en_ below st_ (Q_dvo Z d h0 n0) ({ frames := 3, cells := 1, slots := 1, locals := 39 } : Room).cells ({ frames := 3, cells := 1, slots := 1, locals := 39 } : Room).slots (s₁.setTop (entryFrame me_ #[(.double d)] 2))
  refine gb _ (gv (fun tQ kQ => castTop (ef_3 me_ d) kQ) ?_)
  show G (s₁.setTop (mkF me_ 0 #[.val (.double d), .second] []))
  obtain ⟨T79, h79, X79, e79, E79, A79, D79, -, st79⟩ := newO X0 hx hZ hown (hw _ (List.mem_of_getElem? (i := 35) rfl)) (hw _ (List.mem_of_getElem? (i := 36) rfl)) (hw _ (List.mem_of_getElem? (i := 33) rfl)) e0 (g := (mkF me_ 0 #[.val (.double d), .second] [])) rfl (hb hby d5_0) (by decide) (by decide)
  obtain ⟨b79, g79⟩ : ∃ z, z = h0.size := ⟨_, rfl⟩
  rw [← g79] at A79 D79 st79
  refine gv st79 ?_
  have g80 : n0 ≤ b79 := Nat.le_trans (own_old O0) (Nat.le_of_eq g79.symm)
  have z81 : h0.size ≤ b79 := Nat.le_trans K0.1 (Nat.le_of_eq g79.symm)
  have O82 := O0.ext E79
  have K83 := K0.ext E79
  have f84 : Fld Z h79 b79 "java/lang/Double" "value" "D" (.double 0) := D79 (Or.inr (hw _ (List.mem_of_getElem? (i := 49) rfl))) (ty := .double) (by decide)
  show G (T79.setTop (mkF me_ 3 #[.val (.double d), .second] [(.ref b79)]))
  refine gv (fun tQ kQ => XS.dup X79.here hx rfl (hb hby d5_3) rfl rfl kQ) ?_
  show G (T79.setTop (mkF me_ 4 #[.val (.double d), .second] [(.ref b79), (.ref b79)]))
  refine gv (fun tQ kQ => XS.dloadN X79.here hx rfl (hb hby d5_4) rfl kQ) ?_
  show G (T79.setTop (mkF me_ 5 #[.val (.double d), .second] [(.double d), (.ref b79), (.ref b79)]))
  obtain ⟨_, _, ⟨T85, L85, k85, n85⟩, -, X85, ⟨Lc85, hQ85, l85, y85, z85⟩, st85⟩ := X79.specialBack hx (y := (⟨"java/lang/Double", "<init>", "(D)V"⟩ : MethodName)) rfl hown (mvT hZ (hw _ (List.mem_of_getElem? (i := 37) rfl))) (mvT hZ (hw _ (List.mem_of_getElem? (i := 38) rfl))) (mvT hZ (hw _ (List.mem_of_getElem? (i := 40) rfl))) (by decide) (backOf (W := 1) (rm_dbi l Z a0 hw [] b79 d h79 n0 O82 A79 f84 g80) hZ (hw _ (List.mem_of_getElem? (i := 40) rfl)) (hw _ (List.mem_of_getElem? (i := 33) rfl)) (by decide) (by decide)) (g := (mkF me_ 5 #[.val (.double d), .second] [(.double d), (.ref b79), (.ref b79)])) rfl (by rw [hml]; rfl) (Steps.refl _) (a := b79) (argsL := [(.double d)]) (rest := [(.ref b79)]) (lenOf pd_1 rfl) rfl (by show 2 * 0 + _ ≤ _; exact Nat.le_of_eq rfl) (hb hby d5_5) (fun _ _ => ⟨rfl, e79, (by decide : 1 + 0 ≤ _), (by decide : 1 + 0 ≤ _)⟩)
  dsimp only [Pt.U, Pt.locs, Pt.cells, Pt.slots] at X85 l85 y85 z85 st85 hQ85
  subst l85 y85 z85
  obtain ⟨rfl, Nq85, Kq85, w85_0, w85_1⟩ := hQ85
  have N86 := Fr.app N0 Nq85
  obtain ⟨h85, e85⟩ : ∃ z, T85.heap = z := ⟨_, rfl⟩
  rw [e85] at Kq85 w85_0 w85_1
  have f87 : Exa Z h85 b79 "java/lang/Double" := A79.keep Kq85
  have O88 := O82.keep Kq85 (allS g80 all0)
  have K89 := K83.trans Kq85 (allS (Or.inr z81) all0)
  refine gv (fun tQ kQ => st85.trans kQ) ?_
  show G (T85.setTop (mkF me_ 8 #[.val (.double d), .second] [(.ref b79)]))
  refine gf _ (own_ret X85 Bd.notSynchronized (v := some (.ref b79)) (fun h => by rw [Bd.returns] at h; cases h) ?_ (by decide) (by decide) (fun fs hr => retOut X85 hx (t := (.object "java/lang/Double")) Bd.returns rfl (Or.inr (Or.inr (Or.inr (Or.inr ⟨rfl, rfl, rfl⟩)))) (hb hby d5_8) hr))
  show Q_dvo Z d h0 n0 _ T85.heap _
  rw [e85]
  exact ⟨b79, rfl, N86, K89, z81, w85_0, w85_1⟩
theorem pn_4 : plainName "java/util/AbstractCollection" = true := by first | (simp [plainName, overriddenIn]; done) | decide +kernel
theorem d14_0 : decode jdk_22_method_1_code 0 = .ok (.aload_n 0, 1) := by decide +kernel
theorem d14_1 : decode jdk_22_method_1_code 1 = .ok (.invokespecial 1, 3) := by decide +kernel
theorem d14_4 : decode jdk_22_method_1_code 4 = .ok (.return_, 1) := by decide +kernel
def Q_abc (Z : State) (a : Addr) (h0 : Heap) (n0 : Nat) (v : Option Value) (h : Heap) (L : List Loc) : Prop := v = none ∧ Fr n0 L ∧ h = h0
set_option maxRecDepth 65536 in
set_option maxHeartbeats 40000000 in
theorem rm_abc (l : Launch) (Z : State) (a0 : Array Value) (hw : ∀ d ∈ tables_1, d.before a0 Z = true) (ws : List Jvm.Cond) (a : Addr) (h0 : Heap) (n0 : Nat) (O0 : Old Z n0 h0)  :
    MetFree l (⟨"java/util/AbstractCollection", "<init>", "()V"⟩ : MethodName) (head1 (Jvm.Cond.code (⟨"java/util/AbstractCollection", "<init>", "()V"⟩ : MethodName) jdk_22_method_1_code 1 none :: ws) ({ frames := 1, cells := 0, slots := 0, locals := 12 } : Room)) (fun aV U => aV = #[(.ref a)] ∧ Z.Warmed39 U.vm ∧ U.heap = h0) (fun _ _ _ _ _ => True) (fun _ U o U' => ∃ v L, o = .returned v ∧ Q_abc Z a h0 n0 v U'.heap L ∧ FrameEnd U o U' L ({ frames := 1, cells := 0, slots := 0, locals := 12 } : Room).cells ({ frames := 1, cells := 0, slots := 0, locals := 12 } : Room).slots) := by
  refine MetFree.of_bodySF (plainFor_of_name pn_4) hisR ?_
  intro pr_ en_ st_ me_ args below meth_ co_ s₁ Bd hml0 hP hK
  obtain ⟨rfl, hZ, hh⟩ := hP
  have hx := Bd.exec
  have hby := Bd.bytes
  have hml : co_.maxLocals = 1 := hml0
  have hown : st_.vm.findClass "java/util/AbstractCollection" = some me_.cls := findClass_of_methodNamed Bd.named
  have hnm := (name_of_methodNamed Bd.named Bd.method).1
  have X0 : Stand pr_ l en_ ({ frames := 1, cells := 0, slots := 0, locals := 12 } : Room) st_ me_ #[(.ref a)] below meth_ co_ s₁ [] 0 0 := Stand.of_body Bd
  have e0 : s₁.heap = h0 := by rw [← hh, Bd.state]; rfl
  have N0 := Fr.nil n0
  have K0 := Keep.refl h0 []
  obtain ⟨G, gv, gf, gb⟩ := own_G pr_.tables en_ below st_ (Q_abc Z a h0 n0) ({ frames := 1, cells := 0, slots := 0, locals := 12 } : Room).cells ({ frames := 1, cells := 0, slots := 0, locals := 12 } : Room).slots
  show own_Fin pr_.tables en_ below st_ (Q_abc Z a h0 n0) ({ frames := 1, cells := 0, slots := 0, locals := 12 } : Room).cells ({ frames := 1, cells := 0, slots := 0, locals := 12 } : Room).slots (s₁.setTop (entryFrame me_ #[(.ref a)] 1))
  refine gb _ (gv (fun tQ kQ => castTop (ef_0 me_ a) kQ) ?_)
  show G (s₁.setTop (mkF me_ 0 #[.val (.ref a)] []))
  refine gv (fun tQ kQ => XS.aloadN X0.here hx rfl (hb hby d14_0) rfl rfl kQ) ?_
  show G (s₁.setTop (mkF me_ 1 #[.val (.ref a)] [(.ref a)]))
  obtain ⟨T90, X90, e90, st90⟩ := initO X0 hx hZ hown (hw _ (List.mem_of_getElem? (i := 91) rfl)) (hw _ (List.mem_of_getElem? (i := 12) rfl)) (hw _ (List.mem_of_getElem? (i := 13) rfl)) e0 (g := (mkF me_ 1 #[.val (.ref a)] [(.ref a)])) rfl (by rw [hml]; rfl) rfl (hb hby d14_1) (by decide) (W := 0) (by show 2 * 0 + _ ≤ _; exact Nat.le_of_eq rfl) (by decide)
  refine gv st90 ?_
  show G (T90.setTop (mkF me_ 4 #[.val (.ref a)] []))
  refine gf _ (own_ret X90 Bd.notSynchronized (v := none) (fun _ => rfl) ?_ (by decide) (by decide) (fun fs hr => X90.returnOut hx Bd.returns (hb hby d14_4) hr))
  show Q_abc Z a h0 n0 _ T90.heap _
  rw [e90]
  exact ⟨rfl, N0, rfl⟩
theorem pn_5 : plainName "java/util/ImmutableCollections$AbstractImmutableCollection" = true := by first | (simp [plainName, overriddenIn]; done) | decide +kernel
theorem d13_0 : decode jdk_47_method_1_code 0 = .ok (.aload_n 0, 1) := by decide +kernel
theorem d13_1 : decode jdk_47_method_1_code 1 = .ok (.invokespecial 1, 3) := by decide +kernel
theorem d13_4 : decode jdk_47_method_1_code 4 = .ok (.return_, 1) := by decide +kernel
def Q_aic (Z : State) (a : Addr) (h0 : Heap) (n0 : Nat) (v : Option Value) (h : Heap) (L : List Loc) : Prop := v = none ∧ Fr n0 L ∧ h = h0
set_option maxRecDepth 65536 in
set_option maxHeartbeats 40000000 in
theorem rm_aic (l : Launch) (Z : State) (a0 : Array Value) (hw : ∀ d ∈ tables_1, d.before a0 Z = true) (ws : List Jvm.Cond) (a : Addr) (h0 : Heap) (n0 : Nat) (O0 : Old Z n0 h0)  :
    MetFree l (⟨"java/util/ImmutableCollections$AbstractImmutableCollection", "<init>", "()V"⟩ : MethodName) (head1 (Jvm.Cond.code (⟨"java/util/ImmutableCollections$AbstractImmutableCollection", "<init>", "()V"⟩ : MethodName) jdk_47_method_1_code 1 none :: ws) ({ frames := 2, cells := 0, slots := 0, locals := 24 } : Room)) (fun aV U => aV = #[(.ref a)] ∧ Z.Warmed39 U.vm ∧ U.heap = h0) (fun _ _ _ _ _ => True) (fun _ U o U' => ∃ v L, o = .returned v ∧ Q_aic Z a h0 n0 v U'.heap L ∧ FrameEnd U o U' L ({ frames := 2, cells := 0, slots := 0, locals := 24 } : Room).cells ({ frames := 2, cells := 0, slots := 0, locals := 24 } : Room).slots) := by
  refine MetFree.of_bodySF (plainFor_of_name pn_5) hisR ?_
  intro pr_ en_ st_ me_ args below meth_ co_ s₁ Bd hml0 hP hK
  obtain ⟨rfl, hZ, hh⟩ := hP
  have hx := Bd.exec
  have hby := Bd.bytes
  have hml : co_.maxLocals = 1 := hml0
  have hown : st_.vm.findClass "java/util/ImmutableCollections$AbstractImmutableCollection" = some me_.cls := findClass_of_methodNamed Bd.named
  have hnm := (name_of_methodNamed Bd.named Bd.method).1
  have X0 : Stand pr_ l en_ ({ frames := 2, cells := 0, slots := 0, locals := 24 } : Room) st_ me_ #[(.ref a)] below meth_ co_ s₁ [] 0 0 := Stand.of_body Bd
  have e0 : s₁.heap = h0 := by rw [← hh, Bd.state]; rfl
  have N0 := Fr.nil n0
  have K0 := Keep.refl h0 []
  obtain ⟨G, gv, gf, gb⟩ := own_G pr_.tables en_ below st_ (Q_aic Z a h0 n0) ({ frames := 2, cells := 0, slots := 0, locals := 24 } : Room).cells ({ frames := 2, cells := 0, slots := 0, locals := 24 } : Room).slots
  show own_Fin pr_.tables en_ below st_ (Q_aic Z a h0 n0) ({ frames := 2, cells := 0, slots := 0, locals := 24 } : Room).cells ({ frames := 2, cells := 0, slots := 0, locals := 24 } : Room).slots (s₁.setTop (entryFrame me_ #[(.ref a)] 1))
  refine gb _ (gv (fun tQ kQ => castTop (ef_0 me_ a) kQ) ?_)
  show G (s₁.setTop (mkF me_ 0 #[.val (.ref a)] []))
  refine gv (fun tQ kQ => XS.aloadN X0.here hx rfl (hb hby d13_0) rfl rfl kQ) ?_
  show G (s₁.setTop (mkF me_ 1 #[.val (.ref a)] [(.ref a)]))
  obtain ⟨_, _, ⟨T91, L91, k91, n91⟩, -, X91, ⟨Lc91, hQ91, l91, y91, z91⟩, st91⟩ := X0.specialBack hx (y := (⟨"java/util/AbstractCollection", "<init>", "()V"⟩ : MethodName)) rfl hown (mvT hZ (hw _ (List.mem_of_getElem? (i := 85) rfl))) (mvT hZ (hw _ (List.mem_of_getElem? (i := 86) rfl))) (mvT hZ (hw _ (List.mem_of_getElem? (i := 90) rfl))) (by decide) (backOf (W := 0) (rm_abc l Z a0 hw [] a h0 n0 O0 ) hZ (hw _ (List.mem_of_getElem? (i := 90) rfl)) (hw _ (List.mem_of_getElem? (i := 89) rfl)) (by decide) (by decide)) (g := (mkF me_ 1 #[.val (.ref a)] [(.ref a)])) rfl (by rw [hml]; rfl) (Steps.refl _) (a := a) (argsL := []) (rest := []) (lenOf pd_0 rfl) rfl (by show 2 * 0 + _ ≤ _; exact Nat.le_of_eq rfl) (hb hby d13_1) (fun _ _ => ⟨rfl, e0, (by decide : 0 + 0 ≤ _), (by decide : 0 + 0 ≤ _)⟩)
  dsimp only [Pt.U, Pt.locs, Pt.cells, Pt.slots] at X91 l91 y91 z91 st91 hQ91
  subst l91 y91 z91
  obtain ⟨rfl, Nq91, eq91⟩ := hQ91
  have N92 := Fr.app N0 Nq91
  refine gv (fun tQ kQ => st91.trans kQ) ?_
  show G (T91.setTop (mkF me_ 4 #[.val (.ref a)] []))
  refine gf _ (own_ret X91 Bd.notSynchronized (v := none) (fun _ => rfl) ?_ (by decide) (by decide) (fun fs hr => X91.returnOut hx Bd.returns (hb hby d13_4) hr))
  show Q_aic Z a h0 n0 _ T91.heap _
  rw [eq91]
  exact ⟨rfl, N92, rfl⟩
theorem pn_6 : plainName "java/util/ImmutableCollections$AbstractImmutableList" = true := by first | (simp [plainName, overriddenIn]; done) | decide +kernel
theorem d12_0 : decode jdk_46_method_1_code 0 = .ok (.aload_n 0, 1) := by decide +kernel
theorem d12_1 : decode jdk_46_method_1_code 1 = .ok (.invokespecial 1, 3) := by decide +kernel
theorem d12_4 : decode jdk_46_method_1_code 4 = .ok (.return_, 1) := by decide +kernel
def Q_ail (Z : State) (a : Addr) (h0 : Heap) (n0 : Nat) (v : Option Value) (h : Heap) (L : List Loc) : Prop := v = none ∧ Fr n0 L ∧ h = h0
set_option maxRecDepth 65536 in
set_option maxHeartbeats 40000000 in
theorem rm_ail (l : Launch) (Z : State) (a0 : Array Value) (hw : ∀ d ∈ tables_1, d.before a0 Z = true) (ws : List Jvm.Cond) (a : Addr) (h0 : Heap) (n0 : Nat) (O0 : Old Z n0 h0)  :
    MetFree l (⟨"java/util/ImmutableCollections$AbstractImmutableList", "<init>", "()V"⟩ : MethodName) (head1 (Jvm.Cond.code (⟨"java/util/ImmutableCollections$AbstractImmutableList", "<init>", "()V"⟩ : MethodName) jdk_46_method_1_code 1 none :: ws) ({ frames := 3, cells := 0, slots := 0, locals := 36 } : Room)) (fun aV U => aV = #[(.ref a)] ∧ Z.Warmed39 U.vm ∧ U.heap = h0) (fun _ _ _ _ _ => True) (fun _ U o U' => ∃ v L, o = .returned v ∧ Q_ail Z a h0 n0 v U'.heap L ∧ FrameEnd U o U' L ({ frames := 3, cells := 0, slots := 0, locals := 36 } : Room).cells ({ frames := 3, cells := 0, slots := 0, locals := 36 } : Room).slots) := by
  refine MetFree.of_bodySF (plainFor_of_name pn_6) hisR ?_
  intro pr_ en_ st_ me_ args below meth_ co_ s₁ Bd hml0 hP hK
  obtain ⟨rfl, hZ, hh⟩ := hP
  have hx := Bd.exec
  have hby := Bd.bytes
  have hml : co_.maxLocals = 1 := hml0
  have hown : st_.vm.findClass "java/util/ImmutableCollections$AbstractImmutableList" = some me_.cls := findClass_of_methodNamed Bd.named
  have hnm := (name_of_methodNamed Bd.named Bd.method).1
  have X0 : Stand pr_ l en_ ({ frames := 3, cells := 0, slots := 0, locals := 36 } : Room) st_ me_ #[(.ref a)] below meth_ co_ s₁ [] 0 0 := Stand.of_body Bd
  have e0 : s₁.heap = h0 := by rw [← hh, Bd.state]; rfl
  have N0 := Fr.nil n0
  have K0 := Keep.refl h0 []
  obtain ⟨G, gv, gf, gb⟩ := own_G pr_.tables en_ below st_ (Q_ail Z a h0 n0) ({ frames := 3, cells := 0, slots := 0, locals := 36 } : Room).cells ({ frames := 3, cells := 0, slots := 0, locals := 36 } : Room).slots
  show own_Fin pr_.tables en_ below st_ (Q_ail Z a h0 n0) ({ frames := 3, cells := 0, slots := 0, locals := 36 } : Room).cells ({ frames := 3, cells := 0, slots := 0, locals := 36 } : Room).slots (s₁.setTop (entryFrame me_ #[(.ref a)] 1))
  refine gb _ (gv (fun tQ kQ => castTop (ef_0 me_ a) kQ) ?_)
  show G (s₁.setTop (mkF me_ 0 #[.val (.ref a)] []))
  refine gv (fun tQ kQ => XS.aloadN X0.here hx rfl (hb hby d12_0) rfl rfl kQ) ?_
  show G (s₁.setTop (mkF me_ 1 #[.val (.ref a)] [(.ref a)]))
  obtain ⟨_, _, ⟨T93, L93, k93, n93⟩, -, X93, ⟨Lc93, hQ93, l93, y93, z93⟩, st93⟩ := X0.specialBack hx (y := (⟨"java/util/ImmutableCollections$AbstractImmutableCollection", "<init>", "()V"⟩ : MethodName)) rfl hown (mvT hZ (hw _ (List.mem_of_getElem? (i := 79) rfl))) (mvT hZ (hw _ (List.mem_of_getElem? (i := 80) rfl))) (mvT hZ (hw _ (List.mem_of_getElem? (i := 84) rfl))) (by decide) (backOf (W := 0) (rm_aic l Z a0 hw [] a h0 n0 O0 ) hZ (hw _ (List.mem_of_getElem? (i := 84) rfl)) (hw _ (List.mem_of_getElem? (i := 83) rfl)) (by decide) (by decide)) (g := (mkF me_ 1 #[.val (.ref a)] [(.ref a)])) rfl (by rw [hml]; rfl) (Steps.refl _) (a := a) (argsL := []) (rest := []) (lenOf pd_0 rfl) rfl (by show 2 * 0 + _ ≤ _; exact Nat.le_of_eq rfl) (hb hby d12_1) (fun _ _ => ⟨rfl, e0, (by decide : 0 + 0 ≤ _), (by decide : 0 + 0 ≤ _)⟩)
  dsimp only [Pt.U, Pt.locs, Pt.cells, Pt.slots] at X93 l93 y93 z93 st93 hQ93
  subst l93 y93 z93
  obtain ⟨rfl, Nq93, eq93⟩ := hQ93
  have N94 := Fr.app N0 Nq93
  refine gv (fun tQ kQ => st93.trans kQ) ?_
  show G (T93.setTop (mkF me_ 4 #[.val (.ref a)] []))
  refine gf _ (own_ret X93 Bd.notSynchronized (v := none) (fun _ => rfl) ?_ (by decide) (by decide) (fun fs hr => X93.returnOut hx Bd.returns (hb hby d12_4) hr))
  show Q_ail Z a h0 n0 _ T93.heap _
  rw [eq93]
  exact ⟨rfl, N94, rfl⟩
theorem ef_4 (m : MethodId) (x0 : Addr) (x1 : Addr) (x2 : Int32)  : entryFrame m #[(.ref x0), (.ref x1), (.int x2)] 3 = mkF m 0 #[.val (.ref x0), .val (.ref x1), .val (.int x2)] [] := by first | (simp [entryFrame, mkF, argsToLocals, Value.category]; done) | rfl
theorem pn_7 : plainName "java/util/ImmutableCollections$ListN" = true := by first | (simp [plainName, overriddenIn]; done) | decide +kernel
theorem d11_0 : decode jdk_45_method_1_code 0 = .ok (.aload_n 0, 1) := by decide +kernel
theorem d11_1 : decode jdk_45_method_1_code 1 = .ok (.invokespecial 1, 3) := by decide +kernel
theorem d11_4 : decode jdk_45_method_1_code 4 = .ok (.aload_n 0, 1) := by decide +kernel
theorem d11_5 : decode jdk_45_method_1_code 5 = .ok (.aload_n 1, 1) := by decide +kernel
theorem d11_6 : decode jdk_45_method_1_code 6 = .ok (.putfield 7, 3) := by decide +kernel
theorem d11_9 : decode jdk_45_method_1_code 9 = .ok (.aload_n 0, 1) := by decide +kernel
theorem d11_10 : decode jdk_45_method_1_code 10 = .ok (.iload_n 2, 1) := by decide +kernel
theorem d11_11 : decode jdk_45_method_1_code 11 = .ok (.putfield 13, 3) := by decide +kernel
theorem d11_14 : decode jdk_45_method_1_code 14 = .ok (.return_, 1) := by decide +kernel
def Q_lni (Z : State) (a : Addr) (b : Addr) (h0 : Heap) (n0 : Nat) (v : Option Value) (h : Heap) (L : List Loc) : Prop := v = none ∧ Fr n0 L ∧ Keep h0 h [a] ∧ (Exa Z h a "java/util/ImmutableCollections$ListN") ∧ (Fld Z h a "java/util/ImmutableCollections$ListN" "elements" "[Ljava/lang/Object;" (.ref b))
set_option maxRecDepth 65536 in
set_option maxHeartbeats 40000000 in
theorem rm_lni (l : Launch) (Z : State) (a0 : Array Value) (hw : ∀ d ∈ tables_1, d.before a0 Z = true) (ws : List Jvm.Cond) (a : Addr) (b : Addr) (h0 : Heap) (n0 : Nat) (O0 : Old Z n0 h0) (u0 : Exa Z h0 a "java/util/ImmutableCollections$ListN") (u1 : Fld Z h0 a "java/util/ImmutableCollections$ListN" "elements" "[Ljava/lang/Object;" .null) (u2 : Fld Z h0 a "java/util/ImmutableCollections$ListN" "allowNulls" "Z" (.int (0 : Int32))) (u3 : n0 ≤ a) :
    MetFree l (⟨"java/util/ImmutableCollections$ListN", "<init>", "([Ljava/lang/Object;Z)V"⟩ : MethodName) (head1 (Jvm.Cond.code (⟨"java/util/ImmutableCollections$ListN", "<init>", "([Ljava/lang/Object;Z)V"⟩ : MethodName) jdk_45_method_1_code 3 none :: ws) ({ frames := 4, cells := 0, slots := 0, locals := 48 } : Room)) (fun aV U => aV = #[(.ref a), (.ref b), (.int (0 : Int32))] ∧ Z.Warmed39 U.vm ∧ U.heap = h0) (fun _ _ _ _ _ => True) (fun _ U o U' => ∃ v L, o = .returned v ∧ Q_lni Z a b h0 n0 v U'.heap L ∧ FrameEnd U o U' L ({ frames := 4, cells := 0, slots := 0, locals := 48 } : Room).cells ({ frames := 4, cells := 0, slots := 0, locals := 48 } : Room).slots) := by
  refine MetFree.of_bodySF (plainFor_of_name pn_7) hisR ?_
  intro pr_ en_ st_ me_ args below meth_ co_ s₁ Bd hml0 hP hK
  obtain ⟨rfl, hZ, hh⟩ := hP
  have hx := Bd.exec
  have hby := Bd.bytes
  have hml : co_.maxLocals = 3 := hml0
  have hown : st_.vm.findClass "java/util/ImmutableCollections$ListN" = some me_.cls := findClass_of_methodNamed Bd.named
  have hnm := (name_of_methodNamed Bd.named Bd.method).1
  have X0 : Stand pr_ l en_ ({ frames := 4, cells := 0, slots := 0, locals := 48 } : Room) st_ me_ #[(.ref a), (.ref b), (.int (0 : Int32))] below meth_ co_ s₁ [] 0 0 := Stand.of_body Bd
  have e0 : s₁.heap = h0 := by rw [← hh, Bd.state]; rfl
  have N0 := Fr.nil n0
  have K0 := Keep.refl h0 [a]
  obtain ⟨G, gv, gf, gb⟩ := own_G pr_.tables en_ below st_ (Q_lni Z a b h0 n0) ({ frames := 4, cells := 0, slots := 0, locals := 48 } : Room).cells ({ frames := 4, cells := 0, slots := 0, locals := 48 } : Room).slots
  show own_Fin pr_.tables en_ below st_ (Q_lni Z a b h0 n0) ({ frames := 4, cells := 0, slots := 0, locals := 48 } : Room).cells ({ frames := 4, cells := 0, slots := 0, locals := 48 } : Room).slots (s₁.setTop (entryFrame me_ #[(.ref a), (.ref b), (.int (0 : Int32))] 3))
  refine gb _ (gv (fun tQ kQ => castTop (ef_4 me_ a b (0 : Int32)) kQ) ?_)
  show G (s₁.setTop (mkF me_ 0 #[.val (.ref a), .val (.ref b), .val (.int (0 : Int32))] []))
  refine gv (fun tQ kQ => XS.aloadN X0.here hx rfl (hb hby d11_0) rfl rfl kQ) ?_
  show G (s₁.setTop (mkF me_ 1 #[.val (.ref a), .val (.ref b), .val (.int (0 : Int32))] [(.ref a)]))
  obtain ⟨_, _, ⟨T95, L95, k95, n95⟩, -, X95, ⟨Lc95, hQ95, l95, y95, z95⟩, st95⟩ := X0.specialBack hx (y := (⟨"java/util/ImmutableCollections$AbstractImmutableList", "<init>", "()V"⟩ : MethodName)) rfl hown (mvT hZ (hw _ (List.mem_of_getElem? (i := 73) rfl))) (mvT hZ (hw _ (List.mem_of_getElem? (i := 74) rfl))) (mvT hZ (hw _ (List.mem_of_getElem? (i := 78) rfl))) (by decide) (backOf (W := 0) (rm_ail l Z a0 hw [] a h0 n0 O0 ) hZ (hw _ (List.mem_of_getElem? (i := 78) rfl)) (hw _ (List.mem_of_getElem? (i := 77) rfl)) (by decide) (by decide)) (g := (mkF me_ 1 #[.val (.ref a), .val (.ref b), .val (.int (0 : Int32))] [(.ref a)])) rfl (by rw [hml]; rfl) (Steps.refl _) (a := a) (argsL := []) (rest := []) (lenOf pd_0 rfl) rfl (by show 2 * 0 + _ ≤ _; exact Nat.le_of_eq rfl) (hb hby d11_1) (fun _ _ => ⟨rfl, e0, (by decide : 0 + 0 ≤ _), (by decide : 0 + 0 ≤ _)⟩)
  dsimp only [Pt.U, Pt.locs, Pt.cells, Pt.slots] at X95 l95 y95 z95 st95 hQ95
  subst l95 y95 z95
  obtain ⟨rfl, Nq95, eq95⟩ := hQ95
  have N96 := Fr.app N0 Nq95
  refine gv (fun tQ kQ => st95.trans kQ) ?_
  show G (T95.setTop (mkF me_ 4 #[.val (.ref a), .val (.ref b), .val (.int (0 : Int32))] []))
  refine gv (fun tQ kQ => XS.aloadN X95.here hx rfl (hb hby d11_4) rfl rfl kQ) ?_
  show G (T95.setTop (mkF me_ 5 #[.val (.ref a), .val (.ref b), .val (.int (0 : Int32))] [(.ref a)]))
  refine gv (fun tQ kQ => XS.aloadN X95.here hx rfl (hb hby d11_5) rfl rfl kQ) ?_
  show G (T95.setTop (mkF me_ 6 #[.val (.ref a), .val (.ref b), .val (.int (0 : Int32))] [(.ref b), (.ref a)]))
  obtain ⟨T97, h97, X97, e97, W97, st97⟩ := putF X95 hx hZ hown (host := "") (Or.inl (hw _ (List.mem_of_getElem? (i := 92) rfl))) Via.refl eq95 u1 u0 (Or.inr ⟨(hw _ (List.mem_of_getElem? (i := 93) rfl)), rfl, hnm⟩) (hw _ (List.mem_of_getElem? (i := 67) rfl)) (ty := (.array (.object "java/lang/Object"))) (by decide) rfl rfl (g := (mkF me_ 6 #[.val (.ref a), .val (.ref b), .val (.int (0 : Int32))] [(.ref b), (.ref a)])) rfl rfl (hb hby d11_6)
  refine gv st97 ?_
  have f99 : Exa Z h97 a "java/util/ImmutableCollections$ListN" := u0.wr W97
  have f100 : Fld Z h97 a "java/util/ImmutableCollections$ListN" "allowNulls" "Z" (.int (0 : Int32)) := u2.other W97 (Or.inr (slot_ne (Or.inr (hw _ (List.mem_of_getElem? (i := 95) rfl))) (Or.inr (hw _ (List.mem_of_getElem? (i := 93) rfl))) (by decide) (t := .boolean) (t' := (.array (.object "java/lang/Object"))) (by decide) (by decide)))
  have O101 := O0.wr W97 u3
  have K102 := K0.wr W97 (Or.inl (List.mem_of_getElem? (i := 0) rfl))
  have N103 := Fr.snoc X97 N96 u3
  have f98 : Fld Z h97 a "java/util/ImmutableCollections$ListN" "elements" "[Ljava/lang/Object;" (.ref b) := u1.same W97
  show G (T97.setTop (mkF me_ 9 #[.val (.ref a), .val (.ref b), .val (.int (0 : Int32))] []))
  refine gv (fun tQ kQ => XS.aloadN X97.here hx rfl (hb hby d11_9) rfl rfl kQ) ?_
  show G (T97.setTop (mkF me_ 10 #[.val (.ref a), .val (.ref b), .val (.int (0 : Int32))] [(.ref a)]))
  refine gv (fun tQ kQ => XS.iloadN X97.here hx rfl (hb hby d11_10) rfl kQ) ?_
  show G (T97.setTop (mkF me_ 11 #[.val (.ref a), .val (.ref b), .val (.int (0 : Int32))] [(.int (0 : Int32)), (.ref a)]))
  obtain ⟨T104, h104, X104, e104, W104, st104⟩ := putFN X97 hx hZ hown (hw _ (List.mem_of_getElem? (i := 94) rfl)) Via.refl e97 f100 f99 (Or.inr ⟨(hw _ (List.mem_of_getElem? (i := 95) rfl)), rfl, hnm⟩) (hw _ (List.mem_of_getElem? (i := 67) rfl)) (ty := .boolean) (v' := (.int (0 : Int32))) (by decide) rfl rfl (g := (mkF me_ 11 #[.val (.ref a), .val (.ref b), .val (.int (0 : Int32))] [(.int (0 : Int32)), (.ref a)])) rfl rfl (hb hby d11_11)
  refine gv st104 ?_
  have f106 : Exa Z h104 a "java/util/ImmutableCollections$ListN" := f99.wr W104
  have f107 : Fld Z h104 a "java/util/ImmutableCollections$ListN" "elements" "[Ljava/lang/Object;" (.ref b) := f98.other W104 (Or.inr (slot_ne (Or.inr (hw _ (List.mem_of_getElem? (i := 93) rfl))) (Or.inr (hw _ (List.mem_of_getElem? (i := 95) rfl))) (by decide) (t := (.array (.object "java/lang/Object"))) (t' := .boolean) (by decide) (by decide)))
  have O108 := O101.wr W104 u3
  have K109 := K102.wr W104 (Or.inl (List.mem_of_getElem? (i := 0) rfl))
  have N110 := Fr.snoc X104 N103 u3
  have f105 : Fld Z h104 a "java/util/ImmutableCollections$ListN" "allowNulls" "Z" (.int (0 : Int32)) := f100.same W104
  show G (T104.setTop (mkF me_ 14 #[.val (.ref a), .val (.ref b), .val (.int (0 : Int32))] []))
  refine gf _ (own_ret X104 Bd.notSynchronized (v := none) (fun _ => rfl) ?_ (by decide) (by decide) (fun fs hr => X104.returnOut hx Bd.returns (hb hby d11_14) hr))
  show Q_lni Z a b h0 n0 _ T104.heap _
  rw [e104]
  exact ⟨rfl, N110, K109, f106, f107⟩
theorem pn_8 : plainName "java/util/Objects" = true := by first | (simp [plainName, overriddenIn]; done) | decide +kernel
theorem d10_0 : decode jdk_31_method_10_code 0 = .ok (.aload_n 0, 1) := by decide +kernel
theorem d10_1 : decode jdk_31_method_10_code 1 = .ok (.ifnonnull 11, 3) := by decide +kernel
theorem d10_12 : decode jdk_31_method_10_code 12 = .ok (.aload_n 0, 1) := by decide +kernel
theorem d10_13 : decode jdk_31_method_10_code 13 = .ok (.areturn, 1) := by decide +kernel
def Q_rnn (Z : State) (a : Addr) (h0 : Heap) (n0 : Nat) (v : Option Value) (h : Heap) (L : List Loc) : Prop := v = some (.ref a) ∧ Fr n0 L ∧ h = h0
set_option maxRecDepth 65536 in
set_option maxHeartbeats 40000000 in
theorem rm_rnn (l : Launch) (Z : State) (a0 : Array Value) (hw : ∀ d ∈ tables_1, d.before a0 Z = true) (ws : List Jvm.Cond) (a : Addr) (h0 : Heap) (n0 : Nat) (O0 : Old Z n0 h0)  :
    MetFree l (⟨"java/util/Objects", "requireNonNull", "(Ljava/lang/Object;)Ljava/lang/Object;"⟩ : MethodName) (head1 (Jvm.Cond.code (⟨"java/util/Objects", "requireNonNull", "(Ljava/lang/Object;)Ljava/lang/Object;"⟩ : MethodName) jdk_31_method_10_code 1 (some (.object "java/lang/Object")) :: ws) ({ frames := 0, cells := 0, slots := 0, locals := 0 } : Room)) (fun aV U => aV = #[(.ref a)] ∧ Z.Warmed39 U.vm ∧ U.heap = h0) (fun _ _ _ _ _ => True) (fun _ U o U' => ∃ v L, o = .returned v ∧ Q_rnn Z a h0 n0 v U'.heap L ∧ FrameEnd U o U' L ({ frames := 0, cells := 0, slots := 0, locals := 0 } : Room).cells ({ frames := 0, cells := 0, slots := 0, locals := 0 } : Room).slots) := by
  refine MetFree.of_bodySF (plainFor_of_name pn_8) hisR ?_
  intro pr_ en_ st_ me_ args below meth_ co_ s₁ Bd hml0 hP hK
  obtain ⟨rfl, hZ, hh⟩ := hP
  have hx := Bd.exec
  have hby := Bd.bytes
  have hml : co_.maxLocals = 1 := hml0
  have hown : st_.vm.findClass "java/util/Objects" = some me_.cls := findClass_of_methodNamed Bd.named
  have hnm := (name_of_methodNamed Bd.named Bd.method).1
  have X0 : Stand pr_ l en_ ({ frames := 0, cells := 0, slots := 0, locals := 0 } : Room) st_ me_ #[(.ref a)] below meth_ co_ s₁ [] 0 0 := Stand.of_body Bd
  have e0 : s₁.heap = h0 := by rw [← hh, Bd.state]; rfl
  have N0 := Fr.nil n0
  have K0 := Keep.refl h0 []
  obtain ⟨G, gv, gf, gb⟩ := own_G pr_.tables en_ below st_ (Q_rnn Z a h0 n0) ({ frames := 0, cells := 0, slots := 0, locals := 0 } : Room).cells ({ frames := 0, cells := 0, slots := 0, locals := 0 } : Room).slots
  show own_Fin pr_.tables en_ below st_ (Q_rnn Z a h0 n0) ({ frames := 0, cells := 0, slots := 0, locals := 0 } : Room).cells ({ frames := 0, cells := 0, slots := 0, locals := 0 } : Room).slots (s₁.setTop (entryFrame me_ #[(.ref a)] 1))
  refine gb _ (gv (fun tQ kQ => castTop (ef_0 me_ a) kQ) ?_)
  show G (s₁.setTop (mkF me_ 0 #[.val (.ref a)] []))
  refine gv (fun tQ kQ => XS.aloadN X0.here hx rfl (hb hby d10_0) rfl rfl kQ) ?_
  show G (s₁.setTop (mkF me_ 1 #[.val (.ref a)] [(.ref a)]))
  refine gv (fun tQ kQ => XS.ifnonnullYes X0.here hx rfl (pc0 := 1) (pc' := 12) rfl (hb hby d10_1) rfl (by decide) (by decide) kQ) ?_
  show G (s₁.setTop (mkF me_ 12 #[.val (.ref a)] []))
  refine gv (fun tQ kQ => XS.aloadN X0.here hx rfl (hb hby d10_12) rfl rfl kQ) ?_
  show G (s₁.setTop (mkF me_ 13 #[.val (.ref a)] [(.ref a)]))
  refine gf _ (own_ret X0 Bd.notSynchronized (v := some (.ref a)) (fun h => by rw [Bd.returns] at h; cases h) ?_ (by decide) (by decide) (fun fs hr => retOut X0 hx (t := (.object "java/lang/Object")) Bd.returns rfl (Or.inr (Or.inr (Or.inr (Or.inr ⟨rfl, rfl, rfl⟩)))) (hb hby d10_13) hr))
  show Q_rnn Z a h0 n0 _ s₁.heap _
  rw [e0]
  exact ⟨rfl, N0, rfl⟩
theorem ef_5 (m : MethodId) (x0 : Addr)  : entryFrame m #[(.ref x0)] 5 = mkF m 0 #[.val (.ref x0), .unset, .unset, .unset, .unset] [] := by first | (simp [entryFrame, mkF, argsToLocals, Value.category]; done) | rfl
theorem pn_9 : plainName "java/util/ImmutableCollections" = true := by first | (simp [plainName, overriddenIn]; done) | decide +kernel
theorem d9_0 : decode jdk_56_method_5_code 0 = .ok (.getstatic 46, 3) := by decide +kernel
theorem d9_3 : decode jdk_56_method_5_code 3 = .ok (.ifCond .ne 20, 3) := by decide +kernel
theorem d9_23 : decode jdk_56_method_5_code 23 = .ok (.aload_n 0, 1) := by decide +kernel
theorem d9_24 : decode jdk_56_method_5_code 24 = .ok (.astore_n 1, 1) := by decide +kernel
theorem d9_25 : decode jdk_56_method_5_code 25 = .ok (.aload_n 1, 1) := by decide +kernel
theorem d9_26 : decode jdk_56_method_5_code 26 = .ok (.arraylength, 1) := by decide +kernel
theorem d9_27 : decode jdk_56_method_5_code 27 = .ok (.istore_n 2, 1) := by decide +kernel
theorem d9_28 : decode jdk_56_method_5_code 28 = .ok (.iconst 0, 1) := by decide +kernel
theorem d9_29 : decode jdk_56_method_5_code 29 = .ok (.istore_n 3, 1) := by decide +kernel
theorem d9_30 : decode jdk_56_method_5_code 30 = .ok (.iload_n 3, 1) := by decide +kernel
theorem d9_31 : decode jdk_56_method_5_code 31 = .ok (.iload_n 2, 1) := by decide +kernel
theorem d9_32 : decode jdk_56_method_5_code 32 = .ok (.if_icmp .ge 20, 3) := by decide +kernel
theorem d9_35 : decode jdk_56_method_5_code 35 = .ok (.aload_n 1, 1) := by decide +kernel
theorem d9_36 : decode jdk_56_method_5_code 36 = .ok (.iload_n 3, 1) := by decide +kernel
theorem d9_37 : decode jdk_56_method_5_code 37 = .ok (.aaload, 1) := by decide +kernel
theorem d9_38 : decode jdk_56_method_5_code 38 = .ok (.astore 4, 2) := by decide +kernel
theorem d9_40 : decode jdk_56_method_5_code 40 = .ok (.aload 4, 2) := by decide +kernel
theorem d9_42 : decode jdk_56_method_5_code 42 = .ok (.invokestatic 37, 3) := by decide +kernel
theorem pd_2 : parseMethodDescriptor "(Ljava/lang/Object;)Ljava/lang/Object;" = some ⟨[(.object "java/lang/Object")], some (.object "java/lang/Object")⟩ := by decide +kernel
theorem d9_45 : decode jdk_56_method_5_code 45 = .ok (.pop, 1) := by decide +kernel
theorem d9_46 : decode jdk_56_method_5_code 46 = .ok (.iinc 3 1, 3) := by decide +kernel
theorem d9_49 : decode jdk_56_method_5_code 49 = .ok (.goto (-19), 3) := by decide +kernel
theorem d9_52 : decode jdk_56_method_5_code 52 = .ok (.aload_n 0, 1) := by decide +kernel
theorem d9_53 : decode jdk_56_method_5_code 53 = .ok (.arraylength, 1) := by decide +kernel
theorem d9_54 : decode jdk_56_method_5_code 54 = .ok (.tableswitch 61 0 2 #[26, 32, 45], 26) := by decide +kernel
theorem d9_115 : decode jdk_56_method_5_code 115 = .ok (.new 12, 3) := by decide +kernel
theorem d9_118 : decode jdk_56_method_5_code 118 = .ok (.dup, 1) := by decide +kernel
theorem d9_119 : decode jdk_56_method_5_code 119 = .ok (.aload_n 0, 1) := by decide +kernel
theorem d9_120 : decode jdk_56_method_5_code 120 = .ok (.iconst 0, 1) := by decide +kernel
theorem d9_121 : decode jdk_56_method_5_code 121 = .ok (.invokespecial 43, 3) := by decide +kernel
theorem pd_3 : parseMethodDescriptor "([Ljava/lang/Object;Z)V" = some ⟨[(.array (.object "java/lang/Object")), .boolean], none⟩ := by decide +kernel
theorem d9_124 : decode jdk_56_method_5_code 124 = .ok (.areturn, 1) := by decide +kernel
def Q_lfta (Z : State) (b : Addr) (k : ClassId) (r0 : Addr) (r1 : Addr) (r2 : Addr) (r3 : Addr) (r4 : Addr) (r5 : Addr) (h0 : Heap) (n0 : Nat) (v : Option Value) (h : Heap) (L : List Loc) : Prop := ∃ (x : Addr), v = some (.ref x) ∧ Fr n0 L ∧ Keep h0 h [] ∧ h0.size ≤ x ∧ (Exa Z h x "java/util/ImmutableCollections$ListN") ∧ (Fld Z h x "java/util/ImmutableCollections$ListN" "elements" "[Ljava/lang/Object;" (.ref b))
set_option maxRecDepth 65536 in
set_option maxHeartbeats 40000000 in
theorem rm_lfta (l : Launch) (Z : State) (a0 : Array Value) (hw : ∀ d ∈ tables_1, d.before a0 Z = true) (ws : List Jvm.Cond) (b : Addr) (k : ClassId) (r0 : Addr) (r1 : Addr) (r2 : Addr) (r3 : Addr) (r4 : Addr) (r5 : Addr) (h0 : Heap) (n0 : Nat) (O0 : Old Z n0 h0) (u0 : Sta Z Z.heap "java/util/ImmutableCollections" "$assertionsDisabled" "Z" (.int (1 : Int32))) (u1 : Arv Z h0 b k (.object "java/lang/Object") (6 : Int32) [(.ref r0), (.ref r1), (.ref r2), (.ref r3), (.ref r4), (.ref r5)] .null) :
    MetFree l (⟨"java/util/ImmutableCollections", "listFromTrustedArray", "([Ljava/lang/Object;)Ljava/util/List;"⟩ : MethodName) (head1 (Jvm.Cond.code (⟨"java/util/ImmutableCollections", "listFromTrustedArray", "([Ljava/lang/Object;)Ljava/util/List;"⟩ : MethodName) jdk_56_method_5_code 5 (some (.object "java/util/List")) :: ws) ({ frames := 5, cells := 1, slots := 2, locals := 63 } : Room)) (fun aV U => aV = #[(.ref b)] ∧ Z.Warmed39 U.vm ∧ U.heap = h0) (fun _ _ _ _ _ => True) (fun _ U o U' => ∃ v L, o = .returned v ∧ Q_lfta Z b k r0 r1 r2 r3 r4 r5 h0 n0 v U'.heap L ∧ FrameEnd U o U' L ({ frames := 5, cells := 1, slots := 2, locals := 63 } : Room).cells ({ frames := 5, cells := 1, slots := 2, locals := 63 } : Room).slots) := by
  refine MetFree.of_bodySF (plainFor_of_name pn_9) hisR ?_
  intro pr_ en_ st_ me_ args below meth_ co_ s₁ Bd hml0 hP hK
  obtain ⟨rfl, hZ, hh⟩ := hP
  have hx := Bd.exec
  have hby := Bd.bytes
  have hml : co_.maxLocals = 5 := hml0
  have hown : st_.vm.findClass "java/util/ImmutableCollections" = some me_.cls := findClass_of_methodNamed Bd.named
  have hnm := (name_of_methodNamed Bd.named Bd.method).1
  have X0 : Stand pr_ l en_ ({ frames := 5, cells := 1, slots := 2, locals := 63 } : Room) st_ me_ #[(.ref b)] below meth_ co_ s₁ [] 0 0 := Stand.of_body Bd
  have e0 : s₁.heap = h0 := by rw [← hh, Bd.state]; rfl
  have N0 := Fr.nil n0
  have K0 := Keep.refl h0 []
  obtain ⟨G, gv, gf, gb⟩ := own_G pr_.tables en_ below st_ (Q_lfta Z b k r0 r1 r2 r3 r4 r5 h0 n0) ({ frames := 5, cells := 1, slots := 2, locals := 63 } : Room).cells ({ frames := 5, cells := 1, slots := 2, locals := 63 } : Room).slots
  show own_Fin pr_.tables en_ below st_ (Q_lfta Z b k r0 r1 r2 r3 r4 r5 h0 n0) ({ frames := 5, cells := 1, slots := 2, locals := 63 } : Room).cells ({ frames := 5, cells := 1, slots := 2, locals := 63 } : Room).slots (s₁.setTop (entryFrame me_ #[(.ref b)] 5))
  refine gb _ (gv (fun tQ kQ => castTop (ef_5 me_ b) kQ) ?_)
  show G (s₁.setTop (mkF me_ 0 #[.val (.ref b), .unset, .unset, .unset, .unset] []))
  obtain ⟨T111, X111, e111, st111⟩ := getS2 X0 hx hZ hown (host := "") (Or.inl (hw _ (List.mem_of_getElem? (i := 61) rfl))) Via.refl e0 (u0.ext O0.2) (g := (mkF me_ 0 #[.val (.ref b), .unset, .unset, .unset, .unset] [])) rfl (hb hby d9_0)
  refine gv st111 ?_
  show G (T111.setTop (mkF me_ 3 #[.val (.ref b), .unset, .unset, .unset, .unset] [(.int (1 : Int32))]))
  refine gv (fun tQ kQ => XS.ifYes X111.here hx rfl (pc0 := 3) (pc' := 23) rfl (hb hby d9_3) rfl ((if0 _ _).trans (feq (by decide : ¬ ((1 : Int32) = (0 : Int32)))).2) (by decide) (by decide) kQ) ?_
  show G (T111.setTop (mkF me_ 23 #[.val (.ref b), .unset, .unset, .unset, .unset] []))
  refine gv (fun tQ kQ => XS.aloadN X111.here hx rfl (hb hby d9_23) rfl rfl kQ) ?_
  show G (T111.setTop (mkF me_ 24 #[.val (.ref b), .unset, .unset, .unset, .unset] [(.ref b)]))
  refine gv (fun tQ kQ => XS.astoreN X111.here hx rfl (hb hby d9_24) rfl rfl (l' := #[.val (.ref b), .val (.ref b), .unset, .unset, .unset]) rfl kQ) ?_
  show G (T111.setTop (mkF me_ 25 #[.val (.ref b), .val (.ref b), .unset, .unset, .unset] []))
  refine gv (fun tQ kQ => XS.aloadN X111.here hx rfl (hb hby d9_25) rfl rfl kQ) ?_
  show G (T111.setTop (mkF me_ 26 #[.val (.ref b), .val (.ref b), .unset, .unset, .unset] [(.ref b)]))
  obtain ⟨cl112, Ar112, -, S112, n112, -, -⟩ := (id u1)
  refine gv (X111.arraylength hx (by rw [e111]; exact Ar112.1) (State.isArrayOf_alike hZ.alike Ar112.2.1) (g := (mkF me_ 26 #[.val (.ref b), .val (.ref b), .unset, .unset, .unset] [(.ref b)])) rfl rfl (hb hby d9_26)) ?_
  rw [len_of S112 n112]
  show G (T111.setTop (mkF me_ 27 #[.val (.ref b), .val (.ref b), .unset, .unset, .unset] [(.int (6 : Int32))]))
  refine gv (fun tQ kQ => XS.istoreN X111.here hx rfl (hb hby d9_27) rfl (l' := #[.val (.ref b), .val (.ref b), .val (.int (6 : Int32)), .unset, .unset]) rfl kQ) ?_
  show G (T111.setTop (mkF me_ 28 #[.val (.ref b), .val (.ref b), .val (.int (6 : Int32)), .unset, .unset] []))
  refine gv (fun tQ kQ => XS.iconst X111.here hx rfl (hb hby d9_28) kQ) ?_
  show G (T111.setTop (mkF me_ 29 #[.val (.ref b), .val (.ref b), .val (.int (6 : Int32)), .unset, .unset] [(.int (0 : Int32))]))
  refine gv (fun tQ kQ => XS.istoreN X111.here hx rfl (hb hby d9_29) rfl (l' := #[.val (.ref b), .val (.ref b), .val (.int (6 : Int32)), .val (.int (0 : Int32)), .unset]) rfl kQ) ?_
  show G (T111.setTop (mkF me_ 30 #[.val (.ref b), .val (.ref b), .val (.int (6 : Int32)), .val (.int (0 : Int32)), .unset] []))
  refine gv (fun tQ kQ => XS.iloadN X111.here hx rfl (hb hby d9_30) rfl kQ) ?_
  show G (T111.setTop (mkF me_ 31 #[.val (.ref b), .val (.ref b), .val (.int (6 : Int32)), .val (.int (0 : Int32)), .unset] [(.int (0 : Int32))]))
  refine gv (fun tQ kQ => XS.iloadN X111.here hx rfl (hb hby d9_31) rfl kQ) ?_
  show G (T111.setTop (mkF me_ 32 #[.val (.ref b), .val (.ref b), .val (.int (6 : Int32)), .val (.int (0 : Int32)), .unset] [(.int (6 : Int32)), (.int (0 : Int32))]))
  refine gv (fun tQ kQ => XS.icmpNo X111.here hx rfl (hb hby d9_32) rfl (tlt (by decide : (0 : Int32) < (6 : Int32))).2.1 kQ) ?_
  show G (T111.setTop (mkF me_ 35 #[.val (.ref b), .val (.ref b), .val (.int (6 : Int32)), .val (.int (0 : Int32)), .unset] []))
  refine gv (fun tQ kQ => XS.aloadN X111.here hx rfl (hb hby d9_35) rfl rfl kQ) ?_
  show G (T111.setTop (mkF me_ 36 #[.val (.ref b), .val (.ref b), .val (.int (6 : Int32)), .val (.int (0 : Int32)), .unset] [(.ref b)]))
  refine gv (fun tQ kQ => XS.iloadN X111.here hx rfl (hb hby d9_36) rfl kQ) ?_
  show G (T111.setTop (mkF me_ 37 #[.val (.ref b), .val (.ref b), .val (.int (6 : Int32)), .val (.int (0 : Int32)), .unset] [(.int (0 : Int32)), (.ref b)]))
  obtain ⟨cl113, Ar113, q113, S113, n113, H113, G113⟩ := (id u1)
  have in113 : ¬ ((0 : Int32) < 0 ∨ cl113.slots.size ≤ ((0 : Int32)).toNatClampNeg) := inb_of S113 ⟨by decide, by decide⟩
  refine gv (X111.aaload hx (j := (0 : Int32)) (v := (.ref r0)) (by rw [e111]; exact Ar113.1) (State.isArrayOf_alike hZ.alike Ar113.2.1) rfl Ar113.2.2 in113 (Has.at H113 in113 rfl) (g := (mkF me_ 37 #[.val (.ref b), .val (.ref b), .val (.int (6 : Int32)), .val (.int (0 : Int32)), .unset] [(.int (0 : Int32)), (.ref b)])) rfl rfl (hb hby d9_37)) ?_
  show G (T111.setTop (mkF me_ 38 #[.val (.ref b), .val (.ref b), .val (.int (6 : Int32)), .val (.int (0 : Int32)), .unset] [(.ref r0)]))
  refine gv (fun tQ kQ => XS.astore X111.here hx rfl (hb hby d9_38) rfl rfl (l' := #[.val (.ref b), .val (.ref b), .val (.int (6 : Int32)), .val (.int (0 : Int32)), .val (.ref r0)]) rfl kQ) ?_
  show G (T111.setTop (mkF me_ 40 #[.val (.ref b), .val (.ref b), .val (.int (6 : Int32)), .val (.int (0 : Int32)), .val (.ref r0)] []))
  refine gv (fun tQ kQ => XS.aload X111.here hx rfl (hb hby d9_40) rfl rfl kQ) ?_
  show G (T111.setTop (mkF me_ 42 #[.val (.ref b), .val (.ref b), .val (.int (6 : Int32)), .val (.int (0 : Int32)), .val (.ref r0)] [(.ref r0)]))
  obtain ⟨_, _, ⟨T114, L114, k114, n114⟩, -, X114, ⟨Lc114, hQ114, l114, y114, z114⟩, st114⟩ := Jvm.LawKit.callS X111 hx (y := (⟨"java/util/Objects", "requireNonNull", "(Ljava/lang/Object;)Ljava/lang/Object;"⟩ : MethodName)) hown (mvT hZ (hw _ (List.mem_of_getElem? (i := 62) rfl))) (mvT hZ (hw _ (List.mem_of_getElem? (i := 63) rfl))) (mvT hZ (hw _ (List.mem_of_getElem? (i := 64) rfl))) (mvT hZ (hw _ (List.mem_of_getElem? (i := 65) rfl))) (by decide) (backOf (W := 0) (rm_rnn l Z a0 hw [] r0 h0 n0 O0 ) hZ (hw _ (List.mem_of_getElem? (i := 65) rfl)) (hw _ (List.mem_of_getElem? (i := 64) rfl)) (by decide) (by decide)) (g := (mkF me_ 42 #[.val (.ref b), .val (.ref b), .val (.int (6 : Int32)), .val (.int (0 : Int32)), .val (.ref r0)] [(.ref r0)])) rfl (by rw [hml]; rfl) (argsL := [(.ref r0)]) (rest := []) (lenOf pd_2 rfl) rfl (by show 2 * 0 + _ ≤ _; exact Nat.le_of_eq rfl) (hb hby d9_42) (fun _ _ => ⟨rfl, e111, (by decide : 0 + 0 ≤ _), (by decide : 0 + 0 ≤ _)⟩)
  dsimp only [Pt.U, Pt.locs, Pt.cells, Pt.slots] at X114 l114 y114 z114 st114 hQ114
  subst l114 y114 z114
  obtain ⟨rfl, Nq114, eq114⟩ := hQ114
  have N115 := Fr.app N0 Nq114
  refine gv st114 ?_
  show G (T114.setTop (mkF me_ 45 #[.val (.ref b), .val (.ref b), .val (.int (6 : Int32)), .val (.int (0 : Int32)), .val (.ref r0)] [(.ref r0)]))
  refine gv (fun tQ kQ => XS.pop X114.here hx rfl (hb hby d9_45) rfl rfl kQ) ?_
  show G (T114.setTop (mkF me_ 46 #[.val (.ref b), .val (.ref b), .val (.int (6 : Int32)), .val (.int (0 : Int32)), .val (.ref r0)] []))
  refine gv (fun tQ kQ => XS.iinc X114.here hx rfl (hb hby d9_46) rfl (l' := #[.val (.ref b), .val (.ref b), .val (.int (6 : Int32)), .val (.int ((0 : Int32) + (1 : Int32))), .val (.ref r0)]) rfl kQ) ?_
  show G (T114.setTop (mkF me_ 49 #[.val (.ref b), .val (.ref b), .val (.int (6 : Int32)), .val (.int ((0 : Int32) + (1 : Int32))), .val (.ref r0)] []))
  rw [(by decide : ((0 : Int32) + (1 : Int32)) = (1 : Int32))]
  show G (T114.setTop (mkF me_ 49 #[.val (.ref b), .val (.ref b), .val (.int (6 : Int32)), .val (.int (1 : Int32)), .val (.ref r0)] []))
  refine gv (fun tQ kQ => XS.goto X114.here hx rfl (pc0 := 49) (pc' := 30) rfl (hb hby d9_49) (by decide) (by decide) kQ) ?_
  show G (T114.setTop (mkF me_ 30 #[.val (.ref b), .val (.ref b), .val (.int (6 : Int32)), .val (.int (1 : Int32)), .val (.ref r0)] []))
  refine gv (fun tQ kQ => XS.iloadN X114.here hx rfl (hb hby d9_30) rfl kQ) ?_
  show G (T114.setTop (mkF me_ 31 #[.val (.ref b), .val (.ref b), .val (.int (6 : Int32)), .val (.int (1 : Int32)), .val (.ref r0)] [(.int (1 : Int32))]))
  refine gv (fun tQ kQ => XS.iloadN X114.here hx rfl (hb hby d9_31) rfl kQ) ?_
  show G (T114.setTop (mkF me_ 32 #[.val (.ref b), .val (.ref b), .val (.int (6 : Int32)), .val (.int (1 : Int32)), .val (.ref r0)] [(.int (6 : Int32)), (.int (1 : Int32))]))
  refine gv (fun tQ kQ => XS.icmpNo X114.here hx rfl (hb hby d9_32) rfl (tlt (by decide : (1 : Int32) < (6 : Int32))).2.1 kQ) ?_
  show G (T114.setTop (mkF me_ 35 #[.val (.ref b), .val (.ref b), .val (.int (6 : Int32)), .val (.int (1 : Int32)), .val (.ref r0)] []))
  refine gv (fun tQ kQ => XS.aloadN X114.here hx rfl (hb hby d9_35) rfl rfl kQ) ?_
  show G (T114.setTop (mkF me_ 36 #[.val (.ref b), .val (.ref b), .val (.int (6 : Int32)), .val (.int (1 : Int32)), .val (.ref r0)] [(.ref b)]))
  refine gv (fun tQ kQ => XS.iloadN X114.here hx rfl (hb hby d9_36) rfl kQ) ?_
  show G (T114.setTop (mkF me_ 37 #[.val (.ref b), .val (.ref b), .val (.int (6 : Int32)), .val (.int (1 : Int32)), .val (.ref r0)] [(.int (1 : Int32)), (.ref b)]))
  obtain ⟨cl116, Ar116, q116, S116, n116, H116, G116⟩ := (id u1)
  have in116 : ¬ ((1 : Int32) < 0 ∨ cl116.slots.size ≤ ((1 : Int32)).toNatClampNeg) := inb_of S116 ⟨by decide, by decide⟩
  refine gv (X114.aaload hx (j := (1 : Int32)) (v := (.ref r1)) (by rw [eq114]; exact Ar116.1) (State.isArrayOf_alike hZ.alike Ar116.2.1) rfl Ar116.2.2 in116 (Has.at H116 in116 rfl) (g := (mkF me_ 37 #[.val (.ref b), .val (.ref b), .val (.int (6 : Int32)), .val (.int (1 : Int32)), .val (.ref r0)] [(.int (1 : Int32)), (.ref b)])) rfl rfl (hb hby d9_37)) ?_
  show G (T114.setTop (mkF me_ 38 #[.val (.ref b), .val (.ref b), .val (.int (6 : Int32)), .val (.int (1 : Int32)), .val (.ref r0)] [(.ref r1)]))
  refine gv (fun tQ kQ => XS.astore X114.here hx rfl (hb hby d9_38) rfl rfl (l' := #[.val (.ref b), .val (.ref b), .val (.int (6 : Int32)), .val (.int (1 : Int32)), .val (.ref r1)]) rfl kQ) ?_
  show G (T114.setTop (mkF me_ 40 #[.val (.ref b), .val (.ref b), .val (.int (6 : Int32)), .val (.int (1 : Int32)), .val (.ref r1)] []))
  refine gv (fun tQ kQ => XS.aload X114.here hx rfl (hb hby d9_40) rfl rfl kQ) ?_
  show G (T114.setTop (mkF me_ 42 #[.val (.ref b), .val (.ref b), .val (.int (6 : Int32)), .val (.int (1 : Int32)), .val (.ref r1)] [(.ref r1)]))
  obtain ⟨_, _, ⟨T117, L117, k117, n117⟩, -, X117, ⟨Lc117, hQ117, l117, y117, z117⟩, st117⟩ := Jvm.LawKit.callS X114 hx (y := (⟨"java/util/Objects", "requireNonNull", "(Ljava/lang/Object;)Ljava/lang/Object;"⟩ : MethodName)) hown (mvT hZ (hw _ (List.mem_of_getElem? (i := 62) rfl))) (mvT hZ (hw _ (List.mem_of_getElem? (i := 63) rfl))) (mvT hZ (hw _ (List.mem_of_getElem? (i := 64) rfl))) (mvT hZ (hw _ (List.mem_of_getElem? (i := 65) rfl))) (by decide) (backOf (W := 0) (rm_rnn l Z a0 hw [] r1 h0 n0 O0 ) hZ (hw _ (List.mem_of_getElem? (i := 65) rfl)) (hw _ (List.mem_of_getElem? (i := 64) rfl)) (by decide) (by decide)) (g := (mkF me_ 42 #[.val (.ref b), .val (.ref b), .val (.int (6 : Int32)), .val (.int (1 : Int32)), .val (.ref r1)] [(.ref r1)])) rfl (by rw [hml]; rfl) (argsL := [(.ref r1)]) (rest := []) (lenOf pd_2 rfl) rfl (by show 2 * 0 + _ ≤ _; exact Nat.le_of_eq rfl) (hb hby d9_42) (fun _ _ => ⟨rfl, eq114, (by decide : 0 + 0 ≤ _), (by decide : 0 + 0 ≤ _)⟩)
  dsimp only [Pt.U, Pt.locs, Pt.cells, Pt.slots] at X117 l117 y117 z117 st117 hQ117
  subst l117 y117 z117
  obtain ⟨rfl, Nq117, eq117⟩ := hQ117
  have N118 := Fr.app N115 Nq117
  refine gv st117 ?_
  show G (T117.setTop (mkF me_ 45 #[.val (.ref b), .val (.ref b), .val (.int (6 : Int32)), .val (.int (1 : Int32)), .val (.ref r1)] [(.ref r1)]))
  refine gv (fun tQ kQ => XS.pop X117.here hx rfl (hb hby d9_45) rfl rfl kQ) ?_
  show G (T117.setTop (mkF me_ 46 #[.val (.ref b), .val (.ref b), .val (.int (6 : Int32)), .val (.int (1 : Int32)), .val (.ref r1)] []))
  refine gv (fun tQ kQ => XS.iinc X117.here hx rfl (hb hby d9_46) rfl (l' := #[.val (.ref b), .val (.ref b), .val (.int (6 : Int32)), .val (.int ((1 : Int32) + (1 : Int32))), .val (.ref r1)]) rfl kQ) ?_
  show G (T117.setTop (mkF me_ 49 #[.val (.ref b), .val (.ref b), .val (.int (6 : Int32)), .val (.int ((1 : Int32) + (1 : Int32))), .val (.ref r1)] []))
  rw [(by decide : ((1 : Int32) + (1 : Int32)) = (2 : Int32))]
  show G (T117.setTop (mkF me_ 49 #[.val (.ref b), .val (.ref b), .val (.int (6 : Int32)), .val (.int (2 : Int32)), .val (.ref r1)] []))
  refine gv (fun tQ kQ => XS.goto X117.here hx rfl (pc0 := 49) (pc' := 30) rfl (hb hby d9_49) (by decide) (by decide) kQ) ?_
  show G (T117.setTop (mkF me_ 30 #[.val (.ref b), .val (.ref b), .val (.int (6 : Int32)), .val (.int (2 : Int32)), .val (.ref r1)] []))
  refine gv (fun tQ kQ => XS.iloadN X117.here hx rfl (hb hby d9_30) rfl kQ) ?_
  show G (T117.setTop (mkF me_ 31 #[.val (.ref b), .val (.ref b), .val (.int (6 : Int32)), .val (.int (2 : Int32)), .val (.ref r1)] [(.int (2 : Int32))]))
  refine gv (fun tQ kQ => XS.iloadN X117.here hx rfl (hb hby d9_31) rfl kQ) ?_
  show G (T117.setTop (mkF me_ 32 #[.val (.ref b), .val (.ref b), .val (.int (6 : Int32)), .val (.int (2 : Int32)), .val (.ref r1)] [(.int (6 : Int32)), (.int (2 : Int32))]))
  refine gv (fun tQ kQ => XS.icmpNo X117.here hx rfl (hb hby d9_32) rfl (tlt (by decide : (2 : Int32) < (6 : Int32))).2.1 kQ) ?_
  show G (T117.setTop (mkF me_ 35 #[.val (.ref b), .val (.ref b), .val (.int (6 : Int32)), .val (.int (2 : Int32)), .val (.ref r1)] []))
  refine gv (fun tQ kQ => XS.aloadN X117.here hx rfl (hb hby d9_35) rfl rfl kQ) ?_
  show G (T117.setTop (mkF me_ 36 #[.val (.ref b), .val (.ref b), .val (.int (6 : Int32)), .val (.int (2 : Int32)), .val (.ref r1)] [(.ref b)]))
  refine gv (fun tQ kQ => XS.iloadN X117.here hx rfl (hb hby d9_36) rfl kQ) ?_
  show G (T117.setTop (mkF me_ 37 #[.val (.ref b), .val (.ref b), .val (.int (6 : Int32)), .val (.int (2 : Int32)), .val (.ref r1)] [(.int (2 : Int32)), (.ref b)]))
  obtain ⟨cl119, Ar119, q119, S119, n119, H119, G119⟩ := (id u1)
  have in119 : ¬ ((2 : Int32) < 0 ∨ cl119.slots.size ≤ ((2 : Int32)).toNatClampNeg) := inb_of S119 ⟨by decide, by decide⟩
  refine gv (X117.aaload hx (j := (2 : Int32)) (v := (.ref r2)) (by rw [eq117]; exact Ar119.1) (State.isArrayOf_alike hZ.alike Ar119.2.1) rfl Ar119.2.2 in119 (Has.at H119 in119 rfl) (g := (mkF me_ 37 #[.val (.ref b), .val (.ref b), .val (.int (6 : Int32)), .val (.int (2 : Int32)), .val (.ref r1)] [(.int (2 : Int32)), (.ref b)])) rfl rfl (hb hby d9_37)) ?_
  show G (T117.setTop (mkF me_ 38 #[.val (.ref b), .val (.ref b), .val (.int (6 : Int32)), .val (.int (2 : Int32)), .val (.ref r1)] [(.ref r2)]))
  refine gv (fun tQ kQ => XS.astore X117.here hx rfl (hb hby d9_38) rfl rfl (l' := #[.val (.ref b), .val (.ref b), .val (.int (6 : Int32)), .val (.int (2 : Int32)), .val (.ref r2)]) rfl kQ) ?_
  show G (T117.setTop (mkF me_ 40 #[.val (.ref b), .val (.ref b), .val (.int (6 : Int32)), .val (.int (2 : Int32)), .val (.ref r2)] []))
  refine gv (fun tQ kQ => XS.aload X117.here hx rfl (hb hby d9_40) rfl rfl kQ) ?_
  show G (T117.setTop (mkF me_ 42 #[.val (.ref b), .val (.ref b), .val (.int (6 : Int32)), .val (.int (2 : Int32)), .val (.ref r2)] [(.ref r2)]))
  obtain ⟨_, _, ⟨T120, L120, k120, n120⟩, -, X120, ⟨Lc120, hQ120, l120, y120, z120⟩, st120⟩ := Jvm.LawKit.callS X117 hx (y := (⟨"java/util/Objects", "requireNonNull", "(Ljava/lang/Object;)Ljava/lang/Object;"⟩ : MethodName)) hown (mvT hZ (hw _ (List.mem_of_getElem? (i := 62) rfl))) (mvT hZ (hw _ (List.mem_of_getElem? (i := 63) rfl))) (mvT hZ (hw _ (List.mem_of_getElem? (i := 64) rfl))) (mvT hZ (hw _ (List.mem_of_getElem? (i := 65) rfl))) (by decide) (backOf (W := 0) (rm_rnn l Z a0 hw [] r2 h0 n0 O0 ) hZ (hw _ (List.mem_of_getElem? (i := 65) rfl)) (hw _ (List.mem_of_getElem? (i := 64) rfl)) (by decide) (by decide)) (g := (mkF me_ 42 #[.val (.ref b), .val (.ref b), .val (.int (6 : Int32)), .val (.int (2 : Int32)), .val (.ref r2)] [(.ref r2)])) rfl (by rw [hml]; rfl) (argsL := [(.ref r2)]) (rest := []) (lenOf pd_2 rfl) rfl (by show 2 * 0 + _ ≤ _; exact Nat.le_of_eq rfl) (hb hby d9_42) (fun _ _ => ⟨rfl, eq117, (by decide : 0 + 0 ≤ _), (by decide : 0 + 0 ≤ _)⟩)
  dsimp only [Pt.U, Pt.locs, Pt.cells, Pt.slots] at X120 l120 y120 z120 st120 hQ120
  subst l120 y120 z120
  obtain ⟨rfl, Nq120, eq120⟩ := hQ120
  have N121 := Fr.app N118 Nq120
  refine gv st120 ?_
  show G (T120.setTop (mkF me_ 45 #[.val (.ref b), .val (.ref b), .val (.int (6 : Int32)), .val (.int (2 : Int32)), .val (.ref r2)] [(.ref r2)]))
  refine gv (fun tQ kQ => XS.pop X120.here hx rfl (hb hby d9_45) rfl rfl kQ) ?_
  show G (T120.setTop (mkF me_ 46 #[.val (.ref b), .val (.ref b), .val (.int (6 : Int32)), .val (.int (2 : Int32)), .val (.ref r2)] []))
  refine gv (fun tQ kQ => XS.iinc X120.here hx rfl (hb hby d9_46) rfl (l' := #[.val (.ref b), .val (.ref b), .val (.int (6 : Int32)), .val (.int ((2 : Int32) + (1 : Int32))), .val (.ref r2)]) rfl kQ) ?_
  show G (T120.setTop (mkF me_ 49 #[.val (.ref b), .val (.ref b), .val (.int (6 : Int32)), .val (.int ((2 : Int32) + (1 : Int32))), .val (.ref r2)] []))
  rw [(by decide : ((2 : Int32) + (1 : Int32)) = (3 : Int32))]
  show G (T120.setTop (mkF me_ 49 #[.val (.ref b), .val (.ref b), .val (.int (6 : Int32)), .val (.int (3 : Int32)), .val (.ref r2)] []))
  refine gv (fun tQ kQ => XS.goto X120.here hx rfl (pc0 := 49) (pc' := 30) rfl (hb hby d9_49) (by decide) (by decide) kQ) ?_
  show G (T120.setTop (mkF me_ 30 #[.val (.ref b), .val (.ref b), .val (.int (6 : Int32)), .val (.int (3 : Int32)), .val (.ref r2)] []))
  refine gv (fun tQ kQ => XS.iloadN X120.here hx rfl (hb hby d9_30) rfl kQ) ?_
  show G (T120.setTop (mkF me_ 31 #[.val (.ref b), .val (.ref b), .val (.int (6 : Int32)), .val (.int (3 : Int32)), .val (.ref r2)] [(.int (3 : Int32))]))
  refine gv (fun tQ kQ => XS.iloadN X120.here hx rfl (hb hby d9_31) rfl kQ) ?_
  show G (T120.setTop (mkF me_ 32 #[.val (.ref b), .val (.ref b), .val (.int (6 : Int32)), .val (.int (3 : Int32)), .val (.ref r2)] [(.int (6 : Int32)), (.int (3 : Int32))]))
  refine gv (fun tQ kQ => XS.icmpNo X120.here hx rfl (hb hby d9_32) rfl (tlt (by decide : (3 : Int32) < (6 : Int32))).2.1 kQ) ?_
  show G (T120.setTop (mkF me_ 35 #[.val (.ref b), .val (.ref b), .val (.int (6 : Int32)), .val (.int (3 : Int32)), .val (.ref r2)] []))
  refine gv (fun tQ kQ => XS.aloadN X120.here hx rfl (hb hby d9_35) rfl rfl kQ) ?_
  show G (T120.setTop (mkF me_ 36 #[.val (.ref b), .val (.ref b), .val (.int (6 : Int32)), .val (.int (3 : Int32)), .val (.ref r2)] [(.ref b)]))
  refine gv (fun tQ kQ => XS.iloadN X120.here hx rfl (hb hby d9_36) rfl kQ) ?_
  show G (T120.setTop (mkF me_ 37 #[.val (.ref b), .val (.ref b), .val (.int (6 : Int32)), .val (.int (3 : Int32)), .val (.ref r2)] [(.int (3 : Int32)), (.ref b)]))
  obtain ⟨cl122, Ar122, q122, S122, n122, H122, G122⟩ := (id u1)
  have in122 : ¬ ((3 : Int32) < 0 ∨ cl122.slots.size ≤ ((3 : Int32)).toNatClampNeg) := inb_of S122 ⟨by decide, by decide⟩
  refine gv (X120.aaload hx (j := (3 : Int32)) (v := (.ref r3)) (by rw [eq120]; exact Ar122.1) (State.isArrayOf_alike hZ.alike Ar122.2.1) rfl Ar122.2.2 in122 (Has.at H122 in122 rfl) (g := (mkF me_ 37 #[.val (.ref b), .val (.ref b), .val (.int (6 : Int32)), .val (.int (3 : Int32)), .val (.ref r2)] [(.int (3 : Int32)), (.ref b)])) rfl rfl (hb hby d9_37)) ?_
  show G (T120.setTop (mkF me_ 38 #[.val (.ref b), .val (.ref b), .val (.int (6 : Int32)), .val (.int (3 : Int32)), .val (.ref r2)] [(.ref r3)]))
  refine gv (fun tQ kQ => XS.astore X120.here hx rfl (hb hby d9_38) rfl rfl (l' := #[.val (.ref b), .val (.ref b), .val (.int (6 : Int32)), .val (.int (3 : Int32)), .val (.ref r3)]) rfl kQ) ?_
  show G (T120.setTop (mkF me_ 40 #[.val (.ref b), .val (.ref b), .val (.int (6 : Int32)), .val (.int (3 : Int32)), .val (.ref r3)] []))
  refine gv (fun tQ kQ => XS.aload X120.here hx rfl (hb hby d9_40) rfl rfl kQ) ?_
  show G (T120.setTop (mkF me_ 42 #[.val (.ref b), .val (.ref b), .val (.int (6 : Int32)), .val (.int (3 : Int32)), .val (.ref r3)] [(.ref r3)]))
  obtain ⟨_, _, ⟨T123, L123, k123, n123⟩, -, X123, ⟨Lc123, hQ123, l123, y123, z123⟩, st123⟩ := Jvm.LawKit.callS X120 hx (y := (⟨"java/util/Objects", "requireNonNull", "(Ljava/lang/Object;)Ljava/lang/Object;"⟩ : MethodName)) hown (mvT hZ (hw _ (List.mem_of_getElem? (i := 62) rfl))) (mvT hZ (hw _ (List.mem_of_getElem? (i := 63) rfl))) (mvT hZ (hw _ (List.mem_of_getElem? (i := 64) rfl))) (mvT hZ (hw _ (List.mem_of_getElem? (i := 65) rfl))) (by decide) (backOf (W := 0) (rm_rnn l Z a0 hw [] r3 h0 n0 O0 ) hZ (hw _ (List.mem_of_getElem? (i := 65) rfl)) (hw _ (List.mem_of_getElem? (i := 64) rfl)) (by decide) (by decide)) (g := (mkF me_ 42 #[.val (.ref b), .val (.ref b), .val (.int (6 : Int32)), .val (.int (3 : Int32)), .val (.ref r3)] [(.ref r3)])) rfl (by rw [hml]; rfl) (argsL := [(.ref r3)]) (rest := []) (lenOf pd_2 rfl) rfl (by show 2 * 0 + _ ≤ _; exact Nat.le_of_eq rfl) (hb hby d9_42) (fun _ _ => ⟨rfl, eq120, (by decide : 0 + 0 ≤ _), (by decide : 0 + 0 ≤ _)⟩)
  dsimp only [Pt.U, Pt.locs, Pt.cells, Pt.slots] at X123 l123 y123 z123 st123 hQ123
  subst l123 y123 z123
  obtain ⟨rfl, Nq123, eq123⟩ := hQ123
  have N124 := Fr.app N121 Nq123
  refine gv st123 ?_
  show G (T123.setTop (mkF me_ 45 #[.val (.ref b), .val (.ref b), .val (.int (6 : Int32)), .val (.int (3 : Int32)), .val (.ref r3)] [(.ref r3)]))
  refine gv (fun tQ kQ => XS.pop X123.here hx rfl (hb hby d9_45) rfl rfl kQ) ?_
  show G (T123.setTop (mkF me_ 46 #[.val (.ref b), .val (.ref b), .val (.int (6 : Int32)), .val (.int (3 : Int32)), .val (.ref r3)] []))
  refine gv (fun tQ kQ => XS.iinc X123.here hx rfl (hb hby d9_46) rfl (l' := #[.val (.ref b), .val (.ref b), .val (.int (6 : Int32)), .val (.int ((3 : Int32) + (1 : Int32))), .val (.ref r3)]) rfl kQ) ?_
  show G (T123.setTop (mkF me_ 49 #[.val (.ref b), .val (.ref b), .val (.int (6 : Int32)), .val (.int ((3 : Int32) + (1 : Int32))), .val (.ref r3)] []))
  rw [(by decide : ((3 : Int32) + (1 : Int32)) = (4 : Int32))]
  show G (T123.setTop (mkF me_ 49 #[.val (.ref b), .val (.ref b), .val (.int (6 : Int32)), .val (.int (4 : Int32)), .val (.ref r3)] []))
  refine gv (fun tQ kQ => XS.goto X123.here hx rfl (pc0 := 49) (pc' := 30) rfl (hb hby d9_49) (by decide) (by decide) kQ) ?_
  show G (T123.setTop (mkF me_ 30 #[.val (.ref b), .val (.ref b), .val (.int (6 : Int32)), .val (.int (4 : Int32)), .val (.ref r3)] []))
  refine gv (fun tQ kQ => XS.iloadN X123.here hx rfl (hb hby d9_30) rfl kQ) ?_
  show G (T123.setTop (mkF me_ 31 #[.val (.ref b), .val (.ref b), .val (.int (6 : Int32)), .val (.int (4 : Int32)), .val (.ref r3)] [(.int (4 : Int32))]))
  refine gv (fun tQ kQ => XS.iloadN X123.here hx rfl (hb hby d9_31) rfl kQ) ?_
  show G (T123.setTop (mkF me_ 32 #[.val (.ref b), .val (.ref b), .val (.int (6 : Int32)), .val (.int (4 : Int32)), .val (.ref r3)] [(.int (6 : Int32)), (.int (4 : Int32))]))
  refine gv (fun tQ kQ => XS.icmpNo X123.here hx rfl (hb hby d9_32) rfl (tlt (by decide : (4 : Int32) < (6 : Int32))).2.1 kQ) ?_
  show G (T123.setTop (mkF me_ 35 #[.val (.ref b), .val (.ref b), .val (.int (6 : Int32)), .val (.int (4 : Int32)), .val (.ref r3)] []))
  refine gv (fun tQ kQ => XS.aloadN X123.here hx rfl (hb hby d9_35) rfl rfl kQ) ?_
  show G (T123.setTop (mkF me_ 36 #[.val (.ref b), .val (.ref b), .val (.int (6 : Int32)), .val (.int (4 : Int32)), .val (.ref r3)] [(.ref b)]))
  refine gv (fun tQ kQ => XS.iloadN X123.here hx rfl (hb hby d9_36) rfl kQ) ?_
  show G (T123.setTop (mkF me_ 37 #[.val (.ref b), .val (.ref b), .val (.int (6 : Int32)), .val (.int (4 : Int32)), .val (.ref r3)] [(.int (4 : Int32)), (.ref b)]))
  obtain ⟨cl125, Ar125, q125, S125, n125, H125, G125⟩ := (id u1)
  have in125 : ¬ ((4 : Int32) < 0 ∨ cl125.slots.size ≤ ((4 : Int32)).toNatClampNeg) := inb_of S125 ⟨by decide, by decide⟩
  refine gv (X123.aaload hx (j := (4 : Int32)) (v := (.ref r4)) (by rw [eq123]; exact Ar125.1) (State.isArrayOf_alike hZ.alike Ar125.2.1) rfl Ar125.2.2 in125 (Has.at H125 in125 rfl) (g := (mkF me_ 37 #[.val (.ref b), .val (.ref b), .val (.int (6 : Int32)), .val (.int (4 : Int32)), .val (.ref r3)] [(.int (4 : Int32)), (.ref b)])) rfl rfl (hb hby d9_37)) ?_
  show G (T123.setTop (mkF me_ 38 #[.val (.ref b), .val (.ref b), .val (.int (6 : Int32)), .val (.int (4 : Int32)), .val (.ref r3)] [(.ref r4)]))
  refine gv (fun tQ kQ => XS.astore X123.here hx rfl (hb hby d9_38) rfl rfl (l' := #[.val (.ref b), .val (.ref b), .val (.int (6 : Int32)), .val (.int (4 : Int32)), .val (.ref r4)]) rfl kQ) ?_
  show G (T123.setTop (mkF me_ 40 #[.val (.ref b), .val (.ref b), .val (.int (6 : Int32)), .val (.int (4 : Int32)), .val (.ref r4)] []))
  refine gv (fun tQ kQ => XS.aload X123.here hx rfl (hb hby d9_40) rfl rfl kQ) ?_
  show G (T123.setTop (mkF me_ 42 #[.val (.ref b), .val (.ref b), .val (.int (6 : Int32)), .val (.int (4 : Int32)), .val (.ref r4)] [(.ref r4)]))
  obtain ⟨_, _, ⟨T126, L126, k126, n126⟩, -, X126, ⟨Lc126, hQ126, l126, y126, z126⟩, st126⟩ := Jvm.LawKit.callS X123 hx (y := (⟨"java/util/Objects", "requireNonNull", "(Ljava/lang/Object;)Ljava/lang/Object;"⟩ : MethodName)) hown (mvT hZ (hw _ (List.mem_of_getElem? (i := 62) rfl))) (mvT hZ (hw _ (List.mem_of_getElem? (i := 63) rfl))) (mvT hZ (hw _ (List.mem_of_getElem? (i := 64) rfl))) (mvT hZ (hw _ (List.mem_of_getElem? (i := 65) rfl))) (by decide) (backOf (W := 0) (rm_rnn l Z a0 hw [] r4 h0 n0 O0 ) hZ (hw _ (List.mem_of_getElem? (i := 65) rfl)) (hw _ (List.mem_of_getElem? (i := 64) rfl)) (by decide) (by decide)) (g := (mkF me_ 42 #[.val (.ref b), .val (.ref b), .val (.int (6 : Int32)), .val (.int (4 : Int32)), .val (.ref r4)] [(.ref r4)])) rfl (by rw [hml]; rfl) (argsL := [(.ref r4)]) (rest := []) (lenOf pd_2 rfl) rfl (by show 2 * 0 + _ ≤ _; exact Nat.le_of_eq rfl) (hb hby d9_42) (fun _ _ => ⟨rfl, eq123, (by decide : 0 + 0 ≤ _), (by decide : 0 + 0 ≤ _)⟩)
  dsimp only [Pt.U, Pt.locs, Pt.cells, Pt.slots] at X126 l126 y126 z126 st126 hQ126
  subst l126 y126 z126
  obtain ⟨rfl, Nq126, eq126⟩ := hQ126
  have N127 := Fr.app N124 Nq126
  refine gv st126 ?_
  show G (T126.setTop (mkF me_ 45 #[.val (.ref b), .val (.ref b), .val (.int (6 : Int32)), .val (.int (4 : Int32)), .val (.ref r4)] [(.ref r4)]))
  refine gv (fun tQ kQ => XS.pop X126.here hx rfl (hb hby d9_45) rfl rfl kQ) ?_
  show G (T126.setTop (mkF me_ 46 #[.val (.ref b), .val (.ref b), .val (.int (6 : Int32)), .val (.int (4 : Int32)), .val (.ref r4)] []))
  refine gv (fun tQ kQ => XS.iinc X126.here hx rfl (hb hby d9_46) rfl (l' := #[.val (.ref b), .val (.ref b), .val (.int (6 : Int32)), .val (.int ((4 : Int32) + (1 : Int32))), .val (.ref r4)]) rfl kQ) ?_
  show G (T126.setTop (mkF me_ 49 #[.val (.ref b), .val (.ref b), .val (.int (6 : Int32)), .val (.int ((4 : Int32) + (1 : Int32))), .val (.ref r4)] []))
  rw [(by decide : ((4 : Int32) + (1 : Int32)) = (5 : Int32))]
  show G (T126.setTop (mkF me_ 49 #[.val (.ref b), .val (.ref b), .val (.int (6 : Int32)), .val (.int (5 : Int32)), .val (.ref r4)] []))
  refine gv (fun tQ kQ => XS.goto X126.here hx rfl (pc0 := 49) (pc' := 30) rfl (hb hby d9_49) (by decide) (by decide) kQ) ?_
  show G (T126.setTop (mkF me_ 30 #[.val (.ref b), .val (.ref b), .val (.int (6 : Int32)), .val (.int (5 : Int32)), .val (.ref r4)] []))
  refine gv (fun tQ kQ => XS.iloadN X126.here hx rfl (hb hby d9_30) rfl kQ) ?_
  show G (T126.setTop (mkF me_ 31 #[.val (.ref b), .val (.ref b), .val (.int (6 : Int32)), .val (.int (5 : Int32)), .val (.ref r4)] [(.int (5 : Int32))]))
  refine gv (fun tQ kQ => XS.iloadN X126.here hx rfl (hb hby d9_31) rfl kQ) ?_
  show G (T126.setTop (mkF me_ 32 #[.val (.ref b), .val (.ref b), .val (.int (6 : Int32)), .val (.int (5 : Int32)), .val (.ref r4)] [(.int (6 : Int32)), (.int (5 : Int32))]))
  refine gv (fun tQ kQ => XS.icmpNo X126.here hx rfl (hb hby d9_32) rfl (tlt (by decide : (5 : Int32) < (6 : Int32))).2.1 kQ) ?_
  show G (T126.setTop (mkF me_ 35 #[.val (.ref b), .val (.ref b), .val (.int (6 : Int32)), .val (.int (5 : Int32)), .val (.ref r4)] []))
  refine gv (fun tQ kQ => XS.aloadN X126.here hx rfl (hb hby d9_35) rfl rfl kQ) ?_
  show G (T126.setTop (mkF me_ 36 #[.val (.ref b), .val (.ref b), .val (.int (6 : Int32)), .val (.int (5 : Int32)), .val (.ref r4)] [(.ref b)]))
  refine gv (fun tQ kQ => XS.iloadN X126.here hx rfl (hb hby d9_36) rfl kQ) ?_
  show G (T126.setTop (mkF me_ 37 #[.val (.ref b), .val (.ref b), .val (.int (6 : Int32)), .val (.int (5 : Int32)), .val (.ref r4)] [(.int (5 : Int32)), (.ref b)]))
  obtain ⟨cl128, Ar128, q128, S128, n128, H128, G128⟩ := (id u1)
  have in128 : ¬ ((5 : Int32) < 0 ∨ cl128.slots.size ≤ ((5 : Int32)).toNatClampNeg) := inb_of S128 ⟨by decide, by decide⟩
  refine gv (X126.aaload hx (j := (5 : Int32)) (v := (.ref r5)) (by rw [eq126]; exact Ar128.1) (State.isArrayOf_alike hZ.alike Ar128.2.1) rfl Ar128.2.2 in128 (Has.at H128 in128 rfl) (g := (mkF me_ 37 #[.val (.ref b), .val (.ref b), .val (.int (6 : Int32)), .val (.int (5 : Int32)), .val (.ref r4)] [(.int (5 : Int32)), (.ref b)])) rfl rfl (hb hby d9_37)) ?_
  show G (T126.setTop (mkF me_ 38 #[.val (.ref b), .val (.ref b), .val (.int (6 : Int32)), .val (.int (5 : Int32)), .val (.ref r4)] [(.ref r5)]))
  refine gv (fun tQ kQ => XS.astore X126.here hx rfl (hb hby d9_38) rfl rfl (l' := #[.val (.ref b), .val (.ref b), .val (.int (6 : Int32)), .val (.int (5 : Int32)), .val (.ref r5)]) rfl kQ) ?_
  show G (T126.setTop (mkF me_ 40 #[.val (.ref b), .val (.ref b), .val (.int (6 : Int32)), .val (.int (5 : Int32)), .val (.ref r5)] []))
  refine gv (fun tQ kQ => XS.aload X126.here hx rfl (hb hby d9_40) rfl rfl kQ) ?_
  show G (T126.setTop (mkF me_ 42 #[.val (.ref b), .val (.ref b), .val (.int (6 : Int32)), .val (.int (5 : Int32)), .val (.ref r5)] [(.ref r5)]))
  obtain ⟨_, _, ⟨T129, L129, k129, n129⟩, -, X129, ⟨Lc129, hQ129, l129, y129, z129⟩, st129⟩ := Jvm.LawKit.callS X126 hx (y := (⟨"java/util/Objects", "requireNonNull", "(Ljava/lang/Object;)Ljava/lang/Object;"⟩ : MethodName)) hown (mvT hZ (hw _ (List.mem_of_getElem? (i := 62) rfl))) (mvT hZ (hw _ (List.mem_of_getElem? (i := 63) rfl))) (mvT hZ (hw _ (List.mem_of_getElem? (i := 64) rfl))) (mvT hZ (hw _ (List.mem_of_getElem? (i := 65) rfl))) (by decide) (backOf (W := 0) (rm_rnn l Z a0 hw [] r5 h0 n0 O0 ) hZ (hw _ (List.mem_of_getElem? (i := 65) rfl)) (hw _ (List.mem_of_getElem? (i := 64) rfl)) (by decide) (by decide)) (g := (mkF me_ 42 #[.val (.ref b), .val (.ref b), .val (.int (6 : Int32)), .val (.int (5 : Int32)), .val (.ref r5)] [(.ref r5)])) rfl (by rw [hml]; rfl) (argsL := [(.ref r5)]) (rest := []) (lenOf pd_2 rfl) rfl (by show 2 * 0 + _ ≤ _; exact Nat.le_of_eq rfl) (hb hby d9_42) (fun _ _ => ⟨rfl, eq126, (by decide : 0 + 0 ≤ _), (by decide : 0 + 0 ≤ _)⟩)
  dsimp only [Pt.U, Pt.locs, Pt.cells, Pt.slots] at X129 l129 y129 z129 st129 hQ129
  subst l129 y129 z129
  obtain ⟨rfl, Nq129, eq129⟩ := hQ129
  have N130 := Fr.app N127 Nq129
  refine gv st129 ?_
  show G (T129.setTop (mkF me_ 45 #[.val (.ref b), .val (.ref b), .val (.int (6 : Int32)), .val (.int (5 : Int32)), .val (.ref r5)] [(.ref r5)]))
  refine gv (fun tQ kQ => XS.pop X129.here hx rfl (hb hby d9_45) rfl rfl kQ) ?_
  show G (T129.setTop (mkF me_ 46 #[.val (.ref b), .val (.ref b), .val (.int (6 : Int32)), .val (.int (5 : Int32)), .val (.ref r5)] []))
  refine gv (fun tQ kQ => XS.iinc X129.here hx rfl (hb hby d9_46) rfl (l' := #[.val (.ref b), .val (.ref b), .val (.int (6 : Int32)), .val (.int ((5 : Int32) + (1 : Int32))), .val (.ref r5)]) rfl kQ) ?_
  show G (T129.setTop (mkF me_ 49 #[.val (.ref b), .val (.ref b), .val (.int (6 : Int32)), .val (.int ((5 : Int32) + (1 : Int32))), .val (.ref r5)] []))
  rw [(by decide : ((5 : Int32) + (1 : Int32)) = (6 : Int32))]
  show G (T129.setTop (mkF me_ 49 #[.val (.ref b), .val (.ref b), .val (.int (6 : Int32)), .val (.int (6 : Int32)), .val (.ref r5)] []))
  refine gv (fun tQ kQ => XS.goto X129.here hx rfl (pc0 := 49) (pc' := 30) rfl (hb hby d9_49) (by decide) (by decide) kQ) ?_
  show G (T129.setTop (mkF me_ 30 #[.val (.ref b), .val (.ref b), .val (.int (6 : Int32)), .val (.int (6 : Int32)), .val (.ref r5)] []))
  refine gv (fun tQ kQ => XS.iloadN X129.here hx rfl (hb hby d9_30) rfl kQ) ?_
  show G (T129.setTop (mkF me_ 31 #[.val (.ref b), .val (.ref b), .val (.int (6 : Int32)), .val (.int (6 : Int32)), .val (.ref r5)] [(.int (6 : Int32))]))
  refine gv (fun tQ kQ => XS.iloadN X129.here hx rfl (hb hby d9_31) rfl kQ) ?_
  show G (T129.setTop (mkF me_ 32 #[.val (.ref b), .val (.ref b), .val (.int (6 : Int32)), .val (.int (6 : Int32)), .val (.ref r5)] [(.int (6 : Int32)), (.int (6 : Int32))]))
  refine gv (fun tQ kQ => XS.icmpYes X129.here hx rfl (pc0 := 32) (pc' := 52) rfl (hb hby d9_32) rfl (flt (by decide : ¬ ((6 : Int32) < (6 : Int32)))).2.1 (by decide) (by decide) kQ) ?_
  show G (T129.setTop (mkF me_ 52 #[.val (.ref b), .val (.ref b), .val (.int (6 : Int32)), .val (.int (6 : Int32)), .val (.ref r5)] []))
  refine gv (fun tQ kQ => XS.aloadN X129.here hx rfl (hb hby d9_52) rfl rfl kQ) ?_
  show G (T129.setTop (mkF me_ 53 #[.val (.ref b), .val (.ref b), .val (.int (6 : Int32)), .val (.int (6 : Int32)), .val (.ref r5)] [(.ref b)]))
  obtain ⟨cl131, Ar131, -, S131, n131, -, -⟩ := (id u1)
  refine gv (X129.arraylength hx (by rw [eq129]; exact Ar131.1) (State.isArrayOf_alike hZ.alike Ar131.2.1) (g := (mkF me_ 53 #[.val (.ref b), .val (.ref b), .val (.int (6 : Int32)), .val (.int (6 : Int32)), .val (.ref r5)] [(.ref b)])) rfl rfl (hb hby d9_53)) ?_
  rw [len_of S131 n131]
  show G (T129.setTop (mkF me_ 54 #[.val (.ref b), .val (.ref b), .val (.int (6 : Int32)), .val (.int (6 : Int32)), .val (.ref r5)] [(.int (6 : Int32))]))
  refine gv (fun tQ kQ => XS.tswOut X129.here hx rfl (pc0 := 54) (pc' := 115) rfl (hb hby d9_54) rfl (by decide) (by decide) (by decide) kQ) ?_
  show G (T129.setTop (mkF me_ 115 #[.val (.ref b), .val (.ref b), .val (.int (6 : Int32)), .val (.int (6 : Int32)), .val (.ref r5)] []))
  obtain ⟨T132, h132, X132, e132, E132, A132, D132, -, st132⟩ := newO X129 hx hZ hown (hw _ (List.mem_of_getElem? (i := 66) rfl)) (hw _ (List.mem_of_getElem? (i := 67) rfl)) (hw _ (List.mem_of_getElem? (i := 68) rfl)) eq129 (g := (mkF me_ 115 #[.val (.ref b), .val (.ref b), .val (.int (6 : Int32)), .val (.int (6 : Int32)), .val (.ref r5)] [])) rfl (hb hby d9_115) (by decide) (by decide)
  obtain ⟨b132, g132⟩ : ∃ z, z = h0.size := ⟨_, rfl⟩
  rw [← g132] at A132 D132 st132
  refine gv st132 ?_
  have ne133 : b ≠ b132 := Nat.ne_of_lt (Nat.lt_of_lt_of_le u1.lt (Nat.le_of_eq g132.symm))
  have g134 : n0 ≤ b132 := Nat.le_trans (own_old O0) (Nat.le_of_eq g132.symm)
  have z135 : h0.size ≤ b132 := Nat.le_trans K0.1 (Nat.le_of_eq g132.symm)
  have f136 : Arv Z h132 b k (.object "java/lang/Object") (6 : Int32) [(.ref r0), (.ref r1), (.ref r2), (.ref r3), (.ref r4), (.ref r5)] .null := u1.ext E132
  have O137 := O0.ext E132
  have K138 := K0.ext E132
  have f139 : Fld Z h132 b132 "java/util/ImmutableCollections$ListN" "elements" "[Ljava/lang/Object;" .null := D132 (Or.inr (hw _ (List.mem_of_getElem? (i := 93) rfl))) (ty := (.array (.object "java/lang/Object"))) (by decide)
  have f140 : Fld Z h132 b132 "java/util/ImmutableCollections$ListN" "allowNulls" "Z" (.int (0 : Int32)) := D132 (Or.inr (hw _ (List.mem_of_getElem? (i := 95) rfl))) (ty := .boolean) (by decide)
  show G (T132.setTop (mkF me_ 118 #[.val (.ref b), .val (.ref b), .val (.int (6 : Int32)), .val (.int (6 : Int32)), .val (.ref r5)] [(.ref b132)]))
  refine gv (fun tQ kQ => XS.dup X132.here hx rfl (hb hby d9_118) rfl rfl kQ) ?_
  show G (T132.setTop (mkF me_ 119 #[.val (.ref b), .val (.ref b), .val (.int (6 : Int32)), .val (.int (6 : Int32)), .val (.ref r5)] [(.ref b132), (.ref b132)]))
  refine gv (fun tQ kQ => XS.aloadN X132.here hx rfl (hb hby d9_119) rfl rfl kQ) ?_
  show G (T132.setTop (mkF me_ 120 #[.val (.ref b), .val (.ref b), .val (.int (6 : Int32)), .val (.int (6 : Int32)), .val (.ref r5)] [(.ref b), (.ref b132), (.ref b132)]))
  refine gv (fun tQ kQ => XS.iconst X132.here hx rfl (hb hby d9_120) kQ) ?_
  show G (T132.setTop (mkF me_ 121 #[.val (.ref b), .val (.ref b), .val (.int (6 : Int32)), .val (.int (6 : Int32)), .val (.ref r5)] [(.int (0 : Int32)), (.ref b), (.ref b132), (.ref b132)]))
  obtain ⟨_, _, ⟨T141, L141, k141, n141⟩, -, X141, ⟨Lc141, hQ141, l141, y141, z141⟩, st141⟩ := X132.specialBackNest hx (y := (⟨"java/util/ImmutableCollections$ListN", "<init>", "([Ljava/lang/Object;Z)V"⟩ : MethodName)) rfl hown (own_mvM hZ (hw _ (List.mem_of_getElem? (i := 69) rfl))) (mvT hZ (hw _ (List.mem_of_getElem? (i := 70) rfl))) (mvT hZ (hw _ (List.mem_of_getElem? (i := 72) rfl))) (by decide) (backOf (W := 1) (rm_lni l Z a0 hw [] b132 b h132 n0 O137 A132 f139 f140 g134) hZ (hw _ (List.mem_of_getElem? (i := 72) rfl)) (hw _ (List.mem_of_getElem? (i := 68) rfl)) (by decide) (by decide)) (g := (mkF me_ 121 #[.val (.ref b), .val (.ref b), .val (.int (6 : Int32)), .val (.int (6 : Int32)), .val (.ref r5)] [(.int (0 : Int32)), (.ref b), (.ref b132), (.ref b132)])) rfl (by rw [hml]; rfl) (Steps.refl _) (a := b132) (argsL := [(.ref b), (.int (0 : Int32))]) (rest := [(.ref b132)]) (lenOf pd_3 rfl) rfl (by show 2 * 0 + _ ≤ _; exact Nat.le_of_eq rfl) (hb hby d9_121) (fun _ _ => ⟨rfl, e132, (by decide : 1 + 0 ≤ _), (by decide : 2 + 0 ≤ _)⟩)
  dsimp only [Pt.U, Pt.locs, Pt.cells, Pt.slots] at X141 l141 y141 z141 st141 hQ141
  subst l141 y141 z141
  obtain ⟨rfl, Nq141, Kq141, w141_0, w141_1⟩ := hQ141
  have N142 := Fr.app N130 Nq141
  obtain ⟨h141, e141⟩ : ∃ z, T141.heap = z := ⟨_, rfl⟩
  rw [e141] at Kq141 w141_0 w141_1
  have f143 : Arv Z h141 b k (.object "java/lang/Object") (6 : Int32) [(.ref r0), (.ref r1), (.ref r2), (.ref r3), (.ref r4), (.ref r5)] .null := f136.keep Kq141 (ninS ne133 nin0)
  have f144 : Exa Z h141 b132 "java/util/ImmutableCollections$ListN" := A132.keep Kq141
  have O145 := O137.keep Kq141 (allS g134 all0)
  have K146 := K138.trans Kq141 (allS (Or.inr z135) all0)
  refine gv (fun tQ kQ => st141.trans kQ) ?_
  show G (T141.setTop (mkF me_ 124 #[.val (.ref b), .val (.ref b), .val (.int (6 : Int32)), .val (.int (6 : Int32)), .val (.ref r5)] [(.ref b132)]))
  refine gf _ (own_ret X141 Bd.notSynchronized (v := some (.ref b132)) (fun h => by rw [Bd.returns] at h; cases h) ?_ (by decide) (by decide) (fun fs hr => retOut X141 hx (t := (.object "java/util/List")) Bd.returns rfl (Or.inr (Or.inr (Or.inr (Or.inr ⟨rfl, rfl, rfl⟩)))) (hb hby d9_124) hr))
  show Q_lfta Z b k r0 r1 r2 r3 r4 r5 h0 n0 _ T141.heap _
  rw [e141]
  exact ⟨b132, rfl, N142, K146, z135, w141_0, w141_1⟩
theorem ef_6 (m : MethodId) (x0 : Addr) (x1 : Addr) (x2 : Addr) (x3 : Addr) (x4 : Addr) (x5 : Addr)  : entryFrame m #[(.ref x0), (.ref x1), (.ref x2), (.ref x3), (.ref x4), (.ref x5)] 6 = mkF m 0 #[.val (.ref x0), .val (.ref x1), .val (.ref x2), .val (.ref x3), .val (.ref x4), .val (.ref x5)] [] := by first | (simp [entryFrame, mkF, argsToLocals, Value.category]; done) | rfl
theorem pn_10 : plainName "java/util/List" = true := by first | (simp [plainName, overriddenIn]; done) | decide +kernel
theorem d8_0 : decode jdk_40_method_42_code 0 = .ok (.bipush 6, 2) := by decide +kernel
theorem d8_2 : decode jdk_40_method_42_code 2 = .ok (.anewarray 103, 3) := by decide +kernel
theorem d8_5 : decode jdk_40_method_42_code 5 = .ok (.dup, 1) := by decide +kernel
theorem d8_6 : decode jdk_40_method_42_code 6 = .ok (.iconst 0, 1) := by decide +kernel
theorem d8_7 : decode jdk_40_method_42_code 7 = .ok (.aload_n 0, 1) := by decide +kernel
theorem d8_8 : decode jdk_40_method_42_code 8 = .ok (.aastore, 1) := by decide +kernel
theorem d8_9 : decode jdk_40_method_42_code 9 = .ok (.dup, 1) := by decide +kernel
theorem d8_10 : decode jdk_40_method_42_code 10 = .ok (.iconst 1, 1) := by decide +kernel
theorem d8_11 : decode jdk_40_method_42_code 11 = .ok (.aload_n 1, 1) := by decide +kernel
theorem d8_12 : decode jdk_40_method_42_code 12 = .ok (.aastore, 1) := by decide +kernel
theorem d8_13 : decode jdk_40_method_42_code 13 = .ok (.dup, 1) := by decide +kernel
theorem d8_14 : decode jdk_40_method_42_code 14 = .ok (.iconst 2, 1) := by decide +kernel
theorem d8_15 : decode jdk_40_method_42_code 15 = .ok (.aload_n 2, 1) := by decide +kernel
theorem d8_16 : decode jdk_40_method_42_code 16 = .ok (.aastore, 1) := by decide +kernel
theorem d8_17 : decode jdk_40_method_42_code 17 = .ok (.dup, 1) := by decide +kernel
theorem d8_18 : decode jdk_40_method_42_code 18 = .ok (.iconst 3, 1) := by decide +kernel
theorem d8_19 : decode jdk_40_method_42_code 19 = .ok (.aload_n 3, 1) := by decide +kernel
theorem d8_20 : decode jdk_40_method_42_code 20 = .ok (.aastore, 1) := by decide +kernel
theorem d8_21 : decode jdk_40_method_42_code 21 = .ok (.dup, 1) := by decide +kernel
theorem d8_22 : decode jdk_40_method_42_code 22 = .ok (.iconst 4, 1) := by decide +kernel
theorem d8_23 : decode jdk_40_method_42_code 23 = .ok (.aload 4, 2) := by decide +kernel
theorem d8_25 : decode jdk_40_method_42_code 25 = .ok (.aastore, 1) := by decide +kernel
theorem d8_26 : decode jdk_40_method_42_code 26 = .ok (.dup, 1) := by decide +kernel
theorem d8_27 : decode jdk_40_method_42_code 27 = .ok (.iconst 5, 1) := by decide +kernel
theorem d8_28 : decode jdk_40_method_42_code 28 = .ok (.aload 5, 2) := by decide +kernel
theorem d8_30 : decode jdk_40_method_42_code 30 = .ok (.aastore, 1) := by decide +kernel
theorem d8_31 : decode jdk_40_method_42_code 31 = .ok (.invokestatic 105, 3) := by decide +kernel
theorem pd_4 : parseMethodDescriptor "([Ljava/lang/Object;)Ljava/util/List;" = some ⟨[(.array (.object "java/lang/Object"))], some (.object "java/util/List")⟩ := by decide +kernel
theorem d8_34 : decode jdk_40_method_42_code 34 = .ok (.areturn, 1) := by decide +kernel
def Q_of6 (Z : State) (r0 : Addr) (r1 : Addr) (r2 : Addr) (r3 : Addr) (r4 : Addr) (r5 : Addr) (h0 : Heap) (n0 : Nat) (v : Option Value) (h : Heap) (L : List Loc) : Prop := ∃ (x : Addr), ∃ (b : Addr), ∃ (k : ClassId), v = some (.ref x) ∧ Fr n0 L ∧ Keep h0 h [] ∧ h0.size ≤ x ∧ (Exa Z h x "java/util/ImmutableCollections$ListN") ∧ (Fld Z h x "java/util/ImmutableCollections$ListN" "elements" "[Ljava/lang/Object;" (.ref b)) ∧ (Arv Z h b k (.object "java/lang/Object") (6 : Int32) [(.ref r0), (.ref r1), (.ref r2), (.ref r3), (.ref r4), (.ref r5)] .null)
set_option maxRecDepth 65536 in
set_option maxHeartbeats 40000000 in
theorem rm_of6 (l : Launch) (Z : State) (a0 : Array Value) (hw : ∀ d ∈ tables_1, d.before a0 Z = true) (ws : List Jvm.Cond) (r0 : Addr) (r1 : Addr) (r2 : Addr) (r3 : Addr) (r4 : Addr) (r5 : Addr) (h0 : Heap) (n0 : Nat) (O0 : Old Z n0 h0) (u0 : Sta Z Z.heap "java/util/ImmutableCollections" "$assertionsDisabled" "Z" (.int (1 : Int32))) (u1 : Exa Z h0 r0 "java/lang/Double") (u2 : Exa Z h0 r1 "java/lang/Double") (u3 : Exa Z h0 r2 "java/lang/Double") (u4 : Exa Z h0 r3 "java/lang/Double") (u5 : Exa Z h0 r4 "java/lang/Double") (u6 : Exa Z h0 r5 "java/lang/Double") :
    MetFree l (⟨"java/util/List", "of", "(Ljava/lang/Object;Ljava/lang/Object;Ljava/lang/Object;Ljava/lang/Object;Ljava/lang/Object;Ljava/lang/Object;)Ljava/util/List;"⟩ : MethodName) (head1 (Jvm.Cond.code (⟨"java/util/List", "of", "(Ljava/lang/Object;Ljava/lang/Object;Ljava/lang/Object;Ljava/lang/Object;Ljava/lang/Object;Ljava/lang/Object;)Ljava/util/List;"⟩ : MethodName) jdk_40_method_42_code 6 (some (.object "java/util/List")) :: ws) ({ frames := 6, cells := 2, slots := 8, locals := 79 } : Room)) (fun aV U => aV = #[(.ref r0), (.ref r1), (.ref r2), (.ref r3), (.ref r4), (.ref r5)] ∧ Z.Warmed39 U.vm ∧ U.heap = h0) (fun _ _ _ _ _ => True) (fun _ U o U' => ∃ v L, o = .returned v ∧ Q_of6 Z r0 r1 r2 r3 r4 r5 h0 n0 v U'.heap L ∧ FrameEnd U o U' L ({ frames := 6, cells := 2, slots := 8, locals := 79 } : Room).cells ({ frames := 6, cells := 2, slots := 8, locals := 79 } : Room).slots) := by
  refine MetFree.of_bodySF (plainFor_of_name pn_10) hisR ?_
  intro pr_ en_ st_ me_ args below meth_ co_ s₁ Bd hml0 hP hK
  obtain ⟨rfl, hZ, hh⟩ := hP
  have hx := Bd.exec
  have hby := Bd.bytes
  have hml : co_.maxLocals = 6 := hml0
  have hown : st_.vm.findClass "java/util/List" = some me_.cls := findClass_of_methodNamed Bd.named
  have hnm := (name_of_methodNamed Bd.named Bd.method).1
  have X0 : Stand pr_ l en_ ({ frames := 6, cells := 2, slots := 8, locals := 79 } : Room) st_ me_ #[(.ref r0), (.ref r1), (.ref r2), (.ref r3), (.ref r4), (.ref r5)] below meth_ co_ s₁ [] 0 0 := Stand.of_body Bd
  have e0 : s₁.heap = h0 := by rw [← hh, Bd.state]; rfl
  have N0 := Fr.nil n0
  have K0 := Keep.refl h0 []
  obtain ⟨G, gv, gf, gb⟩ := own_G pr_.tables en_ below st_ (Q_of6 Z r0 r1 r2 r3 r4 r5 h0 n0) ({ frames := 6, cells := 2, slots := 8, locals := 79 } : Room).cells ({ frames := 6, cells := 2, slots := 8, locals := 79 } : Room).slots
  show own_Fin pr_.tables en_ below st_ (Q_of6 Z r0 r1 r2 r3 r4 r5 h0 n0) ({ frames := 6, cells := 2, slots := 8, locals := 79 } : Room).cells ({ frames := 6, cells := 2, slots := 8, locals := 79 } : Room).slots (s₁.setTop (entryFrame me_ #[(.ref r0), (.ref r1), (.ref r2), (.ref r3), (.ref r4), (.ref r5)] 6))
  refine gb _ (gv (fun tQ kQ => castTop (ef_6 me_ r0 r1 r2 r3 r4 r5) kQ) ?_)
  show G (s₁.setTop (mkF me_ 0 #[.val (.ref r0), .val (.ref r1), .val (.ref r2), .val (.ref r3), .val (.ref r4), .val (.ref r5)] []))
  refine gv (fun tQ kQ => XS.bipush X0.here hx rfl (hb hby d8_0) kQ) ?_
  show G (s₁.setTop (mkF me_ 2 #[.val (.ref r0), .val (.ref r1), .val (.ref r2), .val (.ref r3), .val (.ref r4), .val (.ref r5)] [(.int (6 : Int32))]))
  obtain ⟨T147, h147, k147, X147, e147, E147, A147, Ov147, st147⟩ := newR X0 hx hZ hown (hw _ (List.mem_of_getElem? (i := 54) rfl)) (hw _ (List.mem_of_getElem? (i := 55) rfl)) e0 (g := (mkF me_ 2 #[.val (.ref r0), .val (.ref r1), .val (.ref r2), .val (.ref r3), .val (.ref r4), .val (.ref r5)] [(.int (6 : Int32))])) rfl (hb hby d8_2) rfl (by decide) (cap := 6) (by decide) (by decide) (by decide) (by decide)
  obtain ⟨b147, g147⟩ : ∃ z, z = h0.size := ⟨_, rfl⟩
  rw [← g147] at A147 st147
  refine gv st147 ?_
  have ne148 : r0 ≠ b147 := Nat.ne_of_lt (Nat.lt_of_lt_of_le u1.lt (Nat.le_of_eq g147.symm))
  have ne149 : r1 ≠ b147 := Nat.ne_of_lt (Nat.lt_of_lt_of_le u2.lt (Nat.le_of_eq g147.symm))
  have ne150 : r2 ≠ b147 := Nat.ne_of_lt (Nat.lt_of_lt_of_le u3.lt (Nat.le_of_eq g147.symm))
  have ne151 : r3 ≠ b147 := Nat.ne_of_lt (Nat.lt_of_lt_of_le u4.lt (Nat.le_of_eq g147.symm))
  have ne152 : r4 ≠ b147 := Nat.ne_of_lt (Nat.lt_of_lt_of_le u5.lt (Nat.le_of_eq g147.symm))
  have ne153 : r5 ≠ b147 := Nat.ne_of_lt (Nat.lt_of_lt_of_le u6.lt (Nat.le_of_eq g147.symm))
  have g154 : n0 ≤ b147 := Nat.le_trans (own_old O0) (Nat.le_of_eq g147.symm)
  have z155 : h0.size ≤ b147 := Nat.le_trans K0.1 (Nat.le_of_eq g147.symm)
  have f156 : Exa Z h147 r0 "java/lang/Double" := u1.ext E147
  have f157 : Exa Z h147 r1 "java/lang/Double" := u2.ext E147
  have f158 : Exa Z h147 r2 "java/lang/Double" := u3.ext E147
  have f159 : Exa Z h147 r3 "java/lang/Double" := u4.ext E147
  have f160 : Exa Z h147 r4 "java/lang/Double" := u5.ext E147
  have f161 : Exa Z h147 r5 "java/lang/Double" := u6.ext E147
  have O162 := O0.ext E147
  have K163 := K0.ext E147
  have V147 : Arv Z h147 b147 k147 (.object "java/lang/Object") (6 : Int32) [.null, .null, .null, .null, .null, .null] .null := (Arv.new A147 (by decide)).pad (pad_rep [] .null 6)
  show G (T147.setTop (mkF me_ 5 #[.val (.ref r0), .val (.ref r1), .val (.ref r2), .val (.ref r3), .val (.ref r4), .val (.ref r5)] [(.ref b147)]))
  refine gv (fun tQ kQ => XS.dup X147.here hx rfl (hb hby d8_5) rfl rfl kQ) ?_
  show G (T147.setTop (mkF me_ 6 #[.val (.ref r0), .val (.ref r1), .val (.ref r2), .val (.ref r3), .val (.ref r4), .val (.ref r5)] [(.ref b147), (.ref b147)]))
  refine gv (fun tQ kQ => XS.iconst X147.here hx rfl (hb hby d8_6) kQ) ?_
  show G (T147.setTop (mkF me_ 7 #[.val (.ref r0), .val (.ref r1), .val (.ref r2), .val (.ref r3), .val (.ref r4), .val (.ref r5)] [(.int (0 : Int32)), (.ref b147), (.ref b147)]))
  refine gv (fun tQ kQ => XS.aloadN X147.here hx rfl (hb hby d8_7) rfl rfl kQ) ?_
  show G (T147.setTop (mkF me_ 8 #[.val (.ref r0), .val (.ref r1), .val (.ref r2), .val (.ref r3), .val (.ref r4), .val (.ref r5)] [(.ref r0), (.int (0 : Int32)), (.ref b147), (.ref b147)]))
  obtain ⟨cl164, Ar164, q164, S164, n164, H164, G164⟩ := (id V147)
  have in164 : ¬ ((0 : Int32) < 0 ∨ cl164.slots.size ≤ ((0 : Int32)).toNatClampNeg) := inb_of S164 ⟨by decide, by decide⟩
  obtain ⟨T164, h164, X164, e164, W164, st164⟩ := stR X147 hx hZ e147 Ar164 (j := (0 : Int32)) in164 rfl (Sto.ofV Ar164 q164 Ov147 (Ins.of_exa f156 (hw _ (List.mem_of_getElem? (i := 56) rfl)))) (g := (mkF me_ 8 #[.val (.ref r0), .val (.ref r1), .val (.ref r2), .val (.ref r3), .val (.ref r4), .val (.ref r5)] [(.ref r0), (.int (0 : Int32)), (.ref b147), (.ref b147)])) rfl rfl (hb hby d8_8)
  refine gv st164 ?_
  have f166 : Exa Z h164 r0 "java/lang/Double" := f156.wr W164
  have f167 : Exa Z h164 r1 "java/lang/Double" := f157.wr W164
  have f168 : Exa Z h164 r2 "java/lang/Double" := f158.wr W164
  have f169 : Exa Z h164 r3 "java/lang/Double" := f159.wr W164
  have f170 : Exa Z h164 r4 "java/lang/Double" := f160.wr W164
  have f171 : Exa Z h164 r5 "java/lang/Double" := f161.wr W164
  have O172 := O162.wr W164 g154
  have K173 := K163.wr W164 (Or.inr z155)
  have N174 := Fr.snoc X164 N0 g154
  have f165 : Arv Z h164 b147 k147 (.object "java/lang/Object") (6 : Int32) [(.ref r0), .null, .null, .null, .null, .null] .null := Arv.set Ar164 q164 S164 n164 H164 G164 rfl W164 0 rfl (Nat.le_of_ble_eq_true rfl)
  show G (T164.setTop (mkF me_ 9 #[.val (.ref r0), .val (.ref r1), .val (.ref r2), .val (.ref r3), .val (.ref r4), .val (.ref r5)] [(.ref b147)]))
  refine gv (fun tQ kQ => XS.dup X164.here hx rfl (hb hby d8_9) rfl rfl kQ) ?_
  show G (T164.setTop (mkF me_ 10 #[.val (.ref r0), .val (.ref r1), .val (.ref r2), .val (.ref r3), .val (.ref r4), .val (.ref r5)] [(.ref b147), (.ref b147)]))
  refine gv (fun tQ kQ => XS.iconst X164.here hx rfl (hb hby d8_10) kQ) ?_
  show G (T164.setTop (mkF me_ 11 #[.val (.ref r0), .val (.ref r1), .val (.ref r2), .val (.ref r3), .val (.ref r4), .val (.ref r5)] [(.int (1 : Int32)), (.ref b147), (.ref b147)]))
  refine gv (fun tQ kQ => XS.aloadN X164.here hx rfl (hb hby d8_11) rfl rfl kQ) ?_
  show G (T164.setTop (mkF me_ 12 #[.val (.ref r0), .val (.ref r1), .val (.ref r2), .val (.ref r3), .val (.ref r4), .val (.ref r5)] [(.ref r1), (.int (1 : Int32)), (.ref b147), (.ref b147)]))
  obtain ⟨cl175, Ar175, q175, S175, n175, H175, G175⟩ := (id f165)
  have in175 : ¬ ((1 : Int32) < 0 ∨ cl175.slots.size ≤ ((1 : Int32)).toNatClampNeg) := inb_of S175 ⟨by decide, by decide⟩
  obtain ⟨T175, h175, X175, e175, W175, st175⟩ := stR X164 hx hZ e164 Ar175 (j := (1 : Int32)) in175 rfl (Sto.ofV Ar175 q175 Ov147 (Ins.of_exa f167 (hw _ (List.mem_of_getElem? (i := 56) rfl)))) (g := (mkF me_ 12 #[.val (.ref r0), .val (.ref r1), .val (.ref r2), .val (.ref r3), .val (.ref r4), .val (.ref r5)] [(.ref r1), (.int (1 : Int32)), (.ref b147), (.ref b147)])) rfl rfl (hb hby d8_12)
  refine gv st175 ?_
  have f177 : Exa Z h175 r0 "java/lang/Double" := f166.wr W175
  have f178 : Exa Z h175 r1 "java/lang/Double" := f167.wr W175
  have f179 : Exa Z h175 r2 "java/lang/Double" := f168.wr W175
  have f180 : Exa Z h175 r3 "java/lang/Double" := f169.wr W175
  have f181 : Exa Z h175 r4 "java/lang/Double" := f170.wr W175
  have f182 : Exa Z h175 r5 "java/lang/Double" := f171.wr W175
  have O183 := O172.wr W175 g154
  have K184 := K173.wr W175 (Or.inr z155)
  have N185 := Fr.snoc X175 N174 g154
  have f176 : Arv Z h175 b147 k147 (.object "java/lang/Object") (6 : Int32) [(.ref r0), (.ref r1), .null, .null, .null, .null] .null := Arv.set Ar175 q175 S175 n175 H175 G175 rfl W175 1 rfl (Nat.le_of_ble_eq_true rfl)
  show G (T175.setTop (mkF me_ 13 #[.val (.ref r0), .val (.ref r1), .val (.ref r2), .val (.ref r3), .val (.ref r4), .val (.ref r5)] [(.ref b147)]))
  refine gv (fun tQ kQ => XS.dup X175.here hx rfl (hb hby d8_13) rfl rfl kQ) ?_
  show G (T175.setTop (mkF me_ 14 #[.val (.ref r0), .val (.ref r1), .val (.ref r2), .val (.ref r3), .val (.ref r4), .val (.ref r5)] [(.ref b147), (.ref b147)]))
  refine gv (fun tQ kQ => XS.iconst X175.here hx rfl (hb hby d8_14) kQ) ?_
  show G (T175.setTop (mkF me_ 15 #[.val (.ref r0), .val (.ref r1), .val (.ref r2), .val (.ref r3), .val (.ref r4), .val (.ref r5)] [(.int (2 : Int32)), (.ref b147), (.ref b147)]))
  refine gv (fun tQ kQ => XS.aloadN X175.here hx rfl (hb hby d8_15) rfl rfl kQ) ?_
  show G (T175.setTop (mkF me_ 16 #[.val (.ref r0), .val (.ref r1), .val (.ref r2), .val (.ref r3), .val (.ref r4), .val (.ref r5)] [(.ref r2), (.int (2 : Int32)), (.ref b147), (.ref b147)]))
  obtain ⟨cl186, Ar186, q186, S186, n186, H186, G186⟩ := (id f176)
  have in186 : ¬ ((2 : Int32) < 0 ∨ cl186.slots.size ≤ ((2 : Int32)).toNatClampNeg) := inb_of S186 ⟨by decide, by decide⟩
  obtain ⟨T186, h186, X186, e186, W186, st186⟩ := stR X175 hx hZ e175 Ar186 (j := (2 : Int32)) in186 rfl (Sto.ofV Ar186 q186 Ov147 (Ins.of_exa f179 (hw _ (List.mem_of_getElem? (i := 56) rfl)))) (g := (mkF me_ 16 #[.val (.ref r0), .val (.ref r1), .val (.ref r2), .val (.ref r3), .val (.ref r4), .val (.ref r5)] [(.ref r2), (.int (2 : Int32)), (.ref b147), (.ref b147)])) rfl rfl (hb hby d8_16)
  refine gv st186 ?_
  have f188 : Exa Z h186 r0 "java/lang/Double" := f177.wr W186
  have f189 : Exa Z h186 r1 "java/lang/Double" := f178.wr W186
  have f190 : Exa Z h186 r2 "java/lang/Double" := f179.wr W186
  have f191 : Exa Z h186 r3 "java/lang/Double" := f180.wr W186
  have f192 : Exa Z h186 r4 "java/lang/Double" := f181.wr W186
  have f193 : Exa Z h186 r5 "java/lang/Double" := f182.wr W186
  have O194 := O183.wr W186 g154
  have K195 := K184.wr W186 (Or.inr z155)
  have N196 := Fr.snoc X186 N185 g154
  have f187 : Arv Z h186 b147 k147 (.object "java/lang/Object") (6 : Int32) [(.ref r0), (.ref r1), (.ref r2), .null, .null, .null] .null := Arv.set Ar186 q186 S186 n186 H186 G186 rfl W186 2 rfl (Nat.le_of_ble_eq_true rfl)
  show G (T186.setTop (mkF me_ 17 #[.val (.ref r0), .val (.ref r1), .val (.ref r2), .val (.ref r3), .val (.ref r4), .val (.ref r5)] [(.ref b147)]))
  refine gv (fun tQ kQ => XS.dup X186.here hx rfl (hb hby d8_17) rfl rfl kQ) ?_
  show G (T186.setTop (mkF me_ 18 #[.val (.ref r0), .val (.ref r1), .val (.ref r2), .val (.ref r3), .val (.ref r4), .val (.ref r5)] [(.ref b147), (.ref b147)]))
  refine gv (fun tQ kQ => XS.iconst X186.here hx rfl (hb hby d8_18) kQ) ?_
  show G (T186.setTop (mkF me_ 19 #[.val (.ref r0), .val (.ref r1), .val (.ref r2), .val (.ref r3), .val (.ref r4), .val (.ref r5)] [(.int (3 : Int32)), (.ref b147), (.ref b147)]))
  refine gv (fun tQ kQ => XS.aloadN X186.here hx rfl (hb hby d8_19) rfl rfl kQ) ?_
  show G (T186.setTop (mkF me_ 20 #[.val (.ref r0), .val (.ref r1), .val (.ref r2), .val (.ref r3), .val (.ref r4), .val (.ref r5)] [(.ref r3), (.int (3 : Int32)), (.ref b147), (.ref b147)]))
  obtain ⟨cl197, Ar197, q197, S197, n197, H197, G197⟩ := (id f187)
  have in197 : ¬ ((3 : Int32) < 0 ∨ cl197.slots.size ≤ ((3 : Int32)).toNatClampNeg) := inb_of S197 ⟨by decide, by decide⟩
  obtain ⟨T197, h197, X197, e197, W197, st197⟩ := stR X186 hx hZ e186 Ar197 (j := (3 : Int32)) in197 rfl (Sto.ofV Ar197 q197 Ov147 (Ins.of_exa f191 (hw _ (List.mem_of_getElem? (i := 56) rfl)))) (g := (mkF me_ 20 #[.val (.ref r0), .val (.ref r1), .val (.ref r2), .val (.ref r3), .val (.ref r4), .val (.ref r5)] [(.ref r3), (.int (3 : Int32)), (.ref b147), (.ref b147)])) rfl rfl (hb hby d8_20)
  refine gv st197 ?_
  have f199 : Exa Z h197 r0 "java/lang/Double" := f188.wr W197
  have f200 : Exa Z h197 r1 "java/lang/Double" := f189.wr W197
  have f201 : Exa Z h197 r2 "java/lang/Double" := f190.wr W197
  have f202 : Exa Z h197 r3 "java/lang/Double" := f191.wr W197
  have f203 : Exa Z h197 r4 "java/lang/Double" := f192.wr W197
  have f204 : Exa Z h197 r5 "java/lang/Double" := f193.wr W197
  have O205 := O194.wr W197 g154
  have K206 := K195.wr W197 (Or.inr z155)
  have N207 := Fr.snoc X197 N196 g154
  have f198 : Arv Z h197 b147 k147 (.object "java/lang/Object") (6 : Int32) [(.ref r0), (.ref r1), (.ref r2), (.ref r3), .null, .null] .null := Arv.set Ar197 q197 S197 n197 H197 G197 rfl W197 3 rfl (Nat.le_of_ble_eq_true rfl)
  show G (T197.setTop (mkF me_ 21 #[.val (.ref r0), .val (.ref r1), .val (.ref r2), .val (.ref r3), .val (.ref r4), .val (.ref r5)] [(.ref b147)]))
  refine gv (fun tQ kQ => XS.dup X197.here hx rfl (hb hby d8_21) rfl rfl kQ) ?_
  show G (T197.setTop (mkF me_ 22 #[.val (.ref r0), .val (.ref r1), .val (.ref r2), .val (.ref r3), .val (.ref r4), .val (.ref r5)] [(.ref b147), (.ref b147)]))
  refine gv (fun tQ kQ => XS.iconst X197.here hx rfl (hb hby d8_22) kQ) ?_
  show G (T197.setTop (mkF me_ 23 #[.val (.ref r0), .val (.ref r1), .val (.ref r2), .val (.ref r3), .val (.ref r4), .val (.ref r5)] [(.int (4 : Int32)), (.ref b147), (.ref b147)]))
  refine gv (fun tQ kQ => XS.aload X197.here hx rfl (hb hby d8_23) rfl rfl kQ) ?_
  show G (T197.setTop (mkF me_ 25 #[.val (.ref r0), .val (.ref r1), .val (.ref r2), .val (.ref r3), .val (.ref r4), .val (.ref r5)] [(.ref r4), (.int (4 : Int32)), (.ref b147), (.ref b147)]))
  obtain ⟨cl208, Ar208, q208, S208, n208, H208, G208⟩ := (id f198)
  have in208 : ¬ ((4 : Int32) < 0 ∨ cl208.slots.size ≤ ((4 : Int32)).toNatClampNeg) := inb_of S208 ⟨by decide, by decide⟩
  obtain ⟨T208, h208, X208, e208, W208, st208⟩ := stR X197 hx hZ e197 Ar208 (j := (4 : Int32)) in208 rfl (Sto.ofV Ar208 q208 Ov147 (Ins.of_exa f203 (hw _ (List.mem_of_getElem? (i := 56) rfl)))) (g := (mkF me_ 25 #[.val (.ref r0), .val (.ref r1), .val (.ref r2), .val (.ref r3), .val (.ref r4), .val (.ref r5)] [(.ref r4), (.int (4 : Int32)), (.ref b147), (.ref b147)])) rfl rfl (hb hby d8_25)
  refine gv st208 ?_
  have f210 : Exa Z h208 r0 "java/lang/Double" := f199.wr W208
  have f211 : Exa Z h208 r1 "java/lang/Double" := f200.wr W208
  have f212 : Exa Z h208 r2 "java/lang/Double" := f201.wr W208
  have f213 : Exa Z h208 r3 "java/lang/Double" := f202.wr W208
  have f214 : Exa Z h208 r4 "java/lang/Double" := f203.wr W208
  have f215 : Exa Z h208 r5 "java/lang/Double" := f204.wr W208
  have O216 := O205.wr W208 g154
  have K217 := K206.wr W208 (Or.inr z155)
  have N218 := Fr.snoc X208 N207 g154
  have f209 : Arv Z h208 b147 k147 (.object "java/lang/Object") (6 : Int32) [(.ref r0), (.ref r1), (.ref r2), (.ref r3), (.ref r4), .null] .null := Arv.set Ar208 q208 S208 n208 H208 G208 rfl W208 4 rfl (Nat.le_of_ble_eq_true rfl)
  show G (T208.setTop (mkF me_ 26 #[.val (.ref r0), .val (.ref r1), .val (.ref r2), .val (.ref r3), .val (.ref r4), .val (.ref r5)] [(.ref b147)]))
  refine gv (fun tQ kQ => XS.dup X208.here hx rfl (hb hby d8_26) rfl rfl kQ) ?_
  show G (T208.setTop (mkF me_ 27 #[.val (.ref r0), .val (.ref r1), .val (.ref r2), .val (.ref r3), .val (.ref r4), .val (.ref r5)] [(.ref b147), (.ref b147)]))
  refine gv (fun tQ kQ => XS.iconst X208.here hx rfl (hb hby d8_27) kQ) ?_
  show G (T208.setTop (mkF me_ 28 #[.val (.ref r0), .val (.ref r1), .val (.ref r2), .val (.ref r3), .val (.ref r4), .val (.ref r5)] [(.int (5 : Int32)), (.ref b147), (.ref b147)]))
  refine gv (fun tQ kQ => XS.aload X208.here hx rfl (hb hby d8_28) rfl rfl kQ) ?_
  show G (T208.setTop (mkF me_ 30 #[.val (.ref r0), .val (.ref r1), .val (.ref r2), .val (.ref r3), .val (.ref r4), .val (.ref r5)] [(.ref r5), (.int (5 : Int32)), (.ref b147), (.ref b147)]))
  obtain ⟨cl219, Ar219, q219, S219, n219, H219, G219⟩ := (id f209)
  have in219 : ¬ ((5 : Int32) < 0 ∨ cl219.slots.size ≤ ((5 : Int32)).toNatClampNeg) := inb_of S219 ⟨by decide, by decide⟩
  obtain ⟨T219, h219, X219, e219, W219, st219⟩ := stR X208 hx hZ e208 Ar219 (j := (5 : Int32)) in219 rfl (Sto.ofV Ar219 q219 Ov147 (Ins.of_exa f215 (hw _ (List.mem_of_getElem? (i := 56) rfl)))) (g := (mkF me_ 30 #[.val (.ref r0), .val (.ref r1), .val (.ref r2), .val (.ref r3), .val (.ref r4), .val (.ref r5)] [(.ref r5), (.int (5 : Int32)), (.ref b147), (.ref b147)])) rfl rfl (hb hby d8_30)
  refine gv st219 ?_
  have f221 : Exa Z h219 r0 "java/lang/Double" := f210.wr W219
  have f222 : Exa Z h219 r1 "java/lang/Double" := f211.wr W219
  have f223 : Exa Z h219 r2 "java/lang/Double" := f212.wr W219
  have f224 : Exa Z h219 r3 "java/lang/Double" := f213.wr W219
  have f225 : Exa Z h219 r4 "java/lang/Double" := f214.wr W219
  have f226 : Exa Z h219 r5 "java/lang/Double" := f215.wr W219
  have O227 := O216.wr W219 g154
  have K228 := K217.wr W219 (Or.inr z155)
  have N229 := Fr.snoc X219 N218 g154
  have f220 : Arv Z h219 b147 k147 (.object "java/lang/Object") (6 : Int32) [(.ref r0), (.ref r1), (.ref r2), (.ref r3), (.ref r4), (.ref r5)] .null := Arv.set Ar219 q219 S219 n219 H219 G219 rfl W219 5 rfl (Nat.le_of_ble_eq_true rfl)
  show G (T219.setTop (mkF me_ 31 #[.val (.ref r0), .val (.ref r1), .val (.ref r2), .val (.ref r3), .val (.ref r4), .val (.ref r5)] [(.ref b147)]))
  obtain ⟨_, _, ⟨T230, L230, k230, n230⟩, -, X230, ⟨Lc230, hQ230, l230, y230, z230⟩, st230⟩ := Jvm.LawKit.callS X219 hx (y := (⟨"java/util/ImmutableCollections", "listFromTrustedArray", "([Ljava/lang/Object;)Ljava/util/List;"⟩ : MethodName)) hown (mvT hZ (hw _ (List.mem_of_getElem? (i := 57) rfl))) (mvT hZ (hw _ (List.mem_of_getElem? (i := 58) rfl))) (mvT hZ (hw _ (List.mem_of_getElem? (i := 59) rfl))) (mvT hZ (hw _ (List.mem_of_getElem? (i := 60) rfl))) (by decide) (backOf (W := 0) (rm_lfta l Z a0 hw [] b147 k147 r0 r1 r2 r3 r4 r5 h219 n0 O227 u0 f220) hZ (hw _ (List.mem_of_getElem? (i := 60) rfl)) (hw _ (List.mem_of_getElem? (i := 59) rfl)) (by decide) (by decide)) (g := (mkF me_ 31 #[.val (.ref r0), .val (.ref r1), .val (.ref r2), .val (.ref r3), .val (.ref r4), .val (.ref r5)] [(.ref b147)])) rfl (by rw [hml]; rfl) (argsL := [(.ref b147)]) (rest := []) (lenOf pd_4 rfl) rfl (by show 2 * 0 + _ ≤ _; exact Nat.le_of_eq rfl) (hb hby d8_31) (fun _ _ => ⟨rfl, e219, (by decide : 1 + 1 ≤ _), (by decide : 6 + 2 ≤ _)⟩)
  dsimp only [Pt.U, Pt.locs, Pt.cells, Pt.slots] at X230 l230 y230 z230 st230 hQ230
  subst l230 y230 z230
  obtain ⟨x_230, rfl, Nq230, Kq230, w230_0, w230_1, w230_2⟩ := hQ230
  have N231 := Fr.app N229 Nq230
  obtain ⟨h230, e230⟩ : ∃ z, T230.heap = z := ⟨_, rfl⟩
  rw [e230] at Kq230 w230_1 w230_2
  have ne232 : r0 ≠ x_230 := Nat.ne_of_lt (Nat.lt_of_lt_of_le f221.lt w230_0)
  have ne233 : r1 ≠ x_230 := Nat.ne_of_lt (Nat.lt_of_lt_of_le f222.lt w230_0)
  have ne234 : r2 ≠ x_230 := Nat.ne_of_lt (Nat.lt_of_lt_of_le f223.lt w230_0)
  have ne235 : r3 ≠ x_230 := Nat.ne_of_lt (Nat.lt_of_lt_of_le f224.lt w230_0)
  have ne236 : r4 ≠ x_230 := Nat.ne_of_lt (Nat.lt_of_lt_of_le f225.lt w230_0)
  have ne237 : r5 ≠ x_230 := Nat.ne_of_lt (Nat.lt_of_lt_of_le f226.lt w230_0)
  have ne238 : b147 ≠ x_230 := Nat.ne_of_lt (Nat.lt_of_lt_of_le f220.lt w230_0)
  have g239 : n0 ≤ x_230 := Nat.le_trans (own_old O227) w230_0
  have z240 : h0.size ≤ x_230 := Nat.le_trans K228.1 w230_0
  have f241 : Exa Z h230 r0 "java/lang/Double" := f221.keep Kq230
  have f242 : Exa Z h230 r1 "java/lang/Double" := f222.keep Kq230
  have f243 : Exa Z h230 r2 "java/lang/Double" := f223.keep Kq230
  have f244 : Exa Z h230 r3 "java/lang/Double" := f224.keep Kq230
  have f245 : Exa Z h230 r4 "java/lang/Double" := f225.keep Kq230
  have f246 : Exa Z h230 r5 "java/lang/Double" := f226.keep Kq230
  have f247 : Arv Z h230 b147 k147 (.object "java/lang/Object") (6 : Int32) [(.ref r0), (.ref r1), (.ref r2), (.ref r3), (.ref r4), (.ref r5)] .null := f220.keep Kq230 nin0
  have O248 := O227.keep Kq230 all0
  have K249 := K228.trans Kq230 all0
  refine gv st230 ?_
  show G (T230.setTop (mkF me_ 34 #[.val (.ref r0), .val (.ref r1), .val (.ref r2), .val (.ref r3), .val (.ref r4), .val (.ref r5)] [(.ref x_230)]))
  refine gf _ (own_ret X230 Bd.notSynchronized (v := some (.ref x_230)) (fun h => by rw [Bd.returns] at h; cases h) ?_ (by decide) (by decide) (fun fs hr => retOut X230 hx (t := (.object "java/util/List")) Bd.returns rfl (Or.inr (Or.inr (Or.inr (Or.inr ⟨rfl, rfl, rfl⟩)))) (hb hby d8_34) hr))
  show Q_of6 Z r0 r1 r2 r3 r4 r5 h0 n0 _ T230.heap _
  rw [e230]
  exact ⟨x_230, b147, k147, rfl, N231, K249, z240, w230_1, w230_2, f247⟩
theorem d4_0 : decode prog_10_method_4_code 0 = .ok (.aload_n 0, 1) := by decide +kernel
theorem d4_1 : decode prog_10_method_4_code 1 = .ok (.getfield 7, 3) := by decide +kernel
theorem d4_4 : decode prog_10_method_4_code 4 = .ok (.invokestatic 130, 3) := by decide +kernel
theorem pd_5 : parseMethodDescriptor "(D)Ljava/lang/Double;" = some ⟨[.double], some (.object "java/lang/Double")⟩ := by decide +kernel
theorem d4_7 : decode prog_10_method_4_code 7 = .ok (.aload_n 0, 1) := by decide +kernel
theorem d4_8 : decode prog_10_method_4_code 8 = .ok (.getfield 13, 3) := by decide +kernel
theorem d4_11 : decode prog_10_method_4_code 11 = .ok (.invokestatic 130, 3) := by decide +kernel
theorem d4_14 : decode prog_10_method_4_code 14 = .ok (.aload_n 0, 1) := by decide +kernel
theorem d4_15 : decode prog_10_method_4_code 15 = .ok (.getfield 16, 3) := by decide +kernel
theorem d4_18 : decode prog_10_method_4_code 18 = .ok (.invokestatic 130, 3) := by decide +kernel
theorem d4_21 : decode prog_10_method_4_code 21 = .ok (.aload_n 0, 1) := by decide +kernel
theorem d4_22 : decode prog_10_method_4_code 22 = .ok (.getfield 19, 3) := by decide +kernel
theorem d4_25 : decode prog_10_method_4_code 25 = .ok (.invokestatic 130, 3) := by decide +kernel
theorem d4_28 : decode prog_10_method_4_code 28 = .ok (.aload_n 0, 1) := by decide +kernel
theorem d4_29 : decode prog_10_method_4_code 29 = .ok (.getfield 22, 3) := by decide +kernel
theorem d4_32 : decode prog_10_method_4_code 32 = .ok (.invokestatic 130, 3) := by decide +kernel
theorem d4_35 : decode prog_10_method_4_code 35 = .ok (.aload_n 0, 1) := by decide +kernel
theorem d4_36 : decode prog_10_method_4_code 36 = .ok (.getfield 25, 3) := by decide +kernel
theorem d4_39 : decode prog_10_method_4_code 39 = .ok (.invokestatic 130, 3) := by decide +kernel
theorem d4_42 : decode prog_10_method_4_code 42 = .ok (.invokestatic 133, 3) := by decide +kernel
theorem pd_6 : parseMethodDescriptor "(Ljava/lang/Object;Ljava/lang/Object;Ljava/lang/Object;Ljava/lang/Object;Ljava/lang/Object;Ljava/lang/Object;)Ljava/util/List;" = some ⟨[(.object "java/lang/Object"), (.object "java/lang/Object"), (.object "java/lang/Object"), (.object "java/lang/Object"), (.object "java/lang/Object"), (.object "java/lang/Object")], some (.object "java/util/List")⟩ := by decide +kernel
theorem d4_45 : decode prog_10_method_4_code 45 = .ok (.areturn, 1) := by decide +kernel
def Q_val (Z : State) (a : Addr) (d0 : UInt64) (d1 : UInt64) (d2 : UInt64) (d3 : UInt64) (d4 : UInt64) (d5 : UInt64) (h0 : Heap) (n0 : Nat) (v : Option Value) (h : Heap) (L : List Loc) : Prop := ∃ (x : Addr), ∃ (b : Addr), ∃ (k : ClassId), ∃ (r0 : Addr), ∃ (r1 : Addr), ∃ (r2 : Addr), ∃ (r3 : Addr), ∃ (r4 : Addr), ∃ (r5 : Addr), v = some (.ref x) ∧ Fr n0 L ∧ Keep h0 h [] ∧ h0.size ≤ x ∧ (Exa Z h x "java/util/ImmutableCollections$ListN") ∧ (Fld Z h x "java/util/ImmutableCollections$ListN" "elements" "[Ljava/lang/Object;" (.ref b)) ∧ (Arv Z h b k (.object "java/lang/Object") (6 : Int32) [(.ref r0), (.ref r1), (.ref r2), (.ref r3), (.ref r4), (.ref r5)] .null) ∧ (Exa Z h r0 "java/lang/Double") ∧ (Exa Z h r1 "java/lang/Double") ∧ (Exa Z h r2 "java/lang/Double") ∧ (Exa Z h r3 "java/lang/Double") ∧ (Exa Z h r4 "java/lang/Double") ∧ (Exa Z h r5 "java/lang/Double") ∧ (Fld Z h r0 "java/lang/Double" "value" "D" (.double d0)) ∧ (Fld Z h r1 "java/lang/Double" "value" "D" (.double d1)) ∧ (Fld Z h r2 "java/lang/Double" "value" "D" (.double d2)) ∧ (Fld Z h r3 "java/lang/Double" "value" "D" (.double d3)) ∧ (Fld Z h r4 "java/lang/Double" "value" "D" (.double d4)) ∧ (Fld Z h r5 "java/lang/Double" "value" "D" (.double d5))
set_option maxRecDepth 65536 in
set_option maxHeartbeats 40000000 in
theorem rm_val (l : Launch) (Z : State) (a0 : Array Value) (hw : ∀ d ∈ tables_1, d.before a0 Z = true) (ws : List Jvm.Cond) (a : Addr) (d0 : UInt64) (d1 : UInt64) (d2 : UInt64) (d3 : UInt64) (d4 : UInt64) (d5 : UInt64) (h0 : Heap) (n0 : Nat) (O0 : Old Z n0 h0) (u0 : Sta Z Z.heap "java/util/ImmutableCollections" "$assertionsDisabled" "Z" (.int (1 : Int32))) (u1 : Fld Z h0 a "com/example/mehr/mehr/Measures" "p1" "D" (.double d0)) (u2 : Fld Z h0 a "com/example/mehr/mehr/Measures" "p2" "D" (.double d1)) (u3 : Fld Z h0 a "com/example/mehr/mehr/Measures" "p5" "D" (.double d2)) (u4 : Fld Z h0 a "com/example/mehr/mehr/Measures" "p10" "D" (.double d3)) (u5 : Fld Z h0 a "com/example/mehr/mehr/Measures" "ndcg10" "D" (.double d4)) (u6 : Fld Z h0 a "com/example/mehr/mehr/Measures" "rr" "D" (.double d5)) :
    MetFree l (⟨"com/example/mehr/mehr/Measures", "values", "()Ljava/util/List;"⟩ : MethodName) (head1 (Jvm.Cond.code (⟨"com/example/mehr/mehr/Measures", "values", "()Ljava/util/List;"⟩ : MethodName) prog_10_method_4_code 1 (some (.object "java/util/List")) :: ws) ({ frames := 7, cells := 8, slots := 14, locals := 96 } : Room)) (fun aV U => aV = #[(.ref a)] ∧ Z.Warmed39 U.vm ∧ U.heap = h0) (fun _ _ _ _ _ => True) (fun _ U o U' => ∃ v L, o = .returned v ∧ Q_val Z a d0 d1 d2 d3 d4 d5 h0 n0 v U'.heap L ∧ FrameEnd U o U' L ({ frames := 7, cells := 8, slots := 14, locals := 96 } : Room).cells ({ frames := 7, cells := 8, slots := 14, locals := 96 } : Room).slots) := by
  refine MetFree.of_bodySF (plainFor_of_name pn_2) hisR ?_
  intro pr_ en_ st_ me_ args below meth_ co_ s₁ Bd hml0 hP hK
  obtain ⟨rfl, hZ, hh⟩ := hP
  have hx := Bd.exec
  have hby := Bd.bytes
  have hml : co_.maxLocals = 1 := hml0
  have hown : st_.vm.findClass "com/example/mehr/mehr/Measures" = some me_.cls := findClass_of_methodNamed Bd.named
  have hnm := (name_of_methodNamed Bd.named Bd.method).1
  have X0 : Stand pr_ l en_ ({ frames := 7, cells := 8, slots := 14, locals := 96 } : Room) st_ me_ #[(.ref a)] below meth_ co_ s₁ [] 0 0 := Stand.of_body Bd
  have e0 : s₁.heap = h0 := by rw [← hh, Bd.state]; rfl
  have N0 := Fr.nil n0
  have K0 := Keep.refl h0 []
  obtain ⟨G, gv, gf, gb⟩ := own_G pr_.tables en_ below st_ (Q_val Z a d0 d1 d2 d3 d4 d5 h0 n0) ({ frames := 7, cells := 8, slots := 14, locals := 96 } : Room).cells ({ frames := 7, cells := 8, slots := 14, locals := 96 } : Room).slots
  show own_Fin pr_.tables en_ below st_ (Q_val Z a d0 d1 d2 d3 d4 d5 h0 n0) ({ frames := 7, cells := 8, slots := 14, locals := 96 } : Room).cells ({ frames := 7, cells := 8, slots := 14, locals := 96 } : Room).slots (s₁.setTop (entryFrame me_ #[(.ref a)] 1))
  refine gb _ (gv (fun tQ kQ => castTop (ef_0 me_ a) kQ) ?_)
  show G (s₁.setTop (mkF me_ 0 #[.val (.ref a)] []))
  refine gv (fun tQ kQ => XS.aloadN X0.here hx rfl (hb hby d4_0) rfl rfl kQ) ?_
  show G (s₁.setTop (mkF me_ 1 #[.val (.ref a)] [(.ref a)]))
  obtain ⟨T250, X250, e250, st250⟩ := getF X0 hx hZ hown (host := "") (Or.inl (hw _ (List.mem_of_getElem? (i := 14) rfl))) Via.refl e0 u1 (g := (mkF me_ 1 #[.val (.ref a)] [(.ref a)])) rfl rfl (hb hby d4_1)
  refine gv st250 ?_
  show G (T250.setTop (mkF me_ 4 #[.val (.ref a)] [(.double d0)]))
  obtain ⟨_, _, ⟨T251, L251, k251, n251⟩, -, X251, ⟨Lc251, hQ251, l251, y251, z251⟩, st251⟩ := Jvm.LawKit.callS X250 hx (y := (⟨"java/lang/Double", "valueOf", "(D)Ljava/lang/Double;"⟩ : MethodName)) hown (mvT hZ (hw _ (List.mem_of_getElem? (i := 31) rfl))) (mvT hZ (hw _ (List.mem_of_getElem? (i := 32) rfl))) (mvT hZ (hw _ (List.mem_of_getElem? (i := 33) rfl))) (mvT hZ (hw _ (List.mem_of_getElem? (i := 34) rfl))) (by decide) (backOf (W := 0) (rm_dvo l Z a0 hw [] d0 h0 n0 O0 ) hZ (hw _ (List.mem_of_getElem? (i := 34) rfl)) (hw _ (List.mem_of_getElem? (i := 33) rfl)) (by decide) (by decide)) (g := (mkF me_ 4 #[.val (.ref a)] [(.double d0)])) rfl (by rw [hml]; rfl) (argsL := [(.double d0)]) (rest := []) (lenOf pd_5 rfl) rfl (by show 2 * 0 + _ ≤ _; exact Nat.le_of_eq rfl) (hb hby d4_4) (fun _ _ => ⟨rfl, e250, (by decide : 0 + 1 ≤ _), (by decide : 0 + 1 ≤ _)⟩)
  dsimp only [Pt.U, Pt.locs, Pt.cells, Pt.slots] at X251 l251 y251 z251 st251 hQ251
  subst l251 y251 z251
  obtain ⟨r_251, rfl, Nq251, Kq251, w251_0, w251_1, w251_2⟩ := hQ251
  have N252 := Fr.app N0 Nq251
  obtain ⟨h251, e251⟩ : ∃ z, T251.heap = z := ⟨_, rfl⟩
  rw [e251] at Kq251 w251_1 w251_2
  have ne253 : a ≠ r_251 := Nat.ne_of_lt (Nat.lt_of_lt_of_le u1.lt w251_0)
  have g254 : n0 ≤ r_251 := Nat.le_trans (own_old O0) w251_0
  have z255 : h0.size ≤ r_251 := Nat.le_trans K0.1 w251_0
  have f256 : Fld Z h251 a "com/example/mehr/mehr/Measures" "p1" "D" (.double d0) := u1.keep Kq251 nin0
  have f257 : Fld Z h251 a "com/example/mehr/mehr/Measures" "p2" "D" (.double d1) := u2.keep Kq251 nin0
  have f258 : Fld Z h251 a "com/example/mehr/mehr/Measures" "p5" "D" (.double d2) := u3.keep Kq251 nin0
  have f259 : Fld Z h251 a "com/example/mehr/mehr/Measures" "p10" "D" (.double d3) := u4.keep Kq251 nin0
  have f260 : Fld Z h251 a "com/example/mehr/mehr/Measures" "ndcg10" "D" (.double d4) := u5.keep Kq251 nin0
  have f261 : Fld Z h251 a "com/example/mehr/mehr/Measures" "rr" "D" (.double d5) := u6.keep Kq251 nin0
  have O262 := O0.keep Kq251 all0
  have K263 := K0.trans Kq251 all0
  refine gv st251 ?_
  show G (T251.setTop (mkF me_ 7 #[.val (.ref a)] [(.ref r_251)]))
  refine gv (fun tQ kQ => XS.aloadN X251.here hx rfl (hb hby d4_7) rfl rfl kQ) ?_
  show G (T251.setTop (mkF me_ 8 #[.val (.ref a)] [(.ref a), (.ref r_251)]))
  obtain ⟨T264, X264, e264, st264⟩ := getF X251 hx hZ hown (host := "") (Or.inl (hw _ (List.mem_of_getElem? (i := 16) rfl))) Via.refl e251 f257 (g := (mkF me_ 8 #[.val (.ref a)] [(.ref a), (.ref r_251)])) rfl rfl (hb hby d4_8)
  refine gv st264 ?_
  show G (T264.setTop (mkF me_ 11 #[.val (.ref a)] [(.double d1), (.ref r_251)]))
  obtain ⟨_, _, ⟨T265, L265, k265, n265⟩, -, X265, ⟨Lc265, hQ265, l265, y265, z265⟩, st265⟩ := Jvm.LawKit.callS X264 hx (y := (⟨"java/lang/Double", "valueOf", "(D)Ljava/lang/Double;"⟩ : MethodName)) hown (mvT hZ (hw _ (List.mem_of_getElem? (i := 31) rfl))) (mvT hZ (hw _ (List.mem_of_getElem? (i := 32) rfl))) (mvT hZ (hw _ (List.mem_of_getElem? (i := 33) rfl))) (mvT hZ (hw _ (List.mem_of_getElem? (i := 34) rfl))) (by decide) (backOf (W := 1) (rm_dvo l Z a0 hw [] d1 h251 n0 O262 ) hZ (hw _ (List.mem_of_getElem? (i := 34) rfl)) (hw _ (List.mem_of_getElem? (i := 33) rfl)) (by decide) (by decide)) (g := (mkF me_ 11 #[.val (.ref a)] [(.double d1), (.ref r_251)])) rfl (by rw [hml]; rfl) (argsL := [(.double d1)]) (rest := [(.ref r_251)]) (lenOf pd_5 rfl) rfl (by show 2 * 0 + _ ≤ _; exact Nat.le_of_eq rfl) (hb hby d4_11) (fun _ _ => ⟨rfl, e264, (by decide : 1 + 1 ≤ _), (by decide : 1 + 1 ≤ _)⟩)
  dsimp only [Pt.U, Pt.locs, Pt.cells, Pt.slots] at X265 l265 y265 z265 st265 hQ265
  subst l265 y265 z265
  obtain ⟨r_265, rfl, Nq265, Kq265, w265_0, w265_1, w265_2⟩ := hQ265
  have N266 := Fr.app N252 Nq265
  obtain ⟨h265, e265⟩ : ∃ z, T265.heap = z := ⟨_, rfl⟩
  rw [e265] at Kq265 w265_1 w265_2
  have ne267 : a ≠ r_265 := Nat.ne_of_lt (Nat.lt_of_lt_of_le f256.lt w265_0)
  have ne268 : r_251 ≠ r_265 := Nat.ne_of_lt (Nat.lt_of_lt_of_le w251_1.lt w265_0)
  have g269 : n0 ≤ r_265 := Nat.le_trans (own_old O262) w265_0
  have z270 : h0.size ≤ r_265 := Nat.le_trans K263.1 w265_0
  have f271 : Fld Z h265 a "com/example/mehr/mehr/Measures" "p1" "D" (.double d0) := f256.keep Kq265 nin0
  have f272 : Fld Z h265 a "com/example/mehr/mehr/Measures" "p2" "D" (.double d1) := f257.keep Kq265 nin0
  have f273 : Fld Z h265 a "com/example/mehr/mehr/Measures" "p5" "D" (.double d2) := f258.keep Kq265 nin0
  have f274 : Fld Z h265 a "com/example/mehr/mehr/Measures" "p10" "D" (.double d3) := f259.keep Kq265 nin0
  have f275 : Fld Z h265 a "com/example/mehr/mehr/Measures" "ndcg10" "D" (.double d4) := f260.keep Kq265 nin0
  have f276 : Fld Z h265 a "com/example/mehr/mehr/Measures" "rr" "D" (.double d5) := f261.keep Kq265 nin0
  have f277 : Exa Z h265 r_251 "java/lang/Double" := w251_1.keep Kq265
  have f278 : Fld Z h265 r_251 "java/lang/Double" "value" "D" (.double d0) := w251_2.keep Kq265 nin0
  have O279 := O262.keep Kq265 all0
  have K280 := K263.trans Kq265 all0
  refine gv st265 ?_
  show G (T265.setTop (mkF me_ 14 #[.val (.ref a)] [(.ref r_265), (.ref r_251)]))
  refine gv (fun tQ kQ => XS.aloadN X265.here hx rfl (hb hby d4_14) rfl rfl kQ) ?_
  show G (T265.setTop (mkF me_ 15 #[.val (.ref a)] [(.ref a), (.ref r_265), (.ref r_251)]))
  obtain ⟨T281, X281, e281, st281⟩ := getF X265 hx hZ hown (host := "") (Or.inl (hw _ (List.mem_of_getElem? (i := 18) rfl))) Via.refl e265 f273 (g := (mkF me_ 15 #[.val (.ref a)] [(.ref a), (.ref r_265), (.ref r_251)])) rfl rfl (hb hby d4_15)
  refine gv st281 ?_
  show G (T281.setTop (mkF me_ 18 #[.val (.ref a)] [(.double d2), (.ref r_265), (.ref r_251)]))
  obtain ⟨_, _, ⟨T282, L282, k282, n282⟩, -, X282, ⟨Lc282, hQ282, l282, y282, z282⟩, st282⟩ := Jvm.LawKit.callS X281 hx (y := (⟨"java/lang/Double", "valueOf", "(D)Ljava/lang/Double;"⟩ : MethodName)) hown (mvT hZ (hw _ (List.mem_of_getElem? (i := 31) rfl))) (mvT hZ (hw _ (List.mem_of_getElem? (i := 32) rfl))) (mvT hZ (hw _ (List.mem_of_getElem? (i := 33) rfl))) (mvT hZ (hw _ (List.mem_of_getElem? (i := 34) rfl))) (by decide) (backOf (W := 2) (rm_dvo l Z a0 hw [] d2 h265 n0 O279 ) hZ (hw _ (List.mem_of_getElem? (i := 34) rfl)) (hw _ (List.mem_of_getElem? (i := 33) rfl)) (by decide) (by decide)) (g := (mkF me_ 18 #[.val (.ref a)] [(.double d2), (.ref r_265), (.ref r_251)])) rfl (by rw [hml]; rfl) (argsL := [(.double d2)]) (rest := [(.ref r_265), (.ref r_251)]) (lenOf pd_5 rfl) rfl (by show 2 * 0 + _ ≤ _; exact Nat.le_of_eq rfl) (hb hby d4_18) (fun _ _ => ⟨rfl, e281, (by decide : 2 + 1 ≤ _), (by decide : 2 + 1 ≤ _)⟩)
  dsimp only [Pt.U, Pt.locs, Pt.cells, Pt.slots] at X282 l282 y282 z282 st282 hQ282
  subst l282 y282 z282
  obtain ⟨r_282, rfl, Nq282, Kq282, w282_0, w282_1, w282_2⟩ := hQ282
  have N283 := Fr.app N266 Nq282
  obtain ⟨h282, e282⟩ : ∃ z, T282.heap = z := ⟨_, rfl⟩
  rw [e282] at Kq282 w282_1 w282_2
  have ne284 : a ≠ r_282 := Nat.ne_of_lt (Nat.lt_of_lt_of_le f271.lt w282_0)
  have ne285 : r_251 ≠ r_282 := Nat.ne_of_lt (Nat.lt_of_lt_of_le f277.lt w282_0)
  have ne286 : r_265 ≠ r_282 := Nat.ne_of_lt (Nat.lt_of_lt_of_le w265_1.lt w282_0)
  have g287 : n0 ≤ r_282 := Nat.le_trans (own_old O279) w282_0
  have z288 : h0.size ≤ r_282 := Nat.le_trans K280.1 w282_0
  have f289 : Fld Z h282 a "com/example/mehr/mehr/Measures" "p1" "D" (.double d0) := f271.keep Kq282 nin0
  have f290 : Fld Z h282 a "com/example/mehr/mehr/Measures" "p2" "D" (.double d1) := f272.keep Kq282 nin0
  have f291 : Fld Z h282 a "com/example/mehr/mehr/Measures" "p5" "D" (.double d2) := f273.keep Kq282 nin0
  have f292 : Fld Z h282 a "com/example/mehr/mehr/Measures" "p10" "D" (.double d3) := f274.keep Kq282 nin0
  have f293 : Fld Z h282 a "com/example/mehr/mehr/Measures" "ndcg10" "D" (.double d4) := f275.keep Kq282 nin0
  have f294 : Fld Z h282 a "com/example/mehr/mehr/Measures" "rr" "D" (.double d5) := f276.keep Kq282 nin0
  have f295 : Exa Z h282 r_251 "java/lang/Double" := f277.keep Kq282
  have f296 : Fld Z h282 r_251 "java/lang/Double" "value" "D" (.double d0) := f278.keep Kq282 nin0
  have f297 : Exa Z h282 r_265 "java/lang/Double" := w265_1.keep Kq282
  have f298 : Fld Z h282 r_265 "java/lang/Double" "value" "D" (.double d1) := w265_2.keep Kq282 nin0
  have O299 := O279.keep Kq282 all0
  have K300 := K280.trans Kq282 all0
  refine gv st282 ?_
  show G (T282.setTop (mkF me_ 21 #[.val (.ref a)] [(.ref r_282), (.ref r_265), (.ref r_251)]))
  refine gv (fun tQ kQ => XS.aloadN X282.here hx rfl (hb hby d4_21) rfl rfl kQ) ?_
  show G (T282.setTop (mkF me_ 22 #[.val (.ref a)] [(.ref a), (.ref r_282), (.ref r_265), (.ref r_251)]))
  obtain ⟨T301, X301, e301, st301⟩ := getF X282 hx hZ hown (host := "") (Or.inl (hw _ (List.mem_of_getElem? (i := 20) rfl))) Via.refl e282 f292 (g := (mkF me_ 22 #[.val (.ref a)] [(.ref a), (.ref r_282), (.ref r_265), (.ref r_251)])) rfl rfl (hb hby d4_22)
  refine gv st301 ?_
  show G (T301.setTop (mkF me_ 25 #[.val (.ref a)] [(.double d3), (.ref r_282), (.ref r_265), (.ref r_251)]))
  obtain ⟨_, _, ⟨T302, L302, k302, n302⟩, -, X302, ⟨Lc302, hQ302, l302, y302, z302⟩, st302⟩ := Jvm.LawKit.callS X301 hx (y := (⟨"java/lang/Double", "valueOf", "(D)Ljava/lang/Double;"⟩ : MethodName)) hown (mvT hZ (hw _ (List.mem_of_getElem? (i := 31) rfl))) (mvT hZ (hw _ (List.mem_of_getElem? (i := 32) rfl))) (mvT hZ (hw _ (List.mem_of_getElem? (i := 33) rfl))) (mvT hZ (hw _ (List.mem_of_getElem? (i := 34) rfl))) (by decide) (backOf (W := 3) (rm_dvo l Z a0 hw [] d3 h282 n0 O299 ) hZ (hw _ (List.mem_of_getElem? (i := 34) rfl)) (hw _ (List.mem_of_getElem? (i := 33) rfl)) (by decide) (by decide)) (g := (mkF me_ 25 #[.val (.ref a)] [(.double d3), (.ref r_282), (.ref r_265), (.ref r_251)])) rfl (by rw [hml]; rfl) (argsL := [(.double d3)]) (rest := [(.ref r_282), (.ref r_265), (.ref r_251)]) (lenOf pd_5 rfl) rfl (by show 2 * 0 + _ ≤ _; exact Nat.le_of_eq rfl) (hb hby d4_25) (fun _ _ => ⟨rfl, e301, (by decide : 3 + 1 ≤ _), (by decide : 3 + 1 ≤ _)⟩)
  dsimp only [Pt.U, Pt.locs, Pt.cells, Pt.slots] at X302 l302 y302 z302 st302 hQ302
  subst l302 y302 z302
  obtain ⟨r_302, rfl, Nq302, Kq302, w302_0, w302_1, w302_2⟩ := hQ302
  have N303 := Fr.app N283 Nq302
  obtain ⟨h302, e302⟩ : ∃ z, T302.heap = z := ⟨_, rfl⟩
  rw [e302] at Kq302 w302_1 w302_2
  have ne304 : a ≠ r_302 := Nat.ne_of_lt (Nat.lt_of_lt_of_le f289.lt w302_0)
  have ne305 : r_251 ≠ r_302 := Nat.ne_of_lt (Nat.lt_of_lt_of_le f295.lt w302_0)
  have ne306 : r_265 ≠ r_302 := Nat.ne_of_lt (Nat.lt_of_lt_of_le f297.lt w302_0)
  have ne307 : r_282 ≠ r_302 := Nat.ne_of_lt (Nat.lt_of_lt_of_le w282_1.lt w302_0)
  have g308 : n0 ≤ r_302 := Nat.le_trans (own_old O299) w302_0
  have z309 : h0.size ≤ r_302 := Nat.le_trans K300.1 w302_0
  have f310 : Fld Z h302 a "com/example/mehr/mehr/Measures" "p1" "D" (.double d0) := f289.keep Kq302 nin0
  have f311 : Fld Z h302 a "com/example/mehr/mehr/Measures" "p2" "D" (.double d1) := f290.keep Kq302 nin0
  have f312 : Fld Z h302 a "com/example/mehr/mehr/Measures" "p5" "D" (.double d2) := f291.keep Kq302 nin0
  have f313 : Fld Z h302 a "com/example/mehr/mehr/Measures" "p10" "D" (.double d3) := f292.keep Kq302 nin0
  have f314 : Fld Z h302 a "com/example/mehr/mehr/Measures" "ndcg10" "D" (.double d4) := f293.keep Kq302 nin0
  have f315 : Fld Z h302 a "com/example/mehr/mehr/Measures" "rr" "D" (.double d5) := f294.keep Kq302 nin0
  have f316 : Exa Z h302 r_251 "java/lang/Double" := f295.keep Kq302
  have f317 : Fld Z h302 r_251 "java/lang/Double" "value" "D" (.double d0) := f296.keep Kq302 nin0
  have f318 : Exa Z h302 r_265 "java/lang/Double" := f297.keep Kq302
  have f319 : Fld Z h302 r_265 "java/lang/Double" "value" "D" (.double d1) := f298.keep Kq302 nin0
  have f320 : Exa Z h302 r_282 "java/lang/Double" := w282_1.keep Kq302
  have f321 : Fld Z h302 r_282 "java/lang/Double" "value" "D" (.double d2) := w282_2.keep Kq302 nin0
  have O322 := O299.keep Kq302 all0
  have K323 := K300.trans Kq302 all0
  refine gv st302 ?_
  show G (T302.setTop (mkF me_ 28 #[.val (.ref a)] [(.ref r_302), (.ref r_282), (.ref r_265), (.ref r_251)]))
  refine gv (fun tQ kQ => XS.aloadN X302.here hx rfl (hb hby d4_28) rfl rfl kQ) ?_
  show G (T302.setTop (mkF me_ 29 #[.val (.ref a)] [(.ref a), (.ref r_302), (.ref r_282), (.ref r_265), (.ref r_251)]))
  obtain ⟨T324, X324, e324, st324⟩ := getF X302 hx hZ hown (host := "") (Or.inl (hw _ (List.mem_of_getElem? (i := 22) rfl))) Via.refl e302 f314 (g := (mkF me_ 29 #[.val (.ref a)] [(.ref a), (.ref r_302), (.ref r_282), (.ref r_265), (.ref r_251)])) rfl rfl (hb hby d4_29)
  refine gv st324 ?_
  show G (T324.setTop (mkF me_ 32 #[.val (.ref a)] [(.double d4), (.ref r_302), (.ref r_282), (.ref r_265), (.ref r_251)]))
  obtain ⟨_, _, ⟨T325, L325, k325, n325⟩, -, X325, ⟨Lc325, hQ325, l325, y325, z325⟩, st325⟩ := Jvm.LawKit.callS X324 hx (y := (⟨"java/lang/Double", "valueOf", "(D)Ljava/lang/Double;"⟩ : MethodName)) hown (mvT hZ (hw _ (List.mem_of_getElem? (i := 31) rfl))) (mvT hZ (hw _ (List.mem_of_getElem? (i := 32) rfl))) (mvT hZ (hw _ (List.mem_of_getElem? (i := 33) rfl))) (mvT hZ (hw _ (List.mem_of_getElem? (i := 34) rfl))) (by decide) (backOf (W := 4) (rm_dvo l Z a0 hw [] d4 h302 n0 O322 ) hZ (hw _ (List.mem_of_getElem? (i := 34) rfl)) (hw _ (List.mem_of_getElem? (i := 33) rfl)) (by decide) (by decide)) (g := (mkF me_ 32 #[.val (.ref a)] [(.double d4), (.ref r_302), (.ref r_282), (.ref r_265), (.ref r_251)])) rfl (by rw [hml]; rfl) (argsL := [(.double d4)]) (rest := [(.ref r_302), (.ref r_282), (.ref r_265), (.ref r_251)]) (lenOf pd_5 rfl) rfl (by show 2 * 0 + _ ≤ _; exact Nat.le_of_eq rfl) (hb hby d4_32) (fun _ _ => ⟨rfl, e324, (by decide : 4 + 1 ≤ _), (by decide : 4 + 1 ≤ _)⟩)
  dsimp only [Pt.U, Pt.locs, Pt.cells, Pt.slots] at X325 l325 y325 z325 st325 hQ325
  subst l325 y325 z325
  obtain ⟨r_325, rfl, Nq325, Kq325, w325_0, w325_1, w325_2⟩ := hQ325
  have N326 := Fr.app N303 Nq325
  obtain ⟨h325, e325⟩ : ∃ z, T325.heap = z := ⟨_, rfl⟩
  rw [e325] at Kq325 w325_1 w325_2
  have ne327 : a ≠ r_325 := Nat.ne_of_lt (Nat.lt_of_lt_of_le f310.lt w325_0)
  have ne328 : r_251 ≠ r_325 := Nat.ne_of_lt (Nat.lt_of_lt_of_le f316.lt w325_0)
  have ne329 : r_265 ≠ r_325 := Nat.ne_of_lt (Nat.lt_of_lt_of_le f318.lt w325_0)
  have ne330 : r_282 ≠ r_325 := Nat.ne_of_lt (Nat.lt_of_lt_of_le f320.lt w325_0)
  have ne331 : r_302 ≠ r_325 := Nat.ne_of_lt (Nat.lt_of_lt_of_le w302_1.lt w325_0)
  have g332 : n0 ≤ r_325 := Nat.le_trans (own_old O322) w325_0
  have z333 : h0.size ≤ r_325 := Nat.le_trans K323.1 w325_0
  have f334 : Fld Z h325 a "com/example/mehr/mehr/Measures" "p1" "D" (.double d0) := f310.keep Kq325 nin0
  have f335 : Fld Z h325 a "com/example/mehr/mehr/Measures" "p2" "D" (.double d1) := f311.keep Kq325 nin0
  have f336 : Fld Z h325 a "com/example/mehr/mehr/Measures" "p5" "D" (.double d2) := f312.keep Kq325 nin0
  have f337 : Fld Z h325 a "com/example/mehr/mehr/Measures" "p10" "D" (.double d3) := f313.keep Kq325 nin0
  have f338 : Fld Z h325 a "com/example/mehr/mehr/Measures" "ndcg10" "D" (.double d4) := f314.keep Kq325 nin0
  have f339 : Fld Z h325 a "com/example/mehr/mehr/Measures" "rr" "D" (.double d5) := f315.keep Kq325 nin0
  have f340 : Exa Z h325 r_251 "java/lang/Double" := f316.keep Kq325
  have f341 : Fld Z h325 r_251 "java/lang/Double" "value" "D" (.double d0) := f317.keep Kq325 nin0
  have f342 : Exa Z h325 r_265 "java/lang/Double" := f318.keep Kq325
  have f343 : Fld Z h325 r_265 "java/lang/Double" "value" "D" (.double d1) := f319.keep Kq325 nin0
  have f344 : Exa Z h325 r_282 "java/lang/Double" := f320.keep Kq325
  have f345 : Fld Z h325 r_282 "java/lang/Double" "value" "D" (.double d2) := f321.keep Kq325 nin0
  have f346 : Exa Z h325 r_302 "java/lang/Double" := w302_1.keep Kq325
  have f347 : Fld Z h325 r_302 "java/lang/Double" "value" "D" (.double d3) := w302_2.keep Kq325 nin0
  have O348 := O322.keep Kq325 all0
  have K349 := K323.trans Kq325 all0
  refine gv st325 ?_
  show G (T325.setTop (mkF me_ 35 #[.val (.ref a)] [(.ref r_325), (.ref r_302), (.ref r_282), (.ref r_265), (.ref r_251)]))
  refine gv (fun tQ kQ => XS.aloadN X325.here hx rfl (hb hby d4_35) rfl rfl kQ) ?_
  show G (T325.setTop (mkF me_ 36 #[.val (.ref a)] [(.ref a), (.ref r_325), (.ref r_302), (.ref r_282), (.ref r_265), (.ref r_251)]))
  obtain ⟨T350, X350, e350, st350⟩ := getF X325 hx hZ hown (host := "") (Or.inl (hw _ (List.mem_of_getElem? (i := 24) rfl))) Via.refl e325 f339 (g := (mkF me_ 36 #[.val (.ref a)] [(.ref a), (.ref r_325), (.ref r_302), (.ref r_282), (.ref r_265), (.ref r_251)])) rfl rfl (hb hby d4_36)
  refine gv st350 ?_
  show G (T350.setTop (mkF me_ 39 #[.val (.ref a)] [(.double d5), (.ref r_325), (.ref r_302), (.ref r_282), (.ref r_265), (.ref r_251)]))
  obtain ⟨_, _, ⟨T351, L351, k351, n351⟩, -, X351, ⟨Lc351, hQ351, l351, y351, z351⟩, st351⟩ := Jvm.LawKit.callS X350 hx (y := (⟨"java/lang/Double", "valueOf", "(D)Ljava/lang/Double;"⟩ : MethodName)) hown (mvT hZ (hw _ (List.mem_of_getElem? (i := 31) rfl))) (mvT hZ (hw _ (List.mem_of_getElem? (i := 32) rfl))) (mvT hZ (hw _ (List.mem_of_getElem? (i := 33) rfl))) (mvT hZ (hw _ (List.mem_of_getElem? (i := 34) rfl))) (by decide) (backOf (W := 5) (rm_dvo l Z a0 hw [] d5 h325 n0 O348 ) hZ (hw _ (List.mem_of_getElem? (i := 34) rfl)) (hw _ (List.mem_of_getElem? (i := 33) rfl)) (by decide) (by decide)) (g := (mkF me_ 39 #[.val (.ref a)] [(.double d5), (.ref r_325), (.ref r_302), (.ref r_282), (.ref r_265), (.ref r_251)])) rfl (by rw [hml]; rfl) (argsL := [(.double d5)]) (rest := [(.ref r_325), (.ref r_302), (.ref r_282), (.ref r_265), (.ref r_251)]) (lenOf pd_5 rfl) rfl (by show 2 * 0 + _ ≤ _; exact Nat.le_of_eq rfl) (hb hby d4_39) (fun _ _ => ⟨rfl, e350, (by decide : 5 + 1 ≤ _), (by decide : 5 + 1 ≤ _)⟩)
  dsimp only [Pt.U, Pt.locs, Pt.cells, Pt.slots] at X351 l351 y351 z351 st351 hQ351
  subst l351 y351 z351
  obtain ⟨r_351, rfl, Nq351, Kq351, w351_0, w351_1, w351_2⟩ := hQ351
  have N352 := Fr.app N326 Nq351
  obtain ⟨h351, e351⟩ : ∃ z, T351.heap = z := ⟨_, rfl⟩
  rw [e351] at Kq351 w351_1 w351_2
  have ne353 : a ≠ r_351 := Nat.ne_of_lt (Nat.lt_of_lt_of_le f334.lt w351_0)
  have ne354 : r_251 ≠ r_351 := Nat.ne_of_lt (Nat.lt_of_lt_of_le f340.lt w351_0)
  have ne355 : r_265 ≠ r_351 := Nat.ne_of_lt (Nat.lt_of_lt_of_le f342.lt w351_0)
  have ne356 : r_282 ≠ r_351 := Nat.ne_of_lt (Nat.lt_of_lt_of_le f344.lt w351_0)
  have ne357 : r_302 ≠ r_351 := Nat.ne_of_lt (Nat.lt_of_lt_of_le f346.lt w351_0)
  have ne358 : r_325 ≠ r_351 := Nat.ne_of_lt (Nat.lt_of_lt_of_le w325_1.lt w351_0)
  have g359 : n0 ≤ r_351 := Nat.le_trans (own_old O348) w351_0
  have z360 : h0.size ≤ r_351 := Nat.le_trans K349.1 w351_0
  have f361 : Fld Z h351 a "com/example/mehr/mehr/Measures" "p1" "D" (.double d0) := f334.keep Kq351 nin0
  have f362 : Fld Z h351 a "com/example/mehr/mehr/Measures" "p2" "D" (.double d1) := f335.keep Kq351 nin0
  have f363 : Fld Z h351 a "com/example/mehr/mehr/Measures" "p5" "D" (.double d2) := f336.keep Kq351 nin0
  have f364 : Fld Z h351 a "com/example/mehr/mehr/Measures" "p10" "D" (.double d3) := f337.keep Kq351 nin0
  have f365 : Fld Z h351 a "com/example/mehr/mehr/Measures" "ndcg10" "D" (.double d4) := f338.keep Kq351 nin0
  have f366 : Fld Z h351 a "com/example/mehr/mehr/Measures" "rr" "D" (.double d5) := f339.keep Kq351 nin0
  have f367 : Exa Z h351 r_251 "java/lang/Double" := f340.keep Kq351
  have f368 : Fld Z h351 r_251 "java/lang/Double" "value" "D" (.double d0) := f341.keep Kq351 nin0
  have f369 : Exa Z h351 r_265 "java/lang/Double" := f342.keep Kq351
  have f370 : Fld Z h351 r_265 "java/lang/Double" "value" "D" (.double d1) := f343.keep Kq351 nin0
  have f371 : Exa Z h351 r_282 "java/lang/Double" := f344.keep Kq351
  have f372 : Fld Z h351 r_282 "java/lang/Double" "value" "D" (.double d2) := f345.keep Kq351 nin0
  have f373 : Exa Z h351 r_302 "java/lang/Double" := f346.keep Kq351
  have f374 : Fld Z h351 r_302 "java/lang/Double" "value" "D" (.double d3) := f347.keep Kq351 nin0
  have f375 : Exa Z h351 r_325 "java/lang/Double" := w325_1.keep Kq351
  have f376 : Fld Z h351 r_325 "java/lang/Double" "value" "D" (.double d4) := w325_2.keep Kq351 nin0
  have O377 := O348.keep Kq351 all0
  have K378 := K349.trans Kq351 all0
  refine gv st351 ?_
  show G (T351.setTop (mkF me_ 42 #[.val (.ref a)] [(.ref r_351), (.ref r_325), (.ref r_302), (.ref r_282), (.ref r_265), (.ref r_251)]))
  obtain ⟨_, _, ⟨T379, L379, k379, n379⟩, -, X379, ⟨Lc379, hQ379, l379, y379, z379⟩, st379⟩ := Jvm.LawKit.callS X351 hx (y := (⟨"java/util/List", "of", "(Ljava/lang/Object;Ljava/lang/Object;Ljava/lang/Object;Ljava/lang/Object;Ljava/lang/Object;Ljava/lang/Object;)Ljava/util/List;"⟩ : MethodName)) hown (mvT hZ (hw _ (List.mem_of_getElem? (i := 50) rfl))) (mvT hZ (hw _ (List.mem_of_getElem? (i := 51) rfl))) (mvT hZ (hw _ (List.mem_of_getElem? (i := 52) rfl))) (mvT hZ (hw _ (List.mem_of_getElem? (i := 53) rfl))) (by decide) (backOf (W := 0) (rm_of6 l Z a0 hw [] r_251 r_265 r_282 r_302 r_325 r_351 h351 n0 O377 u0 f367 f369 f371 f373 f375 w351_1) hZ (hw _ (List.mem_of_getElem? (i := 53) rfl)) (hw _ (List.mem_of_getElem? (i := 52) rfl)) (by decide) (by decide)) (g := (mkF me_ 42 #[.val (.ref a)] [(.ref r_351), (.ref r_325), (.ref r_302), (.ref r_282), (.ref r_265), (.ref r_251)])) rfl (by rw [hml]; rfl) (argsL := [(.ref r_251), (.ref r_265), (.ref r_282), (.ref r_302), (.ref r_325), (.ref r_351)]) (rest := []) (lenOf pd_6 rfl) rfl (by show 2 * 0 + _ ≤ _; exact Nat.le_of_eq rfl) (hb hby d4_42) (fun _ _ => ⟨rfl, e351, (by decide : 6 + 2 ≤ _), (by decide : 6 + 8 ≤ _)⟩)
  dsimp only [Pt.U, Pt.locs, Pt.cells, Pt.slots] at X379 l379 y379 z379 st379 hQ379
  subst l379 y379 z379
  obtain ⟨x_379, b_379, k_379, rfl, Nq379, Kq379, w379_0, w379_1, w379_2, w379_3⟩ := hQ379
  have N380 := Fr.app N352 Nq379
  obtain ⟨h379, e379⟩ : ∃ z, T379.heap = z := ⟨_, rfl⟩
  rw [e379] at Kq379 w379_1 w379_2 w379_3
  have ne381 : a ≠ x_379 := Nat.ne_of_lt (Nat.lt_of_lt_of_le f361.lt w379_0)
  have ne382 : r_251 ≠ x_379 := Nat.ne_of_lt (Nat.lt_of_lt_of_le f367.lt w379_0)
  have ne383 : r_265 ≠ x_379 := Nat.ne_of_lt (Nat.lt_of_lt_of_le f369.lt w379_0)
  have ne384 : r_282 ≠ x_379 := Nat.ne_of_lt (Nat.lt_of_lt_of_le f371.lt w379_0)
  have ne385 : r_302 ≠ x_379 := Nat.ne_of_lt (Nat.lt_of_lt_of_le f373.lt w379_0)
  have ne386 : r_325 ≠ x_379 := Nat.ne_of_lt (Nat.lt_of_lt_of_le f375.lt w379_0)
  have ne387 : r_351 ≠ x_379 := Nat.ne_of_lt (Nat.lt_of_lt_of_le w351_1.lt w379_0)
  have g388 : n0 ≤ x_379 := Nat.le_trans (own_old O377) w379_0
  have z389 : h0.size ≤ x_379 := Nat.le_trans K378.1 w379_0
  have f390 : Fld Z h379 a "com/example/mehr/mehr/Measures" "p1" "D" (.double d0) := f361.keep Kq379 nin0
  have f391 : Fld Z h379 a "com/example/mehr/mehr/Measures" "p2" "D" (.double d1) := f362.keep Kq379 nin0
  have f392 : Fld Z h379 a "com/example/mehr/mehr/Measures" "p5" "D" (.double d2) := f363.keep Kq379 nin0
  have f393 : Fld Z h379 a "com/example/mehr/mehr/Measures" "p10" "D" (.double d3) := f364.keep Kq379 nin0
  have f394 : Fld Z h379 a "com/example/mehr/mehr/Measures" "ndcg10" "D" (.double d4) := f365.keep Kq379 nin0
  have f395 : Fld Z h379 a "com/example/mehr/mehr/Measures" "rr" "D" (.double d5) := f366.keep Kq379 nin0
  have f396 : Exa Z h379 r_251 "java/lang/Double" := f367.keep Kq379
  have f397 : Fld Z h379 r_251 "java/lang/Double" "value" "D" (.double d0) := f368.keep Kq379 nin0
  have f398 : Exa Z h379 r_265 "java/lang/Double" := f369.keep Kq379
  have f399 : Fld Z h379 r_265 "java/lang/Double" "value" "D" (.double d1) := f370.keep Kq379 nin0
  have f400 : Exa Z h379 r_282 "java/lang/Double" := f371.keep Kq379
  have f401 : Fld Z h379 r_282 "java/lang/Double" "value" "D" (.double d2) := f372.keep Kq379 nin0
  have f402 : Exa Z h379 r_302 "java/lang/Double" := f373.keep Kq379
  have f403 : Fld Z h379 r_302 "java/lang/Double" "value" "D" (.double d3) := f374.keep Kq379 nin0
  have f404 : Exa Z h379 r_325 "java/lang/Double" := f375.keep Kq379
  have f405 : Fld Z h379 r_325 "java/lang/Double" "value" "D" (.double d4) := f376.keep Kq379 nin0
  have f406 : Exa Z h379 r_351 "java/lang/Double" := w351_1.keep Kq379
  have f407 : Fld Z h379 r_351 "java/lang/Double" "value" "D" (.double d5) := w351_2.keep Kq379 nin0
  have O408 := O377.keep Kq379 all0
  have K409 := K378.trans Kq379 all0
  refine gv st379 ?_
  show G (T379.setTop (mkF me_ 45 #[.val (.ref a)] [(.ref x_379)]))
  refine gf _ (own_ret X379 Bd.notSynchronized (v := some (.ref x_379)) (fun h => by rw [Bd.returns] at h; cases h) ?_ (by decide) (by decide) (fun fs hr => retOut X379 hx (t := (.object "java/util/List")) Bd.returns rfl (Or.inr (Or.inr (Or.inr (Or.inr ⟨rfl, rfl, rfl⟩)))) (hb hby d4_45) hr))
  show Q_val Z a d0 d1 d2 d3 d4 d5 h0 n0 _ T379.heap _
  rw [e379]
  exact ⟨x_379, b_379, k_379, r_251, r_265, r_282, r_302, r_325, r_351, rfl, N380, K409, z389, w379_1, w379_2, w379_3, f396, f398, f400, f402, f404, f406, f397, f399, f401, f403, f405, f407⟩
theorem d15_0 : decode jdk_45_method_3_code 0 = .ok (.aload_n 0, 1) := by decide +kernel
theorem d15_1 : decode jdk_45_method_3_code 1 = .ok (.getfield 7, 3) := by decide +kernel
theorem d15_4 : decode jdk_45_method_3_code 4 = .ok (.arraylength, 1) := by decide +kernel
theorem d15_5 : decode jdk_45_method_3_code 5 = .ok (.ireturn, 1) := by decide +kernel
def Q_size (Z : State) (a : Addr) (b : Addr) (k : ClassId) (r0 : Addr) (r1 : Addr) (r2 : Addr) (r3 : Addr) (r4 : Addr) (r5 : Addr) (h0 : Heap) (n0 : Nat) (v : Option Value) (h : Heap) (L : List Loc) : Prop := v = some (.int (6 : Int32)) ∧ Fr n0 L ∧ h = h0
set_option maxRecDepth 65536 in
set_option maxHeartbeats 40000000 in
theorem rm_size (l : Launch) (Z : State) (a0 : Array Value) (hw : ∀ d ∈ tables_1, d.before a0 Z = true) (ws : List Jvm.Cond) (a : Addr) (b : Addr) (k : ClassId) (r0 : Addr) (r1 : Addr) (r2 : Addr) (r3 : Addr) (r4 : Addr) (r5 : Addr) (h0 : Heap) (n0 : Nat) (O0 : Old Z n0 h0) (u0 : Fld Z h0 a "java/util/ImmutableCollections$ListN" "elements" "[Ljava/lang/Object;" (.ref b)) (u1 : Arv Z h0 b k (.object "java/lang/Object") (6 : Int32) [(.ref r0), (.ref r1), (.ref r2), (.ref r3), (.ref r4), (.ref r5)] .null) :
    MetFree l (⟨"java/util/ImmutableCollections$ListN", "size", "()I"⟩ : MethodName) (head1 (Jvm.Cond.code (⟨"java/util/ImmutableCollections$ListN", "size", "()I"⟩ : MethodName) jdk_45_method_3_code 1 (some .int) :: ws) ({ frames := 0, cells := 0, slots := 0, locals := 0 } : Room)) (fun aV U => aV = #[(.ref a)] ∧ Z.Warmed39 U.vm ∧ U.heap = h0) (fun _ _ _ _ _ => True) (fun _ U o U' => ∃ v L, o = .returned v ∧ Q_size Z a b k r0 r1 r2 r3 r4 r5 h0 n0 v U'.heap L ∧ FrameEnd U o U' L ({ frames := 0, cells := 0, slots := 0, locals := 0 } : Room).cells ({ frames := 0, cells := 0, slots := 0, locals := 0 } : Room).slots) := by
  refine MetFree.of_bodySF (plainFor_of_name pn_7) hisR ?_
  intro pr_ en_ st_ me_ args below meth_ co_ s₁ Bd hml0 hP hK
  obtain ⟨rfl, hZ, hh⟩ := hP
  have hx := Bd.exec
  have hby := Bd.bytes
  have hml : co_.maxLocals = 1 := hml0
  have hown : st_.vm.findClass "java/util/ImmutableCollections$ListN" = some me_.cls := findClass_of_methodNamed Bd.named
  have hnm := (name_of_methodNamed Bd.named Bd.method).1
  have X0 : Stand pr_ l en_ ({ frames := 0, cells := 0, slots := 0, locals := 0 } : Room) st_ me_ #[(.ref a)] below meth_ co_ s₁ [] 0 0 := Stand.of_body Bd
  have e0 : s₁.heap = h0 := by rw [← hh, Bd.state]; rfl
  have N0 := Fr.nil n0
  have K0 := Keep.refl h0 []
  obtain ⟨G, gv, gf, gb⟩ := own_G pr_.tables en_ below st_ (Q_size Z a b k r0 r1 r2 r3 r4 r5 h0 n0) ({ frames := 0, cells := 0, slots := 0, locals := 0 } : Room).cells ({ frames := 0, cells := 0, slots := 0, locals := 0 } : Room).slots
  show own_Fin pr_.tables en_ below st_ (Q_size Z a b k r0 r1 r2 r3 r4 r5 h0 n0) ({ frames := 0, cells := 0, slots := 0, locals := 0 } : Room).cells ({ frames := 0, cells := 0, slots := 0, locals := 0 } : Room).slots (s₁.setTop (entryFrame me_ #[(.ref a)] 1))
  refine gb _ (gv (fun tQ kQ => castTop (ef_0 me_ a) kQ) ?_)
  show G (s₁.setTop (mkF me_ 0 #[.val (.ref a)] []))
  refine gv (fun tQ kQ => XS.aloadN X0.here hx rfl (hb hby d15_0) rfl rfl kQ) ?_
  show G (s₁.setTop (mkF me_ 1 #[.val (.ref a)] [(.ref a)]))
  obtain ⟨T410, X410, e410, st410⟩ := getF X0 hx hZ hown (host := "") (Or.inl (hw _ (List.mem_of_getElem? (i := 92) rfl))) Via.refl e0 u0 (g := (mkF me_ 1 #[.val (.ref a)] [(.ref a)])) rfl rfl (hb hby d15_1)
  refine gv st410 ?_
  show G (T410.setTop (mkF me_ 4 #[.val (.ref a)] [(.ref b)]))
  obtain ⟨cl411, Ar411, -, S411, n411, -, -⟩ := (id u1)
  refine gv (X410.arraylength hx (by rw [e410]; exact Ar411.1) (State.isArrayOf_alike hZ.alike Ar411.2.1) (g := (mkF me_ 4 #[.val (.ref a)] [(.ref b)])) rfl rfl (hb hby d15_4)) ?_
  rw [len_of S411 n411]
  show G (T410.setTop (mkF me_ 5 #[.val (.ref a)] [(.int (6 : Int32))]))
  refine gf _ (own_ret X410 Bd.notSynchronized (v := some (.int (6 : Int32))) (fun h => by rw [Bd.returns] at h; cases h) ?_ (by decide) (by decide) (fun fs hr => retOut X410 hx (t := .int) Bd.returns rfl (Or.inl ⟨rfl, Or.inl rfl, _, rfl⟩) (hb hby d15_5) hr))
  show Q_size Z a b k r0 r1 r2 r3 r4 r5 h0 n0 _ T410.heap _
  rw [e410]
  exact ⟨rfl, N0, rfl⟩
theorem ef_7 (m : MethodId) (x0 : Addr) (x1 : Int32)  : entryFrame m #[(.ref x0), (.int x1)] 2 = mkF m 0 #[.val (.ref x0), .val (.int x1)] [] := by first | (simp [entryFrame, mkF, argsToLocals, Value.category]; done) | rfl
theorem d16_0 : decode jdk_45_method_4_code 0 = .ok (.aload_n 0, 1) := by decide +kernel
theorem d16_1 : decode jdk_45_method_4_code 1 = .ok (.getfield 7, 3) := by decide +kernel
theorem d16_4 : decode jdk_45_method_4_code 4 = .ok (.iload_n 1, 1) := by decide +kernel
theorem d16_5 : decode jdk_45_method_4_code 5 = .ok (.aaload, 1) := by decide +kernel
theorem d16_6 : decode jdk_45_method_4_code 6 = .ok (.areturn, 1) := by decide +kernel
def Q_get0 (Z : State) (a : Addr) (b : Addr) (k : ClassId) (r0 : Addr) (r1 : Addr) (r2 : Addr) (r3 : Addr) (r4 : Addr) (r5 : Addr) (h0 : Heap) (n0 : Nat) (v : Option Value) (h : Heap) (L : List Loc) : Prop := v = some (.ref r0) ∧ Fr n0 L ∧ h = h0
set_option maxRecDepth 65536 in
set_option maxHeartbeats 40000000 in
theorem rm_get0 (l : Launch) (Z : State) (a0 : Array Value) (hw : ∀ d ∈ tables_1, d.before a0 Z = true) (ws : List Jvm.Cond) (a : Addr) (b : Addr) (k : ClassId) (r0 : Addr) (r1 : Addr) (r2 : Addr) (r3 : Addr) (r4 : Addr) (r5 : Addr) (h0 : Heap) (n0 : Nat) (O0 : Old Z n0 h0) (u0 : Fld Z h0 a "java/util/ImmutableCollections$ListN" "elements" "[Ljava/lang/Object;" (.ref b)) (u1 : Arv Z h0 b k (.object "java/lang/Object") (6 : Int32) [(.ref r0), (.ref r1), (.ref r2), (.ref r3), (.ref r4), (.ref r5)] .null) :
    MetFree l (⟨"java/util/ImmutableCollections$ListN", "get", "(I)Ljava/lang/Object;"⟩ : MethodName) (head1 (Jvm.Cond.code (⟨"java/util/ImmutableCollections$ListN", "get", "(I)Ljava/lang/Object;"⟩ : MethodName) jdk_45_method_4_code 2 (some (.object "java/lang/Object")) :: ws) ({ frames := 0, cells := 0, slots := 0, locals := 0 } : Room)) (fun aV U => aV = #[(.ref a), (.int (0 : Int32))] ∧ Z.Warmed39 U.vm ∧ U.heap = h0) (fun _ _ _ _ _ => True) (fun _ U o U' => ∃ v L, o = .returned v ∧ Q_get0 Z a b k r0 r1 r2 r3 r4 r5 h0 n0 v U'.heap L ∧ FrameEnd U o U' L ({ frames := 0, cells := 0, slots := 0, locals := 0 } : Room).cells ({ frames := 0, cells := 0, slots := 0, locals := 0 } : Room).slots) := by
  refine MetFree.of_bodySF (plainFor_of_name pn_7) hisR ?_
  intro pr_ en_ st_ me_ args below meth_ co_ s₁ Bd hml0 hP hK
  obtain ⟨rfl, hZ, hh⟩ := hP
  have hx := Bd.exec
  have hby := Bd.bytes
  have hml : co_.maxLocals = 2 := hml0
  have hown : st_.vm.findClass "java/util/ImmutableCollections$ListN" = some me_.cls := findClass_of_methodNamed Bd.named
  have hnm := (name_of_methodNamed Bd.named Bd.method).1
  have X0 : Stand pr_ l en_ ({ frames := 0, cells := 0, slots := 0, locals := 0 } : Room) st_ me_ #[(.ref a), (.int (0 : Int32))] below meth_ co_ s₁ [] 0 0 := Stand.of_body Bd
  have e0 : s₁.heap = h0 := by rw [← hh, Bd.state]; rfl
  have N0 := Fr.nil n0
  have K0 := Keep.refl h0 []
  obtain ⟨G, gv, gf, gb⟩ := own_G pr_.tables en_ below st_ (Q_get0 Z a b k r0 r1 r2 r3 r4 r5 h0 n0) ({ frames := 0, cells := 0, slots := 0, locals := 0 } : Room).cells ({ frames := 0, cells := 0, slots := 0, locals := 0 } : Room).slots
  show own_Fin pr_.tables en_ below st_ (Q_get0 Z a b k r0 r1 r2 r3 r4 r5 h0 n0) ({ frames := 0, cells := 0, slots := 0, locals := 0 } : Room).cells ({ frames := 0, cells := 0, slots := 0, locals := 0 } : Room).slots (s₁.setTop (entryFrame me_ #[(.ref a), (.int (0 : Int32))] 2))
  refine gb _ (gv (fun tQ kQ => castTop (ef_7 me_ a (0 : Int32)) kQ) ?_)
  show G (s₁.setTop (mkF me_ 0 #[.val (.ref a), .val (.int (0 : Int32))] []))
  refine gv (fun tQ kQ => XS.aloadN X0.here hx rfl (hb hby d16_0) rfl rfl kQ) ?_
  show G (s₁.setTop (mkF me_ 1 #[.val (.ref a), .val (.int (0 : Int32))] [(.ref a)]))
  obtain ⟨T412, X412, e412, st412⟩ := getF X0 hx hZ hown (host := "") (Or.inl (hw _ (List.mem_of_getElem? (i := 92) rfl))) Via.refl e0 u0 (g := (mkF me_ 1 #[.val (.ref a), .val (.int (0 : Int32))] [(.ref a)])) rfl rfl (hb hby d16_1)
  refine gv st412 ?_
  show G (T412.setTop (mkF me_ 4 #[.val (.ref a), .val (.int (0 : Int32))] [(.ref b)]))
  refine gv (fun tQ kQ => XS.iloadN X412.here hx rfl (hb hby d16_4) rfl kQ) ?_
  show G (T412.setTop (mkF me_ 5 #[.val (.ref a), .val (.int (0 : Int32))] [(.int (0 : Int32)), (.ref b)]))
  obtain ⟨cl413, Ar413, q413, S413, n413, H413, G413⟩ := (id u1)
  have in413 : ¬ ((0 : Int32) < 0 ∨ cl413.slots.size ≤ ((0 : Int32)).toNatClampNeg) := inb_of S413 ⟨by decide, by decide⟩
  refine gv (X412.aaload hx (j := (0 : Int32)) (v := (.ref r0)) (by rw [e412]; exact Ar413.1) (State.isArrayOf_alike hZ.alike Ar413.2.1) rfl Ar413.2.2 in413 (Has.at H413 in413 rfl) (g := (mkF me_ 5 #[.val (.ref a), .val (.int (0 : Int32))] [(.int (0 : Int32)), (.ref b)])) rfl rfl (hb hby d16_5)) ?_
  show G (T412.setTop (mkF me_ 6 #[.val (.ref a), .val (.int (0 : Int32))] [(.ref r0)]))
  refine gf _ (own_ret X412 Bd.notSynchronized (v := some (.ref r0)) (fun h => by rw [Bd.returns] at h; cases h) ?_ (by decide) (by decide) (fun fs hr => retOut X412 hx (t := (.object "java/lang/Object")) Bd.returns rfl (Or.inr (Or.inr (Or.inr (Or.inr ⟨rfl, rfl, rfl⟩)))) (hb hby d16_6) hr))
  show Q_get0 Z a b k r0 r1 r2 r3 r4 r5 h0 n0 _ T412.heap _
  rw [e412]
  exact ⟨rfl, N0, rfl⟩
def Q_get1 (Z : State) (a : Addr) (b : Addr) (k : ClassId) (r0 : Addr) (r1 : Addr) (r2 : Addr) (r3 : Addr) (r4 : Addr) (r5 : Addr) (h0 : Heap) (n0 : Nat) (v : Option Value) (h : Heap) (L : List Loc) : Prop := v = some (.ref r1) ∧ Fr n0 L ∧ h = h0
set_option maxRecDepth 65536 in
set_option maxHeartbeats 40000000 in
theorem rm_get1 (l : Launch) (Z : State) (a0 : Array Value) (hw : ∀ d ∈ tables_1, d.before a0 Z = true) (ws : List Jvm.Cond) (a : Addr) (b : Addr) (k : ClassId) (r0 : Addr) (r1 : Addr) (r2 : Addr) (r3 : Addr) (r4 : Addr) (r5 : Addr) (h0 : Heap) (n0 : Nat) (O0 : Old Z n0 h0) (u0 : Fld Z h0 a "java/util/ImmutableCollections$ListN" "elements" "[Ljava/lang/Object;" (.ref b)) (u1 : Arv Z h0 b k (.object "java/lang/Object") (6 : Int32) [(.ref r0), (.ref r1), (.ref r2), (.ref r3), (.ref r4), (.ref r5)] .null) :
    MetFree l (⟨"java/util/ImmutableCollections$ListN", "get", "(I)Ljava/lang/Object;"⟩ : MethodName) (head1 (Jvm.Cond.code (⟨"java/util/ImmutableCollections$ListN", "get", "(I)Ljava/lang/Object;"⟩ : MethodName) jdk_45_method_4_code 2 (some (.object "java/lang/Object")) :: ws) ({ frames := 0, cells := 0, slots := 0, locals := 0 } : Room)) (fun aV U => aV = #[(.ref a), (.int (1 : Int32))] ∧ Z.Warmed39 U.vm ∧ U.heap = h0) (fun _ _ _ _ _ => True) (fun _ U o U' => ∃ v L, o = .returned v ∧ Q_get1 Z a b k r0 r1 r2 r3 r4 r5 h0 n0 v U'.heap L ∧ FrameEnd U o U' L ({ frames := 0, cells := 0, slots := 0, locals := 0 } : Room).cells ({ frames := 0, cells := 0, slots := 0, locals := 0 } : Room).slots) := by
  refine MetFree.of_bodySF (plainFor_of_name pn_7) hisR ?_
  intro pr_ en_ st_ me_ args below meth_ co_ s₁ Bd hml0 hP hK
  obtain ⟨rfl, hZ, hh⟩ := hP
  have hx := Bd.exec
  have hby := Bd.bytes
  have hml : co_.maxLocals = 2 := hml0
  have hown : st_.vm.findClass "java/util/ImmutableCollections$ListN" = some me_.cls := findClass_of_methodNamed Bd.named
  have hnm := (name_of_methodNamed Bd.named Bd.method).1
  have X0 : Stand pr_ l en_ ({ frames := 0, cells := 0, slots := 0, locals := 0 } : Room) st_ me_ #[(.ref a), (.int (1 : Int32))] below meth_ co_ s₁ [] 0 0 := Stand.of_body Bd
  have e0 : s₁.heap = h0 := by rw [← hh, Bd.state]; rfl
  have N0 := Fr.nil n0
  have K0 := Keep.refl h0 []
  obtain ⟨G, gv, gf, gb⟩ := own_G pr_.tables en_ below st_ (Q_get1 Z a b k r0 r1 r2 r3 r4 r5 h0 n0) ({ frames := 0, cells := 0, slots := 0, locals := 0 } : Room).cells ({ frames := 0, cells := 0, slots := 0, locals := 0 } : Room).slots
  show own_Fin pr_.tables en_ below st_ (Q_get1 Z a b k r0 r1 r2 r3 r4 r5 h0 n0) ({ frames := 0, cells := 0, slots := 0, locals := 0 } : Room).cells ({ frames := 0, cells := 0, slots := 0, locals := 0 } : Room).slots (s₁.setTop (entryFrame me_ #[(.ref a), (.int (1 : Int32))] 2))
  refine gb _ (gv (fun tQ kQ => castTop (ef_7 me_ a (1 : Int32)) kQ) ?_)
  show G (s₁.setTop (mkF me_ 0 #[.val (.ref a), .val (.int (1 : Int32))] []))
  refine gv (fun tQ kQ => XS.aloadN X0.here hx rfl (hb hby d16_0) rfl rfl kQ) ?_
  show G (s₁.setTop (mkF me_ 1 #[.val (.ref a), .val (.int (1 : Int32))] [(.ref a)]))
  obtain ⟨T414, X414, e414, st414⟩ := getF X0 hx hZ hown (host := "") (Or.inl (hw _ (List.mem_of_getElem? (i := 92) rfl))) Via.refl e0 u0 (g := (mkF me_ 1 #[.val (.ref a), .val (.int (1 : Int32))] [(.ref a)])) rfl rfl (hb hby d16_1)
  refine gv st414 ?_
  show G (T414.setTop (mkF me_ 4 #[.val (.ref a), .val (.int (1 : Int32))] [(.ref b)]))
  refine gv (fun tQ kQ => XS.iloadN X414.here hx rfl (hb hby d16_4) rfl kQ) ?_
  show G (T414.setTop (mkF me_ 5 #[.val (.ref a), .val (.int (1 : Int32))] [(.int (1 : Int32)), (.ref b)]))
  obtain ⟨cl415, Ar415, q415, S415, n415, H415, G415⟩ := (id u1)
  have in415 : ¬ ((1 : Int32) < 0 ∨ cl415.slots.size ≤ ((1 : Int32)).toNatClampNeg) := inb_of S415 ⟨by decide, by decide⟩
  refine gv (X414.aaload hx (j := (1 : Int32)) (v := (.ref r1)) (by rw [e414]; exact Ar415.1) (State.isArrayOf_alike hZ.alike Ar415.2.1) rfl Ar415.2.2 in415 (Has.at H415 in415 rfl) (g := (mkF me_ 5 #[.val (.ref a), .val (.int (1 : Int32))] [(.int (1 : Int32)), (.ref b)])) rfl rfl (hb hby d16_5)) ?_
  show G (T414.setTop (mkF me_ 6 #[.val (.ref a), .val (.int (1 : Int32))] [(.ref r1)]))
  refine gf _ (own_ret X414 Bd.notSynchronized (v := some (.ref r1)) (fun h => by rw [Bd.returns] at h; cases h) ?_ (by decide) (by decide) (fun fs hr => retOut X414 hx (t := (.object "java/lang/Object")) Bd.returns rfl (Or.inr (Or.inr (Or.inr (Or.inr ⟨rfl, rfl, rfl⟩)))) (hb hby d16_6) hr))
  show Q_get1 Z a b k r0 r1 r2 r3 r4 r5 h0 n0 _ T414.heap _
  rw [e414]
  exact ⟨rfl, N0, rfl⟩
def Q_get2 (Z : State) (a : Addr) (b : Addr) (k : ClassId) (r0 : Addr) (r1 : Addr) (r2 : Addr) (r3 : Addr) (r4 : Addr) (r5 : Addr) (h0 : Heap) (n0 : Nat) (v : Option Value) (h : Heap) (L : List Loc) : Prop := v = some (.ref r2) ∧ Fr n0 L ∧ h = h0
set_option maxRecDepth 65536 in
set_option maxHeartbeats 40000000 in
theorem rm_get2 (l : Launch) (Z : State) (a0 : Array Value) (hw : ∀ d ∈ tables_1, d.before a0 Z = true) (ws : List Jvm.Cond) (a : Addr) (b : Addr) (k : ClassId) (r0 : Addr) (r1 : Addr) (r2 : Addr) (r3 : Addr) (r4 : Addr) (r5 : Addr) (h0 : Heap) (n0 : Nat) (O0 : Old Z n0 h0) (u0 : Fld Z h0 a "java/util/ImmutableCollections$ListN" "elements" "[Ljava/lang/Object;" (.ref b)) (u1 : Arv Z h0 b k (.object "java/lang/Object") (6 : Int32) [(.ref r0), (.ref r1), (.ref r2), (.ref r3), (.ref r4), (.ref r5)] .null) :
    MetFree l (⟨"java/util/ImmutableCollections$ListN", "get", "(I)Ljava/lang/Object;"⟩ : MethodName) (head1 (Jvm.Cond.code (⟨"java/util/ImmutableCollections$ListN", "get", "(I)Ljava/lang/Object;"⟩ : MethodName) jdk_45_method_4_code 2 (some (.object "java/lang/Object")) :: ws) ({ frames := 0, cells := 0, slots := 0, locals := 0 } : Room)) (fun aV U => aV = #[(.ref a), (.int (2 : Int32))] ∧ Z.Warmed39 U.vm ∧ U.heap = h0) (fun _ _ _ _ _ => True) (fun _ U o U' => ∃ v L, o = .returned v ∧ Q_get2 Z a b k r0 r1 r2 r3 r4 r5 h0 n0 v U'.heap L ∧ FrameEnd U o U' L ({ frames := 0, cells := 0, slots := 0, locals := 0 } : Room).cells ({ frames := 0, cells := 0, slots := 0, locals := 0 } : Room).slots) := by
  refine MetFree.of_bodySF (plainFor_of_name pn_7) hisR ?_
  intro pr_ en_ st_ me_ args below meth_ co_ s₁ Bd hml0 hP hK
  obtain ⟨rfl, hZ, hh⟩ := hP
  have hx := Bd.exec
  have hby := Bd.bytes
  have hml : co_.maxLocals = 2 := hml0
  have hown : st_.vm.findClass "java/util/ImmutableCollections$ListN" = some me_.cls := findClass_of_methodNamed Bd.named
  have hnm := (name_of_methodNamed Bd.named Bd.method).1
  have X0 : Stand pr_ l en_ ({ frames := 0, cells := 0, slots := 0, locals := 0 } : Room) st_ me_ #[(.ref a), (.int (2 : Int32))] below meth_ co_ s₁ [] 0 0 := Stand.of_body Bd
  have e0 : s₁.heap = h0 := by rw [← hh, Bd.state]; rfl
  have N0 := Fr.nil n0
  have K0 := Keep.refl h0 []
  obtain ⟨G, gv, gf, gb⟩ := own_G pr_.tables en_ below st_ (Q_get2 Z a b k r0 r1 r2 r3 r4 r5 h0 n0) ({ frames := 0, cells := 0, slots := 0, locals := 0 } : Room).cells ({ frames := 0, cells := 0, slots := 0, locals := 0 } : Room).slots
  show own_Fin pr_.tables en_ below st_ (Q_get2 Z a b k r0 r1 r2 r3 r4 r5 h0 n0) ({ frames := 0, cells := 0, slots := 0, locals := 0 } : Room).cells ({ frames := 0, cells := 0, slots := 0, locals := 0 } : Room).slots (s₁.setTop (entryFrame me_ #[(.ref a), (.int (2 : Int32))] 2))
  refine gb _ (gv (fun tQ kQ => castTop (ef_7 me_ a (2 : Int32)) kQ) ?_)
  show G (s₁.setTop (mkF me_ 0 #[.val (.ref a), .val (.int (2 : Int32))] []))
  refine gv (fun tQ kQ => XS.aloadN X0.here hx rfl (hb hby d16_0) rfl rfl kQ) ?_
  show G (s₁.setTop (mkF me_ 1 #[.val (.ref a), .val (.int (2 : Int32))] [(.ref a)]))
  obtain ⟨T416, X416, e416, st416⟩ := getF X0 hx hZ hown (host := "") (Or.inl (hw _ (List.mem_of_getElem? (i := 92) rfl))) Via.refl e0 u0 (g := (mkF me_ 1 #[.val (.ref a), .val (.int (2 : Int32))] [(.ref a)])) rfl rfl (hb hby d16_1)
  refine gv st416 ?_
  show G (T416.setTop (mkF me_ 4 #[.val (.ref a), .val (.int (2 : Int32))] [(.ref b)]))
  refine gv (fun tQ kQ => XS.iloadN X416.here hx rfl (hb hby d16_4) rfl kQ) ?_
  show G (T416.setTop (mkF me_ 5 #[.val (.ref a), .val (.int (2 : Int32))] [(.int (2 : Int32)), (.ref b)]))
  obtain ⟨cl417, Ar417, q417, S417, n417, H417, G417⟩ := (id u1)
  have in417 : ¬ ((2 : Int32) < 0 ∨ cl417.slots.size ≤ ((2 : Int32)).toNatClampNeg) := inb_of S417 ⟨by decide, by decide⟩
  refine gv (X416.aaload hx (j := (2 : Int32)) (v := (.ref r2)) (by rw [e416]; exact Ar417.1) (State.isArrayOf_alike hZ.alike Ar417.2.1) rfl Ar417.2.2 in417 (Has.at H417 in417 rfl) (g := (mkF me_ 5 #[.val (.ref a), .val (.int (2 : Int32))] [(.int (2 : Int32)), (.ref b)])) rfl rfl (hb hby d16_5)) ?_
  show G (T416.setTop (mkF me_ 6 #[.val (.ref a), .val (.int (2 : Int32))] [(.ref r2)]))
  refine gf _ (own_ret X416 Bd.notSynchronized (v := some (.ref r2)) (fun h => by rw [Bd.returns] at h; cases h) ?_ (by decide) (by decide) (fun fs hr => retOut X416 hx (t := (.object "java/lang/Object")) Bd.returns rfl (Or.inr (Or.inr (Or.inr (Or.inr ⟨rfl, rfl, rfl⟩)))) (hb hby d16_6) hr))
  show Q_get2 Z a b k r0 r1 r2 r3 r4 r5 h0 n0 _ T416.heap _
  rw [e416]
  exact ⟨rfl, N0, rfl⟩
def Q_get3 (Z : State) (a : Addr) (b : Addr) (k : ClassId) (r0 : Addr) (r1 : Addr) (r2 : Addr) (r3 : Addr) (r4 : Addr) (r5 : Addr) (h0 : Heap) (n0 : Nat) (v : Option Value) (h : Heap) (L : List Loc) : Prop := v = some (.ref r3) ∧ Fr n0 L ∧ h = h0
set_option maxRecDepth 65536 in
set_option maxHeartbeats 40000000 in
theorem rm_get3 (l : Launch) (Z : State) (a0 : Array Value) (hw : ∀ d ∈ tables_1, d.before a0 Z = true) (ws : List Jvm.Cond) (a : Addr) (b : Addr) (k : ClassId) (r0 : Addr) (r1 : Addr) (r2 : Addr) (r3 : Addr) (r4 : Addr) (r5 : Addr) (h0 : Heap) (n0 : Nat) (O0 : Old Z n0 h0) (u0 : Fld Z h0 a "java/util/ImmutableCollections$ListN" "elements" "[Ljava/lang/Object;" (.ref b)) (u1 : Arv Z h0 b k (.object "java/lang/Object") (6 : Int32) [(.ref r0), (.ref r1), (.ref r2), (.ref r3), (.ref r4), (.ref r5)] .null) :
    MetFree l (⟨"java/util/ImmutableCollections$ListN", "get", "(I)Ljava/lang/Object;"⟩ : MethodName) (head1 (Jvm.Cond.code (⟨"java/util/ImmutableCollections$ListN", "get", "(I)Ljava/lang/Object;"⟩ : MethodName) jdk_45_method_4_code 2 (some (.object "java/lang/Object")) :: ws) ({ frames := 0, cells := 0, slots := 0, locals := 0 } : Room)) (fun aV U => aV = #[(.ref a), (.int (3 : Int32))] ∧ Z.Warmed39 U.vm ∧ U.heap = h0) (fun _ _ _ _ _ => True) (fun _ U o U' => ∃ v L, o = .returned v ∧ Q_get3 Z a b k r0 r1 r2 r3 r4 r5 h0 n0 v U'.heap L ∧ FrameEnd U o U' L ({ frames := 0, cells := 0, slots := 0, locals := 0 } : Room).cells ({ frames := 0, cells := 0, slots := 0, locals := 0 } : Room).slots) := by
  refine MetFree.of_bodySF (plainFor_of_name pn_7) hisR ?_
  intro pr_ en_ st_ me_ args below meth_ co_ s₁ Bd hml0 hP hK
  obtain ⟨rfl, hZ, hh⟩ := hP
  have hx := Bd.exec
  have hby := Bd.bytes
  have hml : co_.maxLocals = 2 := hml0
  have hown : st_.vm.findClass "java/util/ImmutableCollections$ListN" = some me_.cls := findClass_of_methodNamed Bd.named
  have hnm := (name_of_methodNamed Bd.named Bd.method).1
  have X0 : Stand pr_ l en_ ({ frames := 0, cells := 0, slots := 0, locals := 0 } : Room) st_ me_ #[(.ref a), (.int (3 : Int32))] below meth_ co_ s₁ [] 0 0 := Stand.of_body Bd
  have e0 : s₁.heap = h0 := by rw [← hh, Bd.state]; rfl
  have N0 := Fr.nil n0
  have K0 := Keep.refl h0 []
  obtain ⟨G, gv, gf, gb⟩ := own_G pr_.tables en_ below st_ (Q_get3 Z a b k r0 r1 r2 r3 r4 r5 h0 n0) ({ frames := 0, cells := 0, slots := 0, locals := 0 } : Room).cells ({ frames := 0, cells := 0, slots := 0, locals := 0 } : Room).slots
  show own_Fin pr_.tables en_ below st_ (Q_get3 Z a b k r0 r1 r2 r3 r4 r5 h0 n0) ({ frames := 0, cells := 0, slots := 0, locals := 0 } : Room).cells ({ frames := 0, cells := 0, slots := 0, locals := 0 } : Room).slots (s₁.setTop (entryFrame me_ #[(.ref a), (.int (3 : Int32))] 2))
  refine gb _ (gv (fun tQ kQ => castTop (ef_7 me_ a (3 : Int32)) kQ) ?_)
  show G (s₁.setTop (mkF me_ 0 #[.val (.ref a), .val (.int (3 : Int32))] []))
  refine gv (fun tQ kQ => XS.aloadN X0.here hx rfl (hb hby d16_0) rfl rfl kQ) ?_
  show G (s₁.setTop (mkF me_ 1 #[.val (.ref a), .val (.int (3 : Int32))] [(.ref a)]))
  obtain ⟨T418, X418, e418, st418⟩ := getF X0 hx hZ hown (host := "") (Or.inl (hw _ (List.mem_of_getElem? (i := 92) rfl))) Via.refl e0 u0 (g := (mkF me_ 1 #[.val (.ref a), .val (.int (3 : Int32))] [(.ref a)])) rfl rfl (hb hby d16_1)
  refine gv st418 ?_
  show G (T418.setTop (mkF me_ 4 #[.val (.ref a), .val (.int (3 : Int32))] [(.ref b)]))
  refine gv (fun tQ kQ => XS.iloadN X418.here hx rfl (hb hby d16_4) rfl kQ) ?_
  show G (T418.setTop (mkF me_ 5 #[.val (.ref a), .val (.int (3 : Int32))] [(.int (3 : Int32)), (.ref b)]))
  obtain ⟨cl419, Ar419, q419, S419, n419, H419, G419⟩ := (id u1)
  have in419 : ¬ ((3 : Int32) < 0 ∨ cl419.slots.size ≤ ((3 : Int32)).toNatClampNeg) := inb_of S419 ⟨by decide, by decide⟩
  refine gv (X418.aaload hx (j := (3 : Int32)) (v := (.ref r3)) (by rw [e418]; exact Ar419.1) (State.isArrayOf_alike hZ.alike Ar419.2.1) rfl Ar419.2.2 in419 (Has.at H419 in419 rfl) (g := (mkF me_ 5 #[.val (.ref a), .val (.int (3 : Int32))] [(.int (3 : Int32)), (.ref b)])) rfl rfl (hb hby d16_5)) ?_
  show G (T418.setTop (mkF me_ 6 #[.val (.ref a), .val (.int (3 : Int32))] [(.ref r3)]))
  refine gf _ (own_ret X418 Bd.notSynchronized (v := some (.ref r3)) (fun h => by rw [Bd.returns] at h; cases h) ?_ (by decide) (by decide) (fun fs hr => retOut X418 hx (t := (.object "java/lang/Object")) Bd.returns rfl (Or.inr (Or.inr (Or.inr (Or.inr ⟨rfl, rfl, rfl⟩)))) (hb hby d16_6) hr))
  show Q_get3 Z a b k r0 r1 r2 r3 r4 r5 h0 n0 _ T418.heap _
  rw [e418]
  exact ⟨rfl, N0, rfl⟩
def Q_get4 (Z : State) (a : Addr) (b : Addr) (k : ClassId) (r0 : Addr) (r1 : Addr) (r2 : Addr) (r3 : Addr) (r4 : Addr) (r5 : Addr) (h0 : Heap) (n0 : Nat) (v : Option Value) (h : Heap) (L : List Loc) : Prop := v = some (.ref r4) ∧ Fr n0 L ∧ h = h0
set_option maxRecDepth 65536 in
set_option maxHeartbeats 40000000 in
theorem rm_get4 (l : Launch) (Z : State) (a0 : Array Value) (hw : ∀ d ∈ tables_1, d.before a0 Z = true) (ws : List Jvm.Cond) (a : Addr) (b : Addr) (k : ClassId) (r0 : Addr) (r1 : Addr) (r2 : Addr) (r3 : Addr) (r4 : Addr) (r5 : Addr) (h0 : Heap) (n0 : Nat) (O0 : Old Z n0 h0) (u0 : Fld Z h0 a "java/util/ImmutableCollections$ListN" "elements" "[Ljava/lang/Object;" (.ref b)) (u1 : Arv Z h0 b k (.object "java/lang/Object") (6 : Int32) [(.ref r0), (.ref r1), (.ref r2), (.ref r3), (.ref r4), (.ref r5)] .null) :
    MetFree l (⟨"java/util/ImmutableCollections$ListN", "get", "(I)Ljava/lang/Object;"⟩ : MethodName) (head1 (Jvm.Cond.code (⟨"java/util/ImmutableCollections$ListN", "get", "(I)Ljava/lang/Object;"⟩ : MethodName) jdk_45_method_4_code 2 (some (.object "java/lang/Object")) :: ws) ({ frames := 0, cells := 0, slots := 0, locals := 0 } : Room)) (fun aV U => aV = #[(.ref a), (.int (4 : Int32))] ∧ Z.Warmed39 U.vm ∧ U.heap = h0) (fun _ _ _ _ _ => True) (fun _ U o U' => ∃ v L, o = .returned v ∧ Q_get4 Z a b k r0 r1 r2 r3 r4 r5 h0 n0 v U'.heap L ∧ FrameEnd U o U' L ({ frames := 0, cells := 0, slots := 0, locals := 0 } : Room).cells ({ frames := 0, cells := 0, slots := 0, locals := 0 } : Room).slots) := by
  refine MetFree.of_bodySF (plainFor_of_name pn_7) hisR ?_
  intro pr_ en_ st_ me_ args below meth_ co_ s₁ Bd hml0 hP hK
  obtain ⟨rfl, hZ, hh⟩ := hP
  have hx := Bd.exec
  have hby := Bd.bytes
  have hml : co_.maxLocals = 2 := hml0
  have hown : st_.vm.findClass "java/util/ImmutableCollections$ListN" = some me_.cls := findClass_of_methodNamed Bd.named
  have hnm := (name_of_methodNamed Bd.named Bd.method).1
  have X0 : Stand pr_ l en_ ({ frames := 0, cells := 0, slots := 0, locals := 0 } : Room) st_ me_ #[(.ref a), (.int (4 : Int32))] below meth_ co_ s₁ [] 0 0 := Stand.of_body Bd
  have e0 : s₁.heap = h0 := by rw [← hh, Bd.state]; rfl
  have N0 := Fr.nil n0
  have K0 := Keep.refl h0 []
  obtain ⟨G, gv, gf, gb⟩ := own_G pr_.tables en_ below st_ (Q_get4 Z a b k r0 r1 r2 r3 r4 r5 h0 n0) ({ frames := 0, cells := 0, slots := 0, locals := 0 } : Room).cells ({ frames := 0, cells := 0, slots := 0, locals := 0 } : Room).slots
  show own_Fin pr_.tables en_ below st_ (Q_get4 Z a b k r0 r1 r2 r3 r4 r5 h0 n0) ({ frames := 0, cells := 0, slots := 0, locals := 0 } : Room).cells ({ frames := 0, cells := 0, slots := 0, locals := 0 } : Room).slots (s₁.setTop (entryFrame me_ #[(.ref a), (.int (4 : Int32))] 2))
  refine gb _ (gv (fun tQ kQ => castTop (ef_7 me_ a (4 : Int32)) kQ) ?_)
  show G (s₁.setTop (mkF me_ 0 #[.val (.ref a), .val (.int (4 : Int32))] []))
  refine gv (fun tQ kQ => XS.aloadN X0.here hx rfl (hb hby d16_0) rfl rfl kQ) ?_
  show G (s₁.setTop (mkF me_ 1 #[.val (.ref a), .val (.int (4 : Int32))] [(.ref a)]))
  obtain ⟨T420, X420, e420, st420⟩ := getF X0 hx hZ hown (host := "") (Or.inl (hw _ (List.mem_of_getElem? (i := 92) rfl))) Via.refl e0 u0 (g := (mkF me_ 1 #[.val (.ref a), .val (.int (4 : Int32))] [(.ref a)])) rfl rfl (hb hby d16_1)
  refine gv st420 ?_
  show G (T420.setTop (mkF me_ 4 #[.val (.ref a), .val (.int (4 : Int32))] [(.ref b)]))
  refine gv (fun tQ kQ => XS.iloadN X420.here hx rfl (hb hby d16_4) rfl kQ) ?_
  show G (T420.setTop (mkF me_ 5 #[.val (.ref a), .val (.int (4 : Int32))] [(.int (4 : Int32)), (.ref b)]))
  obtain ⟨cl421, Ar421, q421, S421, n421, H421, G421⟩ := (id u1)
  have in421 : ¬ ((4 : Int32) < 0 ∨ cl421.slots.size ≤ ((4 : Int32)).toNatClampNeg) := inb_of S421 ⟨by decide, by decide⟩
  refine gv (X420.aaload hx (j := (4 : Int32)) (v := (.ref r4)) (by rw [e420]; exact Ar421.1) (State.isArrayOf_alike hZ.alike Ar421.2.1) rfl Ar421.2.2 in421 (Has.at H421 in421 rfl) (g := (mkF me_ 5 #[.val (.ref a), .val (.int (4 : Int32))] [(.int (4 : Int32)), (.ref b)])) rfl rfl (hb hby d16_5)) ?_
  show G (T420.setTop (mkF me_ 6 #[.val (.ref a), .val (.int (4 : Int32))] [(.ref r4)]))
  refine gf _ (own_ret X420 Bd.notSynchronized (v := some (.ref r4)) (fun h => by rw [Bd.returns] at h; cases h) ?_ (by decide) (by decide) (fun fs hr => retOut X420 hx (t := (.object "java/lang/Object")) Bd.returns rfl (Or.inr (Or.inr (Or.inr (Or.inr ⟨rfl, rfl, rfl⟩)))) (hb hby d16_6) hr))
  show Q_get4 Z a b k r0 r1 r2 r3 r4 r5 h0 n0 _ T420.heap _
  rw [e420]
  exact ⟨rfl, N0, rfl⟩
def Q_get5 (Z : State) (a : Addr) (b : Addr) (k : ClassId) (r0 : Addr) (r1 : Addr) (r2 : Addr) (r3 : Addr) (r4 : Addr) (r5 : Addr) (h0 : Heap) (n0 : Nat) (v : Option Value) (h : Heap) (L : List Loc) : Prop := v = some (.ref r5) ∧ Fr n0 L ∧ h = h0
set_option maxRecDepth 65536 in
set_option maxHeartbeats 40000000 in
theorem rm_get5 (l : Launch) (Z : State) (a0 : Array Value) (hw : ∀ d ∈ tables_1, d.before a0 Z = true) (ws : List Jvm.Cond) (a : Addr) (b : Addr) (k : ClassId) (r0 : Addr) (r1 : Addr) (r2 : Addr) (r3 : Addr) (r4 : Addr) (r5 : Addr) (h0 : Heap) (n0 : Nat) (O0 : Old Z n0 h0) (u0 : Fld Z h0 a "java/util/ImmutableCollections$ListN" "elements" "[Ljava/lang/Object;" (.ref b)) (u1 : Arv Z h0 b k (.object "java/lang/Object") (6 : Int32) [(.ref r0), (.ref r1), (.ref r2), (.ref r3), (.ref r4), (.ref r5)] .null) :
    MetFree l (⟨"java/util/ImmutableCollections$ListN", "get", "(I)Ljava/lang/Object;"⟩ : MethodName) (head1 (Jvm.Cond.code (⟨"java/util/ImmutableCollections$ListN", "get", "(I)Ljava/lang/Object;"⟩ : MethodName) jdk_45_method_4_code 2 (some (.object "java/lang/Object")) :: ws) ({ frames := 0, cells := 0, slots := 0, locals := 0 } : Room)) (fun aV U => aV = #[(.ref a), (.int (5 : Int32))] ∧ Z.Warmed39 U.vm ∧ U.heap = h0) (fun _ _ _ _ _ => True) (fun _ U o U' => ∃ v L, o = .returned v ∧ Q_get5 Z a b k r0 r1 r2 r3 r4 r5 h0 n0 v U'.heap L ∧ FrameEnd U o U' L ({ frames := 0, cells := 0, slots := 0, locals := 0 } : Room).cells ({ frames := 0, cells := 0, slots := 0, locals := 0 } : Room).slots) := by
  refine MetFree.of_bodySF (plainFor_of_name pn_7) hisR ?_
  intro pr_ en_ st_ me_ args below meth_ co_ s₁ Bd hml0 hP hK
  obtain ⟨rfl, hZ, hh⟩ := hP
  have hx := Bd.exec
  have hby := Bd.bytes
  have hml : co_.maxLocals = 2 := hml0
  have hown : st_.vm.findClass "java/util/ImmutableCollections$ListN" = some me_.cls := findClass_of_methodNamed Bd.named
  have hnm := (name_of_methodNamed Bd.named Bd.method).1
  have X0 : Stand pr_ l en_ ({ frames := 0, cells := 0, slots := 0, locals := 0 } : Room) st_ me_ #[(.ref a), (.int (5 : Int32))] below meth_ co_ s₁ [] 0 0 := Stand.of_body Bd
  have e0 : s₁.heap = h0 := by rw [← hh, Bd.state]; rfl
  have N0 := Fr.nil n0
  have K0 := Keep.refl h0 []
  obtain ⟨G, gv, gf, gb⟩ := own_G pr_.tables en_ below st_ (Q_get5 Z a b k r0 r1 r2 r3 r4 r5 h0 n0) ({ frames := 0, cells := 0, slots := 0, locals := 0 } : Room).cells ({ frames := 0, cells := 0, slots := 0, locals := 0 } : Room).slots
  show own_Fin pr_.tables en_ below st_ (Q_get5 Z a b k r0 r1 r2 r3 r4 r5 h0 n0) ({ frames := 0, cells := 0, slots := 0, locals := 0 } : Room).cells ({ frames := 0, cells := 0, slots := 0, locals := 0 } : Room).slots (s₁.setTop (entryFrame me_ #[(.ref a), (.int (5 : Int32))] 2))
  refine gb _ (gv (fun tQ kQ => castTop (ef_7 me_ a (5 : Int32)) kQ) ?_)
  show G (s₁.setTop (mkF me_ 0 #[.val (.ref a), .val (.int (5 : Int32))] []))
  refine gv (fun tQ kQ => XS.aloadN X0.here hx rfl (hb hby d16_0) rfl rfl kQ) ?_
  show G (s₁.setTop (mkF me_ 1 #[.val (.ref a), .val (.int (5 : Int32))] [(.ref a)]))
  obtain ⟨T422, X422, e422, st422⟩ := getF X0 hx hZ hown (host := "") (Or.inl (hw _ (List.mem_of_getElem? (i := 92) rfl))) Via.refl e0 u0 (g := (mkF me_ 1 #[.val (.ref a), .val (.int (5 : Int32))] [(.ref a)])) rfl rfl (hb hby d16_1)
  refine gv st422 ?_
  show G (T422.setTop (mkF me_ 4 #[.val (.ref a), .val (.int (5 : Int32))] [(.ref b)]))
  refine gv (fun tQ kQ => XS.iloadN X422.here hx rfl (hb hby d16_4) rfl kQ) ?_
  show G (T422.setTop (mkF me_ 5 #[.val (.ref a), .val (.int (5 : Int32))] [(.int (5 : Int32)), (.ref b)]))
  obtain ⟨cl423, Ar423, q423, S423, n423, H423, G423⟩ := (id u1)
  have in423 : ¬ ((5 : Int32) < 0 ∨ cl423.slots.size ≤ ((5 : Int32)).toNatClampNeg) := inb_of S423 ⟨by decide, by decide⟩
  refine gv (X422.aaload hx (j := (5 : Int32)) (v := (.ref r5)) (by rw [e422]; exact Ar423.1) (State.isArrayOf_alike hZ.alike Ar423.2.1) rfl Ar423.2.2 in423 (Has.at H423 in423 rfl) (g := (mkF me_ 5 #[.val (.ref a), .val (.int (5 : Int32))] [(.int (5 : Int32)), (.ref b)])) rfl rfl (hb hby d16_5)) ?_
  show G (T422.setTop (mkF me_ 6 #[.val (.ref a), .val (.int (5 : Int32))] [(.ref r5)]))
  refine gf _ (own_ret X422 Bd.notSynchronized (v := some (.ref r5)) (fun h => by rw [Bd.returns] at h; cases h) ?_ (by decide) (by decide) (fun fs hr => retOut X422 hx (t := (.object "java/lang/Object")) Bd.returns rfl (Or.inr (Or.inr (Or.inr (Or.inr ⟨rfl, rfl, rfl⟩)))) (hb hby d16_6) hr))
  show Q_get5 Z a b k r0 r1 r2 r3 r4 r5 h0 n0 _ T422.heap _
  rw [e422]
  exact ⟨rfl, N0, rfl⟩
theorem d17_0 : decode jdk_117_method_19_code 0 = .ok (.aload_n 0, 1) := by decide +kernel
theorem d17_1 : decode jdk_117_method_19_code 1 = .ok (.getfield 118, 3) := by decide +kernel
theorem d17_4 : decode jdk_117_method_19_code 4 = .ok (.dreturn, 1) := by decide +kernel
def Q_dv (Z : State) (a : Addr) (d : UInt64) (h0 : Heap) (n0 : Nat) (v : Option Value) (h : Heap) (L : List Loc) : Prop := v = some (.double d) ∧ Fr n0 L ∧ h = h0
set_option maxRecDepth 65536 in
set_option maxHeartbeats 40000000 in
theorem rm_dv (l : Launch) (Z : State) (a0 : Array Value) (hw : ∀ d ∈ tables_1, d.before a0 Z = true) (ws : List Jvm.Cond) (a : Addr) (d : UInt64) (h0 : Heap) (n0 : Nat) (O0 : Old Z n0 h0) (u0 : Fld Z h0 a "java/lang/Double" "value" "D" (.double d)) :
    MetFree l (⟨"java/lang/Double", "doubleValue", "()D"⟩ : MethodName) (head1 (Jvm.Cond.code (⟨"java/lang/Double", "doubleValue", "()D"⟩ : MethodName) jdk_117_method_19_code 1 (some .double) :: ws) ({ frames := 0, cells := 0, slots := 0, locals := 0 } : Room)) (fun aV U => aV = #[(.ref a)] ∧ Z.Warmed39 U.vm ∧ U.heap = h0) (fun _ _ _ _ _ => True) (fun _ U o U' => ∃ v L, o = .returned v ∧ Q_dv Z a d h0 n0 v U'.heap L ∧ FrameEnd U o U' L ({ frames := 0, cells := 0, slots := 0, locals := 0 } : Room).cells ({ frames := 0, cells := 0, slots := 0, locals := 0 } : Room).slots) := by
  refine MetFree.of_bodySF (plainFor_of_name pn_3) hisR ?_
  intro pr_ en_ st_ me_ args below meth_ co_ s₁ Bd hml0 hP hK
  obtain ⟨rfl, hZ, hh⟩ := hP
  have hx := Bd.exec
  have hby := Bd.bytes
  have hml : co_.maxLocals = 1 := hml0
  have hown : st_.vm.findClass "java/lang/Double" = some me_.cls := findClass_of_methodNamed Bd.named
  have hnm := (name_of_methodNamed Bd.named Bd.method).1
  have X0 : Stand pr_ l en_ ({ frames := 0, cells := 0, slots := 0, locals := 0 } : Room) st_ me_ #[(.ref a)] below meth_ co_ s₁ [] 0 0 := Stand.of_body Bd
  have e0 : s₁.heap = h0 := by rw [← hh, Bd.state]; rfl
  have N0 := Fr.nil n0
  have K0 := Keep.refl h0 []
  obtain ⟨G, gv, gf, gb⟩ := own_G pr_.tables en_ below st_ (Q_dv Z a d h0 n0) ({ frames := 0, cells := 0, slots := 0, locals := 0 } : Room).cells ({ frames := 0, cells := 0, slots := 0, locals := 0 } : Room).slots
  show own_Fin pr_.tables en_ below st_ (Q_dv Z a d h0 n0) ({ frames := 0, cells := 0, slots := 0, locals := 0 } : Room).cells ({ frames := 0, cells := 0, slots := 0, locals := 0 } : Room).slots (s₁.setTop (entryFrame me_ #[(.ref a)] 1))
  refine gb _ (gv (fun tQ kQ => castTop (ef_0 me_ a) kQ) ?_)
  show G (s₁.setTop (mkF me_ 0 #[.val (.ref a)] []))
  refine gv (fun tQ kQ => XS.aloadN X0.here hx rfl (hb hby d17_0) rfl rfl kQ) ?_
  show G (s₁.setTop (mkF me_ 1 #[.val (.ref a)] [(.ref a)]))
  obtain ⟨T424, X424, e424, st424⟩ := getF X0 hx hZ hown (host := "") (Or.inl (hw _ (List.mem_of_getElem? (i := 48) rfl))) Via.refl e0 u0 (g := (mkF me_ 1 #[.val (.ref a)] [(.ref a)])) rfl rfl (hb hby d17_1)
  refine gv st424 ?_
  show G (T424.setTop (mkF me_ 4 #[.val (.ref a)] [(.double d)]))
  refine gf _ (own_ret X424 Bd.notSynchronized (v := some (.double d)) (fun h => by rw [Bd.returns] at h; cases h) ?_ (by decide) (by decide) (fun fs hr => retOut X424 hx (t := .double) Bd.returns rfl (Or.inr (Or.inr (Or.inl ⟨rfl, rfl, _, rfl⟩))) (hb hby d17_4) hr))
  show Q_dv Z a d h0 n0 _ T424.heap _
  rw [e424]
  exact ⟨rfl, N0, rfl⟩
theorem ef_8 (m : MethodId) (x0 : Int32) (x1 : Int32) (x2 : Int32) (x3 : Int32) (x4 : Int32) (x5 : Int32)  : entryFrame m #[(.int x0), (.int x1), (.int x2), (.int x3), (.int x4), (.int x5)] maxLocals = mkF m 0 #[.val (.int x0), .val (.int x1), .val (.int x2), .val (.int x3), .val (.int x4), .val (.int x5), .unset, .unset, .unset, .unset, .unset, .unset, .unset, .unset, .unset, .unset, .unset, .unset, .unset, .unset, .unset, .unset, .unset, .unset, .unset, .unset, .unset, .unset, .unset, .unset, .unset, .unset] [] := by first | (simp [entryFrame, mkF, argsToLocals, Value.category, maxLocals]; done) | rfl
theorem pn_11 : plainName "com/example/mehr/mehr/MeasuresValuesPinLaw" = true := by first | (simp [plainName, overriddenIn]; done) | decide +kernel
theorem pd_7 : parseMethodDescriptor "(DDDDDD)V" = some ⟨[.double, .double, .double, .double, .double, .double], none⟩ := by decide +kernel
theorem pd_8 : parseMethodDescriptor "()Ljava/util/List;" = some ⟨[], some (.object "java/util/List")⟩ := by decide +kernel
theorem pd_9 : parseMethodDescriptor "()I" = some ⟨[], some .int⟩ := by decide +kernel
theorem pd_10 : parseMethodDescriptor "(I)Ljava/lang/Object;" = some ⟨[.int], some (.object "java/lang/Object")⟩ := by decide +kernel
theorem pd_11 : parseMethodDescriptor "()D" = some ⟨[], some .double⟩ := by decide +kernel
def Q0 (Z : State) (p0 : Int32) (p1 : Int32) (p2 : Int32) (p3 : Int32) (p4 : Int32) (p5 : Int32) (h0 : Heap) (n0 : Nat) (v : Option Value) (h : Heap) (L : List Loc) : Prop := v = some (.int (1 : Int32)) ∧ Fr n0 L
set_option maxRecDepth 65536 in
set_option maxHeartbeats 40000000 in
theorem rm0 (l : Launch) (Z : State) (a0 : Array Value) (hw : ∀ d ∈ tables_1, d.before a0 Z = true) (ws : List Jvm.Cond) (p0 : Int32) (p1 : Int32) (p2 : Int32) (p3 : Int32) (p4 : Int32) (p5 : Int32) (h0 : Heap) (n0 : Nat) (O0 : Old Z n0 h0) (u0 : Sta Z Z.heap "java/util/ImmutableCollections" "$assertionsDisabled" "Z" (.int (1 : Int32))) :
    MetFree l x (head1 (Jvm.Cond.code x code maxLocals ret :: ws) room_1) (fun aV U => aV = #[(.int p0), (.int p1), (.int p2), (.int p3), (.int p4), (.int p5)] ∧ Z.Warmed39 U.vm ∧ U.heap = h0) (fun _ _ _ _ _ => True) (fun _ U o U' => ∃ v L, o = .returned v ∧ Q0 Z p0 p1 p2 p3 p4 p5 h0 n0 v U'.heap L ∧ FrameEnd U o U' L room_1.cells room_1.slots) := by
  refine MetFree.of_bodySF (plainFor_of_name pn_11) hisR ?_
  intro pr_ en_ st_ me_ args below meth_ co_ s₁ Bd hml0 hP hK
  obtain ⟨rfl, hZ, hh⟩ := hP
  have hx := Bd.exec
  have hby := Bd.bytes
  have hml : co_.maxLocals = 32 := hml0
  have hown : st_.vm.findClass "com/example/mehr/mehr/MeasuresValuesPinLaw" = some me_.cls := findClass_of_methodNamed Bd.named
  have hnm := (name_of_methodNamed Bd.named Bd.method).1
  have X0 : Stand pr_ l en_ room_1 st_ me_ #[(.int p0), (.int p1), (.int p2), (.int p3), (.int p4), (.int p5)] below meth_ co_ s₁ [] 0 0 := Stand.of_body Bd
  have e0 : s₁.heap = h0 := by rw [← hh, Bd.state]; rfl
  have N0 := Fr.nil n0
  have K0 := Keep.refl h0 []
  obtain ⟨G, gv, gf, gb⟩ := own_G pr_.tables en_ below st_ (Q0 Z p0 p1 p2 p3 p4 p5 h0 n0) room_1.cells room_1.slots
  show own_Fin pr_.tables en_ below st_ (Q0 Z p0 p1 p2 p3 p4 p5 h0 n0) room_1.cells room_1.slots (s₁.setTop (entryFrame me_ #[(.int p0), (.int p1), (.int p2), (.int p3), (.int p4), (.int p5)] maxLocals))
  refine gb _ (gv (fun tQ kQ => castTop (ef_8 me_ p0 p1 p2 p3 p4 p5) kQ) ?_)
  show G (s₁.setTop (mkF me_ 0 #[.val (.int p0), .val (.int p1), .val (.int p2), .val (.int p3), .val (.int p4), .val (.int p5), .unset, .unset, .unset, .unset, .unset, .unset, .unset, .unset, .unset, .unset, .unset, .unset, .unset, .unset, .unset, .unset, .unset, .unset, .unset, .unset, .unset, .unset, .unset, .unset, .unset, .unset] []))
  refine gv (fun tQ kQ => XS.iloadN X0.here hx rfl (hb hby at_0) rfl kQ) ?_
  show G (s₁.setTop (mkF me_ 1 #[.val (.int p0), .val (.int p1), .val (.int p2), .val (.int p3), .val (.int p4), .val (.int p5), .unset, .unset, .unset, .unset, .unset, .unset, .unset, .unset, .unset, .unset, .unset, .unset, .unset, .unset, .unset, .unset, .unset, .unset, .unset, .unset, .unset, .unset, .unset, .unset, .unset, .unset] [(.int p0)]))
  refine gv (fun tQ kQ => XS.i2dS X0.here hx rfl (hb hby at_1) rfl rfl kQ) ?_
  show G (s₁.setTop (mkF me_ 2 #[.val (.int p0), .val (.int p1), .val (.int p2), .val (.int p3), .val (.int p4), .val (.int p5), .unset, .unset, .unset, .unset, .unset, .unset, .unset, .unset, .unset, .unset, .unset, .unset, .unset, .unset, .unset, .unset, .unset, .unset, .unset, .unset, .unset, .unset, .unset, .unset, .unset, .unset] [(.double (FP.i2d p0))]))
  refine gv (fun tQ kQ => XS.dstore X0.here hx rfl (hb hby at_2) rfl (l' := #[.val (.int p0), .val (.int p1), .val (.int p2), .val (.int p3), .val (.int p4), .val (.int p5), .val (.double (FP.i2d p0)), .second, .unset, .unset, .unset, .unset, .unset, .unset, .unset, .unset, .unset, .unset, .unset, .unset, .unset, .unset, .unset, .unset, .unset, .unset, .unset, .unset, .unset, .unset, .unset, .unset]) rfl kQ) ?_
  show G (s₁.setTop (mkF me_ 4 #[.val (.int p0), .val (.int p1), .val (.int p2), .val (.int p3), .val (.int p4), .val (.int p5), .val (.double (FP.i2d p0)), .second, .unset, .unset, .unset, .unset, .unset, .unset, .unset, .unset, .unset, .unset, .unset, .unset, .unset, .unset, .unset, .unset, .unset, .unset, .unset, .unset, .unset, .unset, .unset, .unset] []))
  refine gv (fun tQ kQ => XS.iloadN X0.here hx rfl (hb hby at_4) rfl kQ) ?_
  show G (s₁.setTop (mkF me_ 5 #[.val (.int p0), .val (.int p1), .val (.int p2), .val (.int p3), .val (.int p4), .val (.int p5), .val (.double (FP.i2d p0)), .second, .unset, .unset, .unset, .unset, .unset, .unset, .unset, .unset, .unset, .unset, .unset, .unset, .unset, .unset, .unset, .unset, .unset, .unset, .unset, .unset, .unset, .unset, .unset, .unset] [(.int p1)]))
  refine gv (fun tQ kQ => XS.i2dS X0.here hx rfl (hb hby at_5) rfl rfl kQ) ?_
  show G (s₁.setTop (mkF me_ 6 #[.val (.int p0), .val (.int p1), .val (.int p2), .val (.int p3), .val (.int p4), .val (.int p5), .val (.double (FP.i2d p0)), .second, .unset, .unset, .unset, .unset, .unset, .unset, .unset, .unset, .unset, .unset, .unset, .unset, .unset, .unset, .unset, .unset, .unset, .unset, .unset, .unset, .unset, .unset, .unset, .unset] [(.double (FP.i2d p1))]))
  refine gv (fun tQ kQ => XS.dstore X0.here hx rfl (hb hby at_6) rfl (l' := #[.val (.int p0), .val (.int p1), .val (.int p2), .val (.int p3), .val (.int p4), .val (.int p5), .val (.double (FP.i2d p0)), .second, .val (.double (FP.i2d p1)), .second, .unset, .unset, .unset, .unset, .unset, .unset, .unset, .unset, .unset, .unset, .unset, .unset, .unset, .unset, .unset, .unset, .unset, .unset, .unset, .unset, .unset, .unset]) rfl kQ) ?_
  show G (s₁.setTop (mkF me_ 8 #[.val (.int p0), .val (.int p1), .val (.int p2), .val (.int p3), .val (.int p4), .val (.int p5), .val (.double (FP.i2d p0)), .second, .val (.double (FP.i2d p1)), .second, .unset, .unset, .unset, .unset, .unset, .unset, .unset, .unset, .unset, .unset, .unset, .unset, .unset, .unset, .unset, .unset, .unset, .unset, .unset, .unset, .unset, .unset] []))
  refine gv (fun tQ kQ => XS.iloadN X0.here hx rfl (hb hby at_8) rfl kQ) ?_
  show G (s₁.setTop (mkF me_ 9 #[.val (.int p0), .val (.int p1), .val (.int p2), .val (.int p3), .val (.int p4), .val (.int p5), .val (.double (FP.i2d p0)), .second, .val (.double (FP.i2d p1)), .second, .unset, .unset, .unset, .unset, .unset, .unset, .unset, .unset, .unset, .unset, .unset, .unset, .unset, .unset, .unset, .unset, .unset, .unset, .unset, .unset, .unset, .unset] [(.int p2)]))
  refine gv (fun tQ kQ => XS.i2dS X0.here hx rfl (hb hby at_9) rfl rfl kQ) ?_
  show G (s₁.setTop (mkF me_ 10 #[.val (.int p0), .val (.int p1), .val (.int p2), .val (.int p3), .val (.int p4), .val (.int p5), .val (.double (FP.i2d p0)), .second, .val (.double (FP.i2d p1)), .second, .unset, .unset, .unset, .unset, .unset, .unset, .unset, .unset, .unset, .unset, .unset, .unset, .unset, .unset, .unset, .unset, .unset, .unset, .unset, .unset, .unset, .unset] [(.double (FP.i2d p2))]))
  refine gv (fun tQ kQ => XS.dstore X0.here hx rfl (hb hby at_10) rfl (l' := #[.val (.int p0), .val (.int p1), .val (.int p2), .val (.int p3), .val (.int p4), .val (.int p5), .val (.double (FP.i2d p0)), .second, .val (.double (FP.i2d p1)), .second, .val (.double (FP.i2d p2)), .second, .unset, .unset, .unset, .unset, .unset, .unset, .unset, .unset, .unset, .unset, .unset, .unset, .unset, .unset, .unset, .unset, .unset, .unset, .unset, .unset]) rfl kQ) ?_
  show G (s₁.setTop (mkF me_ 12 #[.val (.int p0), .val (.int p1), .val (.int p2), .val (.int p3), .val (.int p4), .val (.int p5), .val (.double (FP.i2d p0)), .second, .val (.double (FP.i2d p1)), .second, .val (.double (FP.i2d p2)), .second, .unset, .unset, .unset, .unset, .unset, .unset, .unset, .unset, .unset, .unset, .unset, .unset, .unset, .unset, .unset, .unset, .unset, .unset, .unset, .unset] []))
  refine gv (fun tQ kQ => XS.iloadN X0.here hx rfl (hb hby at_12) rfl kQ) ?_
  show G (s₁.setTop (mkF me_ 13 #[.val (.int p0), .val (.int p1), .val (.int p2), .val (.int p3), .val (.int p4), .val (.int p5), .val (.double (FP.i2d p0)), .second, .val (.double (FP.i2d p1)), .second, .val (.double (FP.i2d p2)), .second, .unset, .unset, .unset, .unset, .unset, .unset, .unset, .unset, .unset, .unset, .unset, .unset, .unset, .unset, .unset, .unset, .unset, .unset, .unset, .unset] [(.int p3)]))
  refine gv (fun tQ kQ => XS.i2dS X0.here hx rfl (hb hby at_13) rfl rfl kQ) ?_
  show G (s₁.setTop (mkF me_ 14 #[.val (.int p0), .val (.int p1), .val (.int p2), .val (.int p3), .val (.int p4), .val (.int p5), .val (.double (FP.i2d p0)), .second, .val (.double (FP.i2d p1)), .second, .val (.double (FP.i2d p2)), .second, .unset, .unset, .unset, .unset, .unset, .unset, .unset, .unset, .unset, .unset, .unset, .unset, .unset, .unset, .unset, .unset, .unset, .unset, .unset, .unset] [(.double (FP.i2d p3))]))
  refine gv (fun tQ kQ => XS.dstore X0.here hx rfl (hb hby at_14) rfl (l' := #[.val (.int p0), .val (.int p1), .val (.int p2), .val (.int p3), .val (.int p4), .val (.int p5), .val (.double (FP.i2d p0)), .second, .val (.double (FP.i2d p1)), .second, .val (.double (FP.i2d p2)), .second, .val (.double (FP.i2d p3)), .second, .unset, .unset, .unset, .unset, .unset, .unset, .unset, .unset, .unset, .unset, .unset, .unset, .unset, .unset, .unset, .unset, .unset, .unset]) rfl kQ) ?_
  show G (s₁.setTop (mkF me_ 16 #[.val (.int p0), .val (.int p1), .val (.int p2), .val (.int p3), .val (.int p4), .val (.int p5), .val (.double (FP.i2d p0)), .second, .val (.double (FP.i2d p1)), .second, .val (.double (FP.i2d p2)), .second, .val (.double (FP.i2d p3)), .second, .unset, .unset, .unset, .unset, .unset, .unset, .unset, .unset, .unset, .unset, .unset, .unset, .unset, .unset, .unset, .unset, .unset, .unset] []))
  refine gv (fun tQ kQ => XS.iload X0.here hx rfl (hb hby at_16) rfl kQ) ?_
  show G (s₁.setTop (mkF me_ 18 #[.val (.int p0), .val (.int p1), .val (.int p2), .val (.int p3), .val (.int p4), .val (.int p5), .val (.double (FP.i2d p0)), .second, .val (.double (FP.i2d p1)), .second, .val (.double (FP.i2d p2)), .second, .val (.double (FP.i2d p3)), .second, .unset, .unset, .unset, .unset, .unset, .unset, .unset, .unset, .unset, .unset, .unset, .unset, .unset, .unset, .unset, .unset, .unset, .unset] [(.int p4)]))
  refine gv (fun tQ kQ => XS.i2dS X0.here hx rfl (hb hby at_18) rfl rfl kQ) ?_
  show G (s₁.setTop (mkF me_ 19 #[.val (.int p0), .val (.int p1), .val (.int p2), .val (.int p3), .val (.int p4), .val (.int p5), .val (.double (FP.i2d p0)), .second, .val (.double (FP.i2d p1)), .second, .val (.double (FP.i2d p2)), .second, .val (.double (FP.i2d p3)), .second, .unset, .unset, .unset, .unset, .unset, .unset, .unset, .unset, .unset, .unset, .unset, .unset, .unset, .unset, .unset, .unset, .unset, .unset] [(.double (FP.i2d p4))]))
  refine gv (fun tQ kQ => XS.dstore X0.here hx rfl (hb hby at_19) rfl (l' := #[.val (.int p0), .val (.int p1), .val (.int p2), .val (.int p3), .val (.int p4), .val (.int p5), .val (.double (FP.i2d p0)), .second, .val (.double (FP.i2d p1)), .second, .val (.double (FP.i2d p2)), .second, .val (.double (FP.i2d p3)), .second, .val (.double (FP.i2d p4)), .second, .unset, .unset, .unset, .unset, .unset, .unset, .unset, .unset, .unset, .unset, .unset, .unset, .unset, .unset, .unset, .unset]) rfl kQ) ?_
  show G (s₁.setTop (mkF me_ 21 #[.val (.int p0), .val (.int p1), .val (.int p2), .val (.int p3), .val (.int p4), .val (.int p5), .val (.double (FP.i2d p0)), .second, .val (.double (FP.i2d p1)), .second, .val (.double (FP.i2d p2)), .second, .val (.double (FP.i2d p3)), .second, .val (.double (FP.i2d p4)), .second, .unset, .unset, .unset, .unset, .unset, .unset, .unset, .unset, .unset, .unset, .unset, .unset, .unset, .unset, .unset, .unset] []))
  refine gv (fun tQ kQ => XS.iload X0.here hx rfl (hb hby at_21) rfl kQ) ?_
  show G (s₁.setTop (mkF me_ 23 #[.val (.int p0), .val (.int p1), .val (.int p2), .val (.int p3), .val (.int p4), .val (.int p5), .val (.double (FP.i2d p0)), .second, .val (.double (FP.i2d p1)), .second, .val (.double (FP.i2d p2)), .second, .val (.double (FP.i2d p3)), .second, .val (.double (FP.i2d p4)), .second, .unset, .unset, .unset, .unset, .unset, .unset, .unset, .unset, .unset, .unset, .unset, .unset, .unset, .unset, .unset, .unset] [(.int p5)]))
  refine gv (fun tQ kQ => XS.i2dS X0.here hx rfl (hb hby at_23) rfl rfl kQ) ?_
  show G (s₁.setTop (mkF me_ 24 #[.val (.int p0), .val (.int p1), .val (.int p2), .val (.int p3), .val (.int p4), .val (.int p5), .val (.double (FP.i2d p0)), .second, .val (.double (FP.i2d p1)), .second, .val (.double (FP.i2d p2)), .second, .val (.double (FP.i2d p3)), .second, .val (.double (FP.i2d p4)), .second, .unset, .unset, .unset, .unset, .unset, .unset, .unset, .unset, .unset, .unset, .unset, .unset, .unset, .unset, .unset, .unset] [(.double (FP.i2d p5))]))
  refine gv (fun tQ kQ => XS.dstore X0.here hx rfl (hb hby at_24) rfl (l' := #[.val (.int p0), .val (.int p1), .val (.int p2), .val (.int p3), .val (.int p4), .val (.int p5), .val (.double (FP.i2d p0)), .second, .val (.double (FP.i2d p1)), .second, .val (.double (FP.i2d p2)), .second, .val (.double (FP.i2d p3)), .second, .val (.double (FP.i2d p4)), .second, .val (.double (FP.i2d p5)), .second, .unset, .unset, .unset, .unset, .unset, .unset, .unset, .unset, .unset, .unset, .unset, .unset, .unset, .unset]) rfl kQ) ?_
  show G (s₁.setTop (mkF me_ 26 #[.val (.int p0), .val (.int p1), .val (.int p2), .val (.int p3), .val (.int p4), .val (.int p5), .val (.double (FP.i2d p0)), .second, .val (.double (FP.i2d p1)), .second, .val (.double (FP.i2d p2)), .second, .val (.double (FP.i2d p3)), .second, .val (.double (FP.i2d p4)), .second, .val (.double (FP.i2d p5)), .second, .unset, .unset, .unset, .unset, .unset, .unset, .unset, .unset, .unset, .unset, .unset, .unset, .unset, .unset] []))
  obtain ⟨T425, h425, X425, e425, E425, A425, D425, -, st425⟩ := newO X0 hx hZ hown (hw _ (List.mem_of_getElem? (i := 0) rfl)) (hw _ (List.mem_of_getElem? (i := 1) rfl)) (hw _ (List.mem_of_getElem? (i := 2) rfl)) e0 (g := (mkF me_ 26 #[.val (.int p0), .val (.int p1), .val (.int p2), .val (.int p3), .val (.int p4), .val (.int p5), .val (.double (FP.i2d p0)), .second, .val (.double (FP.i2d p1)), .second, .val (.double (FP.i2d p2)), .second, .val (.double (FP.i2d p3)), .second, .val (.double (FP.i2d p4)), .second, .val (.double (FP.i2d p5)), .second, .unset, .unset, .unset, .unset, .unset, .unset, .unset, .unset, .unset, .unset, .unset, .unset, .unset, .unset] [])) rfl (hb hby at_26) (by decide) (by decide)
  obtain ⟨b425, g425⟩ : ∃ z, z = h0.size := ⟨_, rfl⟩
  rw [← g425] at A425 D425 st425
  refine gv st425 ?_
  have g426 : n0 ≤ b425 := Nat.le_trans (own_old O0) (Nat.le_of_eq g425.symm)
  have O428 := O0.ext E425
  have f429 : Fld Z h425 b425 "com/example/mehr/mehr/Measures" "p1" "D" (.double 0) := D425 (Or.inr (hw _ (List.mem_of_getElem? (i := 15) rfl))) (ty := .double) (by decide)
  have f430 : Fld Z h425 b425 "com/example/mehr/mehr/Measures" "p2" "D" (.double 0) := D425 (Or.inr (hw _ (List.mem_of_getElem? (i := 17) rfl))) (ty := .double) (by decide)
  have f431 : Fld Z h425 b425 "com/example/mehr/mehr/Measures" "p5" "D" (.double 0) := D425 (Or.inr (hw _ (List.mem_of_getElem? (i := 19) rfl))) (ty := .double) (by decide)
  have f432 : Fld Z h425 b425 "com/example/mehr/mehr/Measures" "p10" "D" (.double 0) := D425 (Or.inr (hw _ (List.mem_of_getElem? (i := 21) rfl))) (ty := .double) (by decide)
  have f433 : Fld Z h425 b425 "com/example/mehr/mehr/Measures" "ndcg10" "D" (.double 0) := D425 (Or.inr (hw _ (List.mem_of_getElem? (i := 23) rfl))) (ty := .double) (by decide)
  have f434 : Fld Z h425 b425 "com/example/mehr/mehr/Measures" "rr" "D" (.double 0) := D425 (Or.inr (hw _ (List.mem_of_getElem? (i := 25) rfl))) (ty := .double) (by decide)
  show G (T425.setTop (mkF me_ 29 #[.val (.int p0), .val (.int p1), .val (.int p2), .val (.int p3), .val (.int p4), .val (.int p5), .val (.double (FP.i2d p0)), .second, .val (.double (FP.i2d p1)), .second, .val (.double (FP.i2d p2)), .second, .val (.double (FP.i2d p3)), .second, .val (.double (FP.i2d p4)), .second, .val (.double (FP.i2d p5)), .second, .unset, .unset, .unset, .unset, .unset, .unset, .unset, .unset, .unset, .unset, .unset, .unset, .unset, .unset] [(.ref b425)]))
  refine gv (fun tQ kQ => XS.dup X425.here hx rfl (hb hby at_29) rfl rfl kQ) ?_
  show G (T425.setTop (mkF me_ 30 #[.val (.int p0), .val (.int p1), .val (.int p2), .val (.int p3), .val (.int p4), .val (.int p5), .val (.double (FP.i2d p0)), .second, .val (.double (FP.i2d p1)), .second, .val (.double (FP.i2d p2)), .second, .val (.double (FP.i2d p3)), .second, .val (.double (FP.i2d p4)), .second, .val (.double (FP.i2d p5)), .second, .unset, .unset, .unset, .unset, .unset, .unset, .unset, .unset, .unset, .unset, .unset, .unset, .unset, .unset] [(.ref b425), (.ref b425)]))
  refine gv (fun tQ kQ => XS.dload X425.here hx rfl (hb hby at_30) rfl kQ) ?_
  show G (T425.setTop (mkF me_ 32 #[.val (.int p0), .val (.int p1), .val (.int p2), .val (.int p3), .val (.int p4), .val (.int p5), .val (.double (FP.i2d p0)), .second, .val (.double (FP.i2d p1)), .second, .val (.double (FP.i2d p2)), .second, .val (.double (FP.i2d p3)), .second, .val (.double (FP.i2d p4)), .second, .val (.double (FP.i2d p5)), .second, .unset, .unset, .unset, .unset, .unset, .unset, .unset, .unset, .unset, .unset, .unset, .unset, .unset, .unset] [(.double (FP.i2d p0)), (.ref b425), (.ref b425)]))
  refine gv (fun tQ kQ => XS.dload X425.here hx rfl (hb hby at_32) rfl kQ) ?_
  show G (T425.setTop (mkF me_ 34 #[.val (.int p0), .val (.int p1), .val (.int p2), .val (.int p3), .val (.int p4), .val (.int p5), .val (.double (FP.i2d p0)), .second, .val (.double (FP.i2d p1)), .second, .val (.double (FP.i2d p2)), .second, .val (.double (FP.i2d p3)), .second, .val (.double (FP.i2d p4)), .second, .val (.double (FP.i2d p5)), .second, .unset, .unset, .unset, .unset, .unset, .unset, .unset, .unset, .unset, .unset, .unset, .unset, .unset, .unset] [(.double (FP.i2d p1)), (.double (FP.i2d p0)), (.ref b425), (.ref b425)]))
  refine gv (fun tQ kQ => XS.dload X425.here hx rfl (hb hby at_34) rfl kQ) ?_
  show G (T425.setTop (mkF me_ 36 #[.val (.int p0), .val (.int p1), .val (.int p2), .val (.int p3), .val (.int p4), .val (.int p5), .val (.double (FP.i2d p0)), .second, .val (.double (FP.i2d p1)), .second, .val (.double (FP.i2d p2)), .second, .val (.double (FP.i2d p3)), .second, .val (.double (FP.i2d p4)), .second, .val (.double (FP.i2d p5)), .second, .unset, .unset, .unset, .unset, .unset, .unset, .unset, .unset, .unset, .unset, .unset, .unset, .unset, .unset] [(.double (FP.i2d p2)), (.double (FP.i2d p1)), (.double (FP.i2d p0)), (.ref b425), (.ref b425)]))
  refine gv (fun tQ kQ => XS.dload X425.here hx rfl (hb hby at_36) rfl kQ) ?_
  show G (T425.setTop (mkF me_ 38 #[.val (.int p0), .val (.int p1), .val (.int p2), .val (.int p3), .val (.int p4), .val (.int p5), .val (.double (FP.i2d p0)), .second, .val (.double (FP.i2d p1)), .second, .val (.double (FP.i2d p2)), .second, .val (.double (FP.i2d p3)), .second, .val (.double (FP.i2d p4)), .second, .val (.double (FP.i2d p5)), .second, .unset, .unset, .unset, .unset, .unset, .unset, .unset, .unset, .unset, .unset, .unset, .unset, .unset, .unset] [(.double (FP.i2d p3)), (.double (FP.i2d p2)), (.double (FP.i2d p1)), (.double (FP.i2d p0)), (.ref b425), (.ref b425)]))
  refine gv (fun tQ kQ => XS.dload X425.here hx rfl (hb hby at_38) rfl kQ) ?_
  show G (T425.setTop (mkF me_ 40 #[.val (.int p0), .val (.int p1), .val (.int p2), .val (.int p3), .val (.int p4), .val (.int p5), .val (.double (FP.i2d p0)), .second, .val (.double (FP.i2d p1)), .second, .val (.double (FP.i2d p2)), .second, .val (.double (FP.i2d p3)), .second, .val (.double (FP.i2d p4)), .second, .val (.double (FP.i2d p5)), .second, .unset, .unset, .unset, .unset, .unset, .unset, .unset, .unset, .unset, .unset, .unset, .unset, .unset, .unset] [(.double (FP.i2d p4)), (.double (FP.i2d p3)), (.double (FP.i2d p2)), (.double (FP.i2d p1)), (.double (FP.i2d p0)), (.ref b425), (.ref b425)]))
  refine gv (fun tQ kQ => XS.dload X425.here hx rfl (hb hby at_40) rfl kQ) ?_
  show G (T425.setTop (mkF me_ 42 #[.val (.int p0), .val (.int p1), .val (.int p2), .val (.int p3), .val (.int p4), .val (.int p5), .val (.double (FP.i2d p0)), .second, .val (.double (FP.i2d p1)), .second, .val (.double (FP.i2d p2)), .second, .val (.double (FP.i2d p3)), .second, .val (.double (FP.i2d p4)), .second, .val (.double (FP.i2d p5)), .second, .unset, .unset, .unset, .unset, .unset, .unset, .unset, .unset, .unset, .unset, .unset, .unset, .unset, .unset] [(.double (FP.i2d p5)), (.double (FP.i2d p4)), (.double (FP.i2d p3)), (.double (FP.i2d p2)), (.double (FP.i2d p1)), (.double (FP.i2d p0)), (.ref b425), (.ref b425)]))
  obtain ⟨_, _, ⟨T435, L435, k435, n435⟩, -, X435, ⟨Lc435, hQ435, l435, y435, z435⟩, st435⟩ := X425.specialBack hx (y := (⟨"com/example/mehr/mehr/Measures", "<init>", "(DDDDDD)V"⟩ : MethodName)) rfl hown (mvT hZ (hw _ (List.mem_of_getElem? (i := 3) rfl))) (mvT hZ (hw _ (List.mem_of_getElem? (i := 4) rfl))) (mvT hZ (hw _ (List.mem_of_getElem? (i := 5) rfl))) (by decide) (backOf (W := 1) (rm_mi l Z a0 hw [] b425 (FP.i2d p0) (FP.i2d p1) (FP.i2d p2) (FP.i2d p3) (FP.i2d p4) (FP.i2d p5) h425 n0 O428 A425 f429 f430 f431 f432 f433 f434 g426) hZ (hw _ (List.mem_of_getElem? (i := 5) rfl)) (hw _ (List.mem_of_getElem? (i := 2) rfl)) (by decide) (by decide)) (g := (mkF me_ 42 #[.val (.int p0), .val (.int p1), .val (.int p2), .val (.int p3), .val (.int p4), .val (.int p5), .val (.double (FP.i2d p0)), .second, .val (.double (FP.i2d p1)), .second, .val (.double (FP.i2d p2)), .second, .val (.double (FP.i2d p3)), .second, .val (.double (FP.i2d p4)), .second, .val (.double (FP.i2d p5)), .second, .unset, .unset, .unset, .unset, .unset, .unset, .unset, .unset, .unset, .unset, .unset, .unset, .unset, .unset] [(.double (FP.i2d p5)), (.double (FP.i2d p4)), (.double (FP.i2d p3)), (.double (FP.i2d p2)), (.double (FP.i2d p1)), (.double (FP.i2d p0)), (.ref b425), (.ref b425)])) rfl (by rw [hml]; rfl) (Steps.refl _) (a := b425) (argsL := [(.double (FP.i2d p0)), (.double (FP.i2d p1)), (.double (FP.i2d p2)), (.double (FP.i2d p3)), (.double (FP.i2d p4)), (.double (FP.i2d p5))]) (rest := [(.ref b425)]) (lenOf pd_7 rfl) rfl (by show 2 * 0 + _ ≤ _; exact Nat.le_of_eq rfl) (hb hby at_42) (fun _ _ => ⟨rfl, e425, (by decide : 1 + 0 ≤ _), (by decide : 6 + 0 ≤ _)⟩)
  dsimp only [Pt.U, Pt.locs, Pt.cells, Pt.slots] at X435 l435 y435 z435 st435 hQ435
  subst l435 y435 z435
  obtain ⟨rfl, Nq435, Kq435, w435_0, w435_1, w435_2, w435_3, w435_4, w435_5, w435_6⟩ := hQ435
  have N436 := Fr.app N0 Nq435
  obtain ⟨h435, e435⟩ : ∃ z, T435.heap = z := ⟨_, rfl⟩
  rw [e435] at Kq435 w435_0 w435_1 w435_2 w435_3 w435_4 w435_5 w435_6
  have f437 : Exa Z h435 b425 "com/example/mehr/mehr/Measures" := A425.keep Kq435
  have O438 := O428.keep Kq435 (allS g426 all0)
  refine gv (fun tQ kQ => st435.trans kQ) ?_
  show G (T435.setTop (mkF me_ 45 #[.val (.int p0), .val (.int p1), .val (.int p2), .val (.int p3), .val (.int p4), .val (.int p5), .val (.double (FP.i2d p0)), .second, .val (.double (FP.i2d p1)), .second, .val (.double (FP.i2d p2)), .second, .val (.double (FP.i2d p3)), .second, .val (.double (FP.i2d p4)), .second, .val (.double (FP.i2d p5)), .second, .unset, .unset, .unset, .unset, .unset, .unset, .unset, .unset, .unset, .unset, .unset, .unset, .unset, .unset] [(.ref b425)]))
  refine gv (fun tQ kQ => XS.astore X435.here hx rfl (hb hby at_45) rfl rfl (l' := #[.val (.int p0), .val (.int p1), .val (.int p2), .val (.int p3), .val (.int p4), .val (.int p5), .val (.double (FP.i2d p0)), .second, .val (.double (FP.i2d p1)), .second, .val (.double (FP.i2d p2)), .second, .val (.double (FP.i2d p3)), .second, .val (.double (FP.i2d p4)), .second, .val (.double (FP.i2d p5)), .second, .val (.ref b425), .unset, .unset, .unset, .unset, .unset, .unset, .unset, .unset, .unset, .unset, .unset, .unset, .unset]) rfl kQ) ?_
  show G (T435.setTop (mkF me_ 47 #[.val (.int p0), .val (.int p1), .val (.int p2), .val (.int p3), .val (.int p4), .val (.int p5), .val (.double (FP.i2d p0)), .second, .val (.double (FP.i2d p1)), .second, .val (.double (FP.i2d p2)), .second, .val (.double (FP.i2d p3)), .second, .val (.double (FP.i2d p4)), .second, .val (.double (FP.i2d p5)), .second, .val (.ref b425), .unset, .unset, .unset, .unset, .unset, .unset, .unset, .unset, .unset, .unset, .unset, .unset, .unset] []))
  refine gv (fun tQ kQ => XS.aload X435.here hx rfl (hb hby at_47) rfl rfl kQ) ?_
  show G (T435.setTop (mkF me_ 49 #[.val (.int p0), .val (.int p1), .val (.int p2), .val (.int p3), .val (.int p4), .val (.int p5), .val (.double (FP.i2d p0)), .second, .val (.double (FP.i2d p1)), .second, .val (.double (FP.i2d p2)), .second, .val (.double (FP.i2d p3)), .second, .val (.double (FP.i2d p4)), .second, .val (.double (FP.i2d p5)), .second, .val (.ref b425), .unset, .unset, .unset, .unset, .unset, .unset, .unset, .unset, .unset, .unset, .unset, .unset, .unset] [(.ref b425)]))
  obtain ⟨cq439, kq439, q439a, q439b, q439c⟩ := isOf hZ e435 w435_0
  obtain ⟨_, _, ⟨T439, L439, k439, n439⟩, -, X439, ⟨Lc439, hQ439, l439, y439, z439⟩, st439⟩ := X435.virtualBack hx (y := (⟨"com/example/mehr/mehr/Measures", "values", "()Ljava/util/List;"⟩ : MethodName)) (z := (⟨"com/example/mehr/mehr/Measures", "values", "()Ljava/util/List;"⟩ : MethodName)) hown (mvT hZ (hw _ (List.mem_of_getElem? (i := 26) rfl))) (mvT hZ (hw _ (List.mem_of_getElem? (i := 27) rfl))) (notFace_of_selects (args := #[]) (mvT hZ (hw _ (List.mem_of_getElem? (i := 29) rfl)))) (mvT hZ (hw _ (List.mem_of_getElem? (i := 29) rfl))) (mvT hZ (hw _ (List.mem_of_getElem? (i := 28) rfl))) (by decide) (backOf (W := 0) (rm_val l Z a0 hw [] b425 (FP.i2d p0) (FP.i2d p1) (FP.i2d p2) (FP.i2d p3) (FP.i2d p4) (FP.i2d p5) h435 n0 O438 u0 w435_1 w435_2 w435_3 w435_4 w435_5 w435_6) hZ (hw _ (List.mem_of_getElem? (i := 30) rfl)) (hw _ (List.mem_of_getElem? (i := 2) rfl)) (by decide) (by decide)) q439a q439c (g := (mkF me_ 49 #[.val (.int p0), .val (.int p1), .val (.int p2), .val (.int p3), .val (.int p4), .val (.int p5), .val (.double (FP.i2d p0)), .second, .val (.double (FP.i2d p1)), .second, .val (.double (FP.i2d p2)), .second, .val (.double (FP.i2d p3)), .second, .val (.double (FP.i2d p4)), .second, .val (.double (FP.i2d p5)), .second, .val (.ref b425), .unset, .unset, .unset, .unset, .unset, .unset, .unset, .unset, .unset, .unset, .unset, .unset, .unset] [(.ref b425)])) rfl (by rw [hml]; rfl) (Steps.refl _) (argsL := []) (rest := []) (lenOf pd_8 rfl) rfl (by show 2 * 0 + _ ≤ _; exact Nat.le_of_eq rfl) (hb hby at_49) (fun _ _ => ⟨rfl, e435, (by decide : 1 + 8 ≤ _), (by decide : 6 + 14 ≤ _)⟩)
  dsimp only [Pt.U, Pt.locs, Pt.cells, Pt.slots] at X439 l439 y439 z439 st439 hQ439
  subst l439 y439 z439
  obtain ⟨x_439, b_439, k_439, r0_439, r1_439, r2_439, r3_439, r4_439, r5_439, rfl, Nq439, Kq439, w439_0, w439_1, w439_2, w439_3, w439_4, w439_5, w439_6, w439_7, w439_8, w439_9, w439_10, w439_11, w439_12, w439_13, w439_14, w439_15⟩ := hQ439
  have N440 := Fr.app N436 Nq439
  obtain ⟨h439, e439⟩ : ∃ z, T439.heap = z := ⟨_, rfl⟩
  rw [e439] at Kq439 w439_1 w439_2 w439_3 w439_4 w439_5 w439_6 w439_7 w439_8 w439_9 w439_10 w439_11 w439_12 w439_13 w439_14 w439_15
  have ne441 : b425 ≠ x_439 := Nat.ne_of_lt (Nat.lt_of_lt_of_le w435_0.lt w439_0)
  have g442 : n0 ≤ x_439 := Nat.le_trans (own_old O438) w439_0
  have f444 : Exa Z h439 b425 "com/example/mehr/mehr/Measures" := w435_0.keep Kq439
  have f445 : Fld Z h439 b425 "com/example/mehr/mehr/Measures" "p1" "D" (.double (FP.i2d p0)) := w435_1.keep Kq439 nin0
  have f446 : Fld Z h439 b425 "com/example/mehr/mehr/Measures" "p2" "D" (.double (FP.i2d p1)) := w435_2.keep Kq439 nin0
  have f447 : Fld Z h439 b425 "com/example/mehr/mehr/Measures" "p5" "D" (.double (FP.i2d p2)) := w435_3.keep Kq439 nin0
  have f448 : Fld Z h439 b425 "com/example/mehr/mehr/Measures" "p10" "D" (.double (FP.i2d p3)) := w435_4.keep Kq439 nin0
  have f449 : Fld Z h439 b425 "com/example/mehr/mehr/Measures" "ndcg10" "D" (.double (FP.i2d p4)) := w435_5.keep Kq439 nin0
  have f450 : Fld Z h439 b425 "com/example/mehr/mehr/Measures" "rr" "D" (.double (FP.i2d p5)) := w435_6.keep Kq439 nin0
  have O451 := O438.keep Kq439 all0
  refine gv (fun tQ kQ => st439.trans kQ) ?_
  show G (T439.setTop (mkF me_ 52 #[.val (.int p0), .val (.int p1), .val (.int p2), .val (.int p3), .val (.int p4), .val (.int p5), .val (.double (FP.i2d p0)), .second, .val (.double (FP.i2d p1)), .second, .val (.double (FP.i2d p2)), .second, .val (.double (FP.i2d p3)), .second, .val (.double (FP.i2d p4)), .second, .val (.double (FP.i2d p5)), .second, .val (.ref b425), .unset, .unset, .unset, .unset, .unset, .unset, .unset, .unset, .unset, .unset, .unset, .unset, .unset] [(.ref x_439)]))
  refine gv (fun tQ kQ => XS.astore X439.here hx rfl (hb hby at_52) rfl rfl (l' := #[.val (.int p0), .val (.int p1), .val (.int p2), .val (.int p3), .val (.int p4), .val (.int p5), .val (.double (FP.i2d p0)), .second, .val (.double (FP.i2d p1)), .second, .val (.double (FP.i2d p2)), .second, .val (.double (FP.i2d p3)), .second, .val (.double (FP.i2d p4)), .second, .val (.double (FP.i2d p5)), .second, .val (.ref b425), .val (.ref x_439), .unset, .unset, .unset, .unset, .unset, .unset, .unset, .unset, .unset, .unset, .unset, .unset]) rfl kQ) ?_
  show G (T439.setTop (mkF me_ 54 #[.val (.int p0), .val (.int p1), .val (.int p2), .val (.int p3), .val (.int p4), .val (.int p5), .val (.double (FP.i2d p0)), .second, .val (.double (FP.i2d p1)), .second, .val (.double (FP.i2d p2)), .second, .val (.double (FP.i2d p3)), .second, .val (.double (FP.i2d p4)), .second, .val (.double (FP.i2d p5)), .second, .val (.ref b425), .val (.ref x_439), .unset, .unset, .unset, .unset, .unset, .unset, .unset, .unset, .unset, .unset, .unset, .unset] []))
  refine gv (fun tQ kQ => XS.aload X439.here hx rfl (hb hby at_54) rfl rfl kQ) ?_
  show G (T439.setTop (mkF me_ 56 #[.val (.int p0), .val (.int p1), .val (.int p2), .val (.int p3), .val (.int p4), .val (.int p5), .val (.double (FP.i2d p0)), .second, .val (.double (FP.i2d p1)), .second, .val (.double (FP.i2d p2)), .second, .val (.double (FP.i2d p3)), .second, .val (.double (FP.i2d p4)), .second, .val (.double (FP.i2d p5)), .second, .val (.ref b425), .val (.ref x_439), .unset, .unset, .unset, .unset, .unset, .unset, .unset, .unset, .unset, .unset, .unset, .unset] [(.ref x_439)]))
  obtain ⟨cq452, kq452, q452a, q452b, q452c⟩ := isOf hZ e439 w439_1
  obtain ⟨_, _, ⟨T452, L452, k452, n452⟩, -, X452, ⟨Lc452, hQ452, l452, y452, z452⟩, st452⟩ := X439.interfaceBack hx (xi := (⟨"java/util/List", "size", "()I"⟩ : MethodName)) (y := (⟨"java/util/ImmutableCollections$ListN", "size", "()I"⟩ : MethodName)) hown (mvT hZ (hw _ (List.mem_of_getElem? (i := 96) rfl))) (mvT hZ (hw _ (List.mem_of_getElem? (i := 97) rfl))) (mvT hZ (hw _ (List.mem_of_getElem? (i := 98) rfl))) (mvT hZ (hw _ (List.mem_of_getElem? (i := 99) rfl))) (mvT hZ (hw _ (List.mem_of_getElem? (i := 100) rfl))) (mvT hZ (hw _ (List.mem_of_getElem? (i := 101) rfl))) (mvT hZ (hw _ (List.mem_of_getElem? (i := 102) rfl))) (mvT hZ (hw _ (List.mem_of_getElem? (i := 103) rfl))) (by decide) (backOf (W := 0) (rm_size l Z a0 hw [] x_439 b_439 k_439 r0_439 r1_439 r2_439 r3_439 r4_439 r5_439 h439 n0 O451 w439_2 w439_3) hZ (hw _ (List.mem_of_getElem? (i := 104) rfl)) (hw _ (List.mem_of_getElem? (i := 68) rfl)) (by decide) (by decide)) q452a q452b q452c (g := (mkF me_ 56 #[.val (.int p0), .val (.int p1), .val (.int p2), .val (.int p3), .val (.int p4), .val (.int p5), .val (.double (FP.i2d p0)), .second, .val (.double (FP.i2d p1)), .second, .val (.double (FP.i2d p2)), .second, .val (.double (FP.i2d p3)), .second, .val (.double (FP.i2d p4)), .second, .val (.double (FP.i2d p5)), .second, .val (.ref b425), .val (.ref x_439), .unset, .unset, .unset, .unset, .unset, .unset, .unset, .unset, .unset, .unset, .unset, .unset] [(.ref x_439)])) rfl (by rw [hml]; rfl) (Steps.refl _) (argsL := []) (rest := []) (lenOf pd_9 rfl) rfl (by show 2 * 0 + _ ≤ _; exact Nat.le_of_eq rfl) (hb hby at_56) (fun _ _ => ⟨rfl, e439, (by decide : 9 + 0 ≤ _), (by decide : 20 + 0 ≤ _)⟩)
  dsimp only [Pt.U, Pt.locs, Pt.cells, Pt.slots] at X452 l452 y452 z452 st452 hQ452
  subst l452 y452 z452
  obtain ⟨rfl, Nq452, eq452⟩ := hQ452
  have N453 := Fr.app N440 Nq452
  refine gv (fun tQ kQ => st452.trans kQ) ?_
  show G (T452.setTop (mkF me_ 61 #[.val (.int p0), .val (.int p1), .val (.int p2), .val (.int p3), .val (.int p4), .val (.int p5), .val (.double (FP.i2d p0)), .second, .val (.double (FP.i2d p1)), .second, .val (.double (FP.i2d p2)), .second, .val (.double (FP.i2d p3)), .second, .val (.double (FP.i2d p4)), .second, .val (.double (FP.i2d p5)), .second, .val (.ref b425), .val (.ref x_439), .unset, .unset, .unset, .unset, .unset, .unset, .unset, .unset, .unset, .unset, .unset, .unset] [(.int (6 : Int32))]))
  refine gv (fun tQ kQ => XS.bipush X452.here hx rfl (hb hby at_61) kQ) ?_
  show G (T452.setTop (mkF me_ 63 #[.val (.int p0), .val (.int p1), .val (.int p2), .val (.int p3), .val (.int p4), .val (.int p5), .val (.double (FP.i2d p0)), .second, .val (.double (FP.i2d p1)), .second, .val (.double (FP.i2d p2)), .second, .val (.double (FP.i2d p3)), .second, .val (.double (FP.i2d p4)), .second, .val (.double (FP.i2d p5)), .second, .val (.ref b425), .val (.ref x_439), .unset, .unset, .unset, .unset, .unset, .unset, .unset, .unset, .unset, .unset, .unset, .unset] [(.int (6 : Int32)), (.int (6 : Int32))]))
  refine gv (fun tQ kQ => XS.icmpYes X452.here hx rfl (pc0 := 63) (pc' := 68) rfl (hb hby at_63) rfl (teq (by decide : (6 : Int32) = (6 : Int32))).1 (by decide) (by decide) kQ) ?_
  show G (T452.setTop (mkF me_ 68 #[.val (.int p0), .val (.int p1), .val (.int p2), .val (.int p3), .val (.int p4), .val (.int p5), .val (.double (FP.i2d p0)), .second, .val (.double (FP.i2d p1)), .second, .val (.double (FP.i2d p2)), .second, .val (.double (FP.i2d p3)), .second, .val (.double (FP.i2d p4)), .second, .val (.double (FP.i2d p5)), .second, .val (.ref b425), .val (.ref x_439), .unset, .unset, .unset, .unset, .unset, .unset, .unset, .unset, .unset, .unset, .unset, .unset] []))
  refine gv (fun tQ kQ => XS.aload X452.here hx rfl (hb hby at_68) rfl rfl kQ) ?_
  show G (T452.setTop (mkF me_ 70 #[.val (.int p0), .val (.int p1), .val (.int p2), .val (.int p3), .val (.int p4), .val (.int p5), .val (.double (FP.i2d p0)), .second, .val (.double (FP.i2d p1)), .second, .val (.double (FP.i2d p2)), .second, .val (.double (FP.i2d p3)), .second, .val (.double (FP.i2d p4)), .second, .val (.double (FP.i2d p5)), .second, .val (.ref b425), .val (.ref x_439), .unset, .unset, .unset, .unset, .unset, .unset, .unset, .unset, .unset, .unset, .unset, .unset] [(.ref x_439)]))
  refine gv (fun tQ kQ => XS.iconst X452.here hx rfl (hb hby at_70) kQ) ?_
  show G (T452.setTop (mkF me_ 71 #[.val (.int p0), .val (.int p1), .val (.int p2), .val (.int p3), .val (.int p4), .val (.int p5), .val (.double (FP.i2d p0)), .second, .val (.double (FP.i2d p1)), .second, .val (.double (FP.i2d p2)), .second, .val (.double (FP.i2d p3)), .second, .val (.double (FP.i2d p4)), .second, .val (.double (FP.i2d p5)), .second, .val (.ref b425), .val (.ref x_439), .unset, .unset, .unset, .unset, .unset, .unset, .unset, .unset, .unset, .unset, .unset, .unset] [(.int (0 : Int32)), (.ref x_439)]))
  obtain ⟨cq454, kq454, q454a, q454b, q454c⟩ := isOf hZ eq452 w439_1
  obtain ⟨_, _, ⟨T454, L454, k454, n454⟩, -, X454, ⟨Lc454, hQ454, l454, y454, z454⟩, st454⟩ := X452.interfaceBack hx (xi := (⟨"java/util/List", "get", "(I)Ljava/lang/Object;"⟩ : MethodName)) (y := (⟨"java/util/ImmutableCollections$ListN", "get", "(I)Ljava/lang/Object;"⟩ : MethodName)) hown (mvT hZ (hw _ (List.mem_of_getElem? (i := 105) rfl))) (mvT hZ (hw _ (List.mem_of_getElem? (i := 106) rfl))) (mvT hZ (hw _ (List.mem_of_getElem? (i := 107) rfl))) (mvT hZ (hw _ (List.mem_of_getElem? (i := 108) rfl))) (mvT hZ (hw _ (List.mem_of_getElem? (i := 109) rfl))) (mvT hZ (hw _ (List.mem_of_getElem? (i := 110) rfl))) (mvT hZ (hw _ (List.mem_of_getElem? (i := 111) rfl))) (mvT hZ (hw _ (List.mem_of_getElem? (i := 103) rfl))) (by decide) (backOf (W := 0) (rm_get0 l Z a0 hw [] x_439 b_439 k_439 r0_439 r1_439 r2_439 r3_439 r4_439 r5_439 h439 n0 O451 w439_2 w439_3) hZ (hw _ (List.mem_of_getElem? (i := 112) rfl)) (hw _ (List.mem_of_getElem? (i := 68) rfl)) (by decide) (by decide)) q454a q454b q454c (g := (mkF me_ 71 #[.val (.int p0), .val (.int p1), .val (.int p2), .val (.int p3), .val (.int p4), .val (.int p5), .val (.double (FP.i2d p0)), .second, .val (.double (FP.i2d p1)), .second, .val (.double (FP.i2d p2)), .second, .val (.double (FP.i2d p3)), .second, .val (.double (FP.i2d p4)), .second, .val (.double (FP.i2d p5)), .second, .val (.ref b425), .val (.ref x_439), .unset, .unset, .unset, .unset, .unset, .unset, .unset, .unset, .unset, .unset, .unset, .unset] [(.int (0 : Int32)), (.ref x_439)])) rfl (by rw [hml]; rfl) (Steps.refl _) (argsL := [(.int (0 : Int32))]) (rest := []) (lenOf pd_10 rfl) rfl (by show 2 * 0 + _ ≤ _; exact Nat.le_of_eq rfl) (hb hby at_71) (fun _ _ => ⟨rfl, eq452, (by decide : 9 + 0 ≤ _), (by decide : 20 + 0 ≤ _)⟩)
  dsimp only [Pt.U, Pt.locs, Pt.cells, Pt.slots] at X454 l454 y454 z454 st454 hQ454
  subst l454 y454 z454
  obtain ⟨rfl, Nq454, eq454⟩ := hQ454
  have N455 := Fr.app N453 Nq454
  refine gv (fun tQ kQ => st454.trans kQ) ?_
  show G (T454.setTop (mkF me_ 76 #[.val (.int p0), .val (.int p1), .val (.int p2), .val (.int p3), .val (.int p4), .val (.int p5), .val (.double (FP.i2d p0)), .second, .val (.double (FP.i2d p1)), .second, .val (.double (FP.i2d p2)), .second, .val (.double (FP.i2d p3)), .second, .val (.double (FP.i2d p4)), .second, .val (.double (FP.i2d p5)), .second, .val (.ref b425), .val (.ref x_439), .unset, .unset, .unset, .unset, .unset, .unset, .unset, .unset, .unset, .unset, .unset, .unset] [(.ref r0_439)]))
  obtain ⟨T456, X456, e456, st456⟩ := castY X454 hx hZ hown (hw _ (List.mem_of_getElem? (i := 113) rfl)) eq454 (Ins.self w439_4) (g := (mkF me_ 76 #[.val (.int p0), .val (.int p1), .val (.int p2), .val (.int p3), .val (.int p4), .val (.int p5), .val (.double (FP.i2d p0)), .second, .val (.double (FP.i2d p1)), .second, .val (.double (FP.i2d p2)), .second, .val (.double (FP.i2d p3)), .second, .val (.double (FP.i2d p4)), .second, .val (.double (FP.i2d p5)), .second, .val (.ref b425), .val (.ref x_439), .unset, .unset, .unset, .unset, .unset, .unset, .unset, .unset, .unset, .unset, .unset, .unset] [(.ref r0_439)])) rfl rfl (hb hby at_76)
  refine gv st456 ?_
  show G (T456.setTop (mkF me_ 79 #[.val (.int p0), .val (.int p1), .val (.int p2), .val (.int p3), .val (.int p4), .val (.int p5), .val (.double (FP.i2d p0)), .second, .val (.double (FP.i2d p1)), .second, .val (.double (FP.i2d p2)), .second, .val (.double (FP.i2d p3)), .second, .val (.double (FP.i2d p4)), .second, .val (.double (FP.i2d p5)), .second, .val (.ref b425), .val (.ref x_439), .unset, .unset, .unset, .unset, .unset, .unset, .unset, .unset, .unset, .unset, .unset, .unset] [(.ref r0_439)]))
  obtain ⟨cq457, kq457, q457a, q457b, q457c⟩ := isOf hZ e456 w439_4
  obtain ⟨_, _, ⟨T457, L457, k457, n457⟩, -, X457, ⟨Lc457, hQ457, l457, y457, z457⟩, st457⟩ := X456.virtualBack hx (y := (⟨"java/lang/Double", "doubleValue", "()D"⟩ : MethodName)) (z := (⟨"java/lang/Double", "doubleValue", "()D"⟩ : MethodName)) hown (mvT hZ (hw _ (List.mem_of_getElem? (i := 114) rfl))) (mvT hZ (hw _ (List.mem_of_getElem? (i := 115) rfl))) (notFace_of_selects (args := #[]) (mvT hZ (hw _ (List.mem_of_getElem? (i := 117) rfl)))) (mvT hZ (hw _ (List.mem_of_getElem? (i := 117) rfl))) (mvT hZ (hw _ (List.mem_of_getElem? (i := 116) rfl))) (by decide) (backOf (W := 0) (rm_dv l Z a0 hw [] r0_439 (FP.i2d p0) h439 n0 O451 w439_10) hZ (hw _ (List.mem_of_getElem? (i := 118) rfl)) (hw _ (List.mem_of_getElem? (i := 33) rfl)) (by decide) (by decide)) q457a q457c (g := (mkF me_ 79 #[.val (.int p0), .val (.int p1), .val (.int p2), .val (.int p3), .val (.int p4), .val (.int p5), .val (.double (FP.i2d p0)), .second, .val (.double (FP.i2d p1)), .second, .val (.double (FP.i2d p2)), .second, .val (.double (FP.i2d p3)), .second, .val (.double (FP.i2d p4)), .second, .val (.double (FP.i2d p5)), .second, .val (.ref b425), .val (.ref x_439), .unset, .unset, .unset, .unset, .unset, .unset, .unset, .unset, .unset, .unset, .unset, .unset] [(.ref r0_439)])) rfl (by rw [hml]; rfl) (Steps.refl _) (argsL := []) (rest := []) (lenOf pd_11 rfl) rfl (by show 2 * 0 + _ ≤ _; exact Nat.le_of_eq rfl) (hb hby at_79) (fun _ _ => ⟨rfl, e456, (by decide : 9 + 0 ≤ _), (by decide : 20 + 0 ≤ _)⟩)
  dsimp only [Pt.U, Pt.locs, Pt.cells, Pt.slots] at X457 l457 y457 z457 st457 hQ457
  subst l457 y457 z457
  obtain ⟨rfl, Nq457, eq457⟩ := hQ457
  have N458 := Fr.app N455 Nq457
  refine gv (fun tQ kQ => st457.trans kQ) ?_
  show G (T457.setTop (mkF me_ 82 #[.val (.int p0), .val (.int p1), .val (.int p2), .val (.int p3), .val (.int p4), .val (.int p5), .val (.double (FP.i2d p0)), .second, .val (.double (FP.i2d p1)), .second, .val (.double (FP.i2d p2)), .second, .val (.double (FP.i2d p3)), .second, .val (.double (FP.i2d p4)), .second, .val (.double (FP.i2d p5)), .second, .val (.ref b425), .val (.ref x_439), .unset, .unset, .unset, .unset, .unset, .unset, .unset, .unset, .unset, .unset, .unset, .unset] [(.double (FP.i2d p0))]))
  refine gv (fun tQ kQ => XS.dstore X457.here hx rfl (hb hby at_82) rfl (l' := #[.val (.int p0), .val (.int p1), .val (.int p2), .val (.int p3), .val (.int p4), .val (.int p5), .val (.double (FP.i2d p0)), .second, .val (.double (FP.i2d p1)), .second, .val (.double (FP.i2d p2)), .second, .val (.double (FP.i2d p3)), .second, .val (.double (FP.i2d p4)), .second, .val (.double (FP.i2d p5)), .second, .val (.ref b425), .val (.ref x_439), .val (.double (FP.i2d p0)), .second, .unset, .unset, .unset, .unset, .unset, .unset, .unset, .unset, .unset, .unset]) rfl kQ) ?_
  show G (T457.setTop (mkF me_ 84 #[.val (.int p0), .val (.int p1), .val (.int p2), .val (.int p3), .val (.int p4), .val (.int p5), .val (.double (FP.i2d p0)), .second, .val (.double (FP.i2d p1)), .second, .val (.double (FP.i2d p2)), .second, .val (.double (FP.i2d p3)), .second, .val (.double (FP.i2d p4)), .second, .val (.double (FP.i2d p5)), .second, .val (.ref b425), .val (.ref x_439), .val (.double (FP.i2d p0)), .second, .unset, .unset, .unset, .unset, .unset, .unset, .unset, .unset, .unset, .unset] []))
  refine gv (fun tQ kQ => XS.aload X457.here hx rfl (hb hby at_84) rfl rfl kQ) ?_
  show G (T457.setTop (mkF me_ 86 #[.val (.int p0), .val (.int p1), .val (.int p2), .val (.int p3), .val (.int p4), .val (.int p5), .val (.double (FP.i2d p0)), .second, .val (.double (FP.i2d p1)), .second, .val (.double (FP.i2d p2)), .second, .val (.double (FP.i2d p3)), .second, .val (.double (FP.i2d p4)), .second, .val (.double (FP.i2d p5)), .second, .val (.ref b425), .val (.ref x_439), .val (.double (FP.i2d p0)), .second, .unset, .unset, .unset, .unset, .unset, .unset, .unset, .unset, .unset, .unset] [(.ref x_439)]))
  refine gv (fun tQ kQ => XS.iconst X457.here hx rfl (hb hby at_86) kQ) ?_
  show G (T457.setTop (mkF me_ 87 #[.val (.int p0), .val (.int p1), .val (.int p2), .val (.int p3), .val (.int p4), .val (.int p5), .val (.double (FP.i2d p0)), .second, .val (.double (FP.i2d p1)), .second, .val (.double (FP.i2d p2)), .second, .val (.double (FP.i2d p3)), .second, .val (.double (FP.i2d p4)), .second, .val (.double (FP.i2d p5)), .second, .val (.ref b425), .val (.ref x_439), .val (.double (FP.i2d p0)), .second, .unset, .unset, .unset, .unset, .unset, .unset, .unset, .unset, .unset, .unset] [(.int (1 : Int32)), (.ref x_439)]))
  obtain ⟨cq459, kq459, q459a, q459b, q459c⟩ := isOf hZ eq457 w439_1
  obtain ⟨_, _, ⟨T459, L459, k459, n459⟩, -, X459, ⟨Lc459, hQ459, l459, y459, z459⟩, st459⟩ := X457.interfaceBack hx (xi := (⟨"java/util/List", "get", "(I)Ljava/lang/Object;"⟩ : MethodName)) (y := (⟨"java/util/ImmutableCollections$ListN", "get", "(I)Ljava/lang/Object;"⟩ : MethodName)) hown (mvT hZ (hw _ (List.mem_of_getElem? (i := 105) rfl))) (mvT hZ (hw _ (List.mem_of_getElem? (i := 106) rfl))) (mvT hZ (hw _ (List.mem_of_getElem? (i := 107) rfl))) (mvT hZ (hw _ (List.mem_of_getElem? (i := 108) rfl))) (mvT hZ (hw _ (List.mem_of_getElem? (i := 109) rfl))) (mvT hZ (hw _ (List.mem_of_getElem? (i := 110) rfl))) (mvT hZ (hw _ (List.mem_of_getElem? (i := 111) rfl))) (mvT hZ (hw _ (List.mem_of_getElem? (i := 103) rfl))) (by decide) (backOf (W := 0) (rm_get1 l Z a0 hw [] x_439 b_439 k_439 r0_439 r1_439 r2_439 r3_439 r4_439 r5_439 h439 n0 O451 w439_2 w439_3) hZ (hw _ (List.mem_of_getElem? (i := 112) rfl)) (hw _ (List.mem_of_getElem? (i := 68) rfl)) (by decide) (by decide)) q459a q459b q459c (g := (mkF me_ 87 #[.val (.int p0), .val (.int p1), .val (.int p2), .val (.int p3), .val (.int p4), .val (.int p5), .val (.double (FP.i2d p0)), .second, .val (.double (FP.i2d p1)), .second, .val (.double (FP.i2d p2)), .second, .val (.double (FP.i2d p3)), .second, .val (.double (FP.i2d p4)), .second, .val (.double (FP.i2d p5)), .second, .val (.ref b425), .val (.ref x_439), .val (.double (FP.i2d p0)), .second, .unset, .unset, .unset, .unset, .unset, .unset, .unset, .unset, .unset, .unset] [(.int (1 : Int32)), (.ref x_439)])) rfl (by rw [hml]; rfl) (Steps.refl _) (argsL := [(.int (1 : Int32))]) (rest := []) (lenOf pd_10 rfl) rfl (by show 2 * 0 + _ ≤ _; exact Nat.le_of_eq rfl) (hb hby at_87) (fun _ _ => ⟨rfl, eq457, (by decide : 9 + 0 ≤ _), (by decide : 20 + 0 ≤ _)⟩)
  dsimp only [Pt.U, Pt.locs, Pt.cells, Pt.slots] at X459 l459 y459 z459 st459 hQ459
  subst l459 y459 z459
  obtain ⟨rfl, Nq459, eq459⟩ := hQ459
  have N460 := Fr.app N458 Nq459
  refine gv (fun tQ kQ => st459.trans kQ) ?_
  show G (T459.setTop (mkF me_ 92 #[.val (.int p0), .val (.int p1), .val (.int p2), .val (.int p3), .val (.int p4), .val (.int p5), .val (.double (FP.i2d p0)), .second, .val (.double (FP.i2d p1)), .second, .val (.double (FP.i2d p2)), .second, .val (.double (FP.i2d p3)), .second, .val (.double (FP.i2d p4)), .second, .val (.double (FP.i2d p5)), .second, .val (.ref b425), .val (.ref x_439), .val (.double (FP.i2d p0)), .second, .unset, .unset, .unset, .unset, .unset, .unset, .unset, .unset, .unset, .unset] [(.ref r1_439)]))
  obtain ⟨T461, X461, e461, st461⟩ := castY X459 hx hZ hown (hw _ (List.mem_of_getElem? (i := 113) rfl)) eq459 (Ins.self w439_5) (g := (mkF me_ 92 #[.val (.int p0), .val (.int p1), .val (.int p2), .val (.int p3), .val (.int p4), .val (.int p5), .val (.double (FP.i2d p0)), .second, .val (.double (FP.i2d p1)), .second, .val (.double (FP.i2d p2)), .second, .val (.double (FP.i2d p3)), .second, .val (.double (FP.i2d p4)), .second, .val (.double (FP.i2d p5)), .second, .val (.ref b425), .val (.ref x_439), .val (.double (FP.i2d p0)), .second, .unset, .unset, .unset, .unset, .unset, .unset, .unset, .unset, .unset, .unset] [(.ref r1_439)])) rfl rfl (hb hby at_92)
  refine gv st461 ?_
  show G (T461.setTop (mkF me_ 95 #[.val (.int p0), .val (.int p1), .val (.int p2), .val (.int p3), .val (.int p4), .val (.int p5), .val (.double (FP.i2d p0)), .second, .val (.double (FP.i2d p1)), .second, .val (.double (FP.i2d p2)), .second, .val (.double (FP.i2d p3)), .second, .val (.double (FP.i2d p4)), .second, .val (.double (FP.i2d p5)), .second, .val (.ref b425), .val (.ref x_439), .val (.double (FP.i2d p0)), .second, .unset, .unset, .unset, .unset, .unset, .unset, .unset, .unset, .unset, .unset] [(.ref r1_439)]))
  obtain ⟨cq462, kq462, q462a, q462b, q462c⟩ := isOf hZ e461 w439_5
  obtain ⟨_, _, ⟨T462, L462, k462, n462⟩, -, X462, ⟨Lc462, hQ462, l462, y462, z462⟩, st462⟩ := X461.virtualBack hx (y := (⟨"java/lang/Double", "doubleValue", "()D"⟩ : MethodName)) (z := (⟨"java/lang/Double", "doubleValue", "()D"⟩ : MethodName)) hown (mvT hZ (hw _ (List.mem_of_getElem? (i := 114) rfl))) (mvT hZ (hw _ (List.mem_of_getElem? (i := 115) rfl))) (notFace_of_selects (args := #[]) (mvT hZ (hw _ (List.mem_of_getElem? (i := 117) rfl)))) (mvT hZ (hw _ (List.mem_of_getElem? (i := 117) rfl))) (mvT hZ (hw _ (List.mem_of_getElem? (i := 116) rfl))) (by decide) (backOf (W := 0) (rm_dv l Z a0 hw [] r1_439 (FP.i2d p1) h439 n0 O451 w439_11) hZ (hw _ (List.mem_of_getElem? (i := 118) rfl)) (hw _ (List.mem_of_getElem? (i := 33) rfl)) (by decide) (by decide)) q462a q462c (g := (mkF me_ 95 #[.val (.int p0), .val (.int p1), .val (.int p2), .val (.int p3), .val (.int p4), .val (.int p5), .val (.double (FP.i2d p0)), .second, .val (.double (FP.i2d p1)), .second, .val (.double (FP.i2d p2)), .second, .val (.double (FP.i2d p3)), .second, .val (.double (FP.i2d p4)), .second, .val (.double (FP.i2d p5)), .second, .val (.ref b425), .val (.ref x_439), .val (.double (FP.i2d p0)), .second, .unset, .unset, .unset, .unset, .unset, .unset, .unset, .unset, .unset, .unset] [(.ref r1_439)])) rfl (by rw [hml]; rfl) (Steps.refl _) (argsL := []) (rest := []) (lenOf pd_11 rfl) rfl (by show 2 * 0 + _ ≤ _; exact Nat.le_of_eq rfl) (hb hby at_95) (fun _ _ => ⟨rfl, e461, (by decide : 9 + 0 ≤ _), (by decide : 20 + 0 ≤ _)⟩)
  dsimp only [Pt.U, Pt.locs, Pt.cells, Pt.slots] at X462 l462 y462 z462 st462 hQ462
  subst l462 y462 z462
  obtain ⟨rfl, Nq462, eq462⟩ := hQ462
  have N463 := Fr.app N460 Nq462
  refine gv (fun tQ kQ => st462.trans kQ) ?_
  show G (T462.setTop (mkF me_ 98 #[.val (.int p0), .val (.int p1), .val (.int p2), .val (.int p3), .val (.int p4), .val (.int p5), .val (.double (FP.i2d p0)), .second, .val (.double (FP.i2d p1)), .second, .val (.double (FP.i2d p2)), .second, .val (.double (FP.i2d p3)), .second, .val (.double (FP.i2d p4)), .second, .val (.double (FP.i2d p5)), .second, .val (.ref b425), .val (.ref x_439), .val (.double (FP.i2d p0)), .second, .unset, .unset, .unset, .unset, .unset, .unset, .unset, .unset, .unset, .unset] [(.double (FP.i2d p1))]))
  refine gv (fun tQ kQ => XS.dstore X462.here hx rfl (hb hby at_98) rfl (l' := #[.val (.int p0), .val (.int p1), .val (.int p2), .val (.int p3), .val (.int p4), .val (.int p5), .val (.double (FP.i2d p0)), .second, .val (.double (FP.i2d p1)), .second, .val (.double (FP.i2d p2)), .second, .val (.double (FP.i2d p3)), .second, .val (.double (FP.i2d p4)), .second, .val (.double (FP.i2d p5)), .second, .val (.ref b425), .val (.ref x_439), .val (.double (FP.i2d p0)), .second, .val (.double (FP.i2d p1)), .second, .unset, .unset, .unset, .unset, .unset, .unset, .unset, .unset]) rfl kQ) ?_
  show G (T462.setTop (mkF me_ 100 #[.val (.int p0), .val (.int p1), .val (.int p2), .val (.int p3), .val (.int p4), .val (.int p5), .val (.double (FP.i2d p0)), .second, .val (.double (FP.i2d p1)), .second, .val (.double (FP.i2d p2)), .second, .val (.double (FP.i2d p3)), .second, .val (.double (FP.i2d p4)), .second, .val (.double (FP.i2d p5)), .second, .val (.ref b425), .val (.ref x_439), .val (.double (FP.i2d p0)), .second, .val (.double (FP.i2d p1)), .second, .unset, .unset, .unset, .unset, .unset, .unset, .unset, .unset] []))
  refine gv (fun tQ kQ => XS.aload X462.here hx rfl (hb hby at_100) rfl rfl kQ) ?_
  show G (T462.setTop (mkF me_ 102 #[.val (.int p0), .val (.int p1), .val (.int p2), .val (.int p3), .val (.int p4), .val (.int p5), .val (.double (FP.i2d p0)), .second, .val (.double (FP.i2d p1)), .second, .val (.double (FP.i2d p2)), .second, .val (.double (FP.i2d p3)), .second, .val (.double (FP.i2d p4)), .second, .val (.double (FP.i2d p5)), .second, .val (.ref b425), .val (.ref x_439), .val (.double (FP.i2d p0)), .second, .val (.double (FP.i2d p1)), .second, .unset, .unset, .unset, .unset, .unset, .unset, .unset, .unset] [(.ref x_439)]))
  refine gv (fun tQ kQ => XS.iconst X462.here hx rfl (hb hby at_102) kQ) ?_
  show G (T462.setTop (mkF me_ 103 #[.val (.int p0), .val (.int p1), .val (.int p2), .val (.int p3), .val (.int p4), .val (.int p5), .val (.double (FP.i2d p0)), .second, .val (.double (FP.i2d p1)), .second, .val (.double (FP.i2d p2)), .second, .val (.double (FP.i2d p3)), .second, .val (.double (FP.i2d p4)), .second, .val (.double (FP.i2d p5)), .second, .val (.ref b425), .val (.ref x_439), .val (.double (FP.i2d p0)), .second, .val (.double (FP.i2d p1)), .second, .unset, .unset, .unset, .unset, .unset, .unset, .unset, .unset] [(.int (2 : Int32)), (.ref x_439)]))
  obtain ⟨cq464, kq464, q464a, q464b, q464c⟩ := isOf hZ eq462 w439_1
  obtain ⟨_, _, ⟨T464, L464, k464, n464⟩, -, X464, ⟨Lc464, hQ464, l464, y464, z464⟩, st464⟩ := X462.interfaceBack hx (xi := (⟨"java/util/List", "get", "(I)Ljava/lang/Object;"⟩ : MethodName)) (y := (⟨"java/util/ImmutableCollections$ListN", "get", "(I)Ljava/lang/Object;"⟩ : MethodName)) hown (mvT hZ (hw _ (List.mem_of_getElem? (i := 105) rfl))) (mvT hZ (hw _ (List.mem_of_getElem? (i := 106) rfl))) (mvT hZ (hw _ (List.mem_of_getElem? (i := 107) rfl))) (mvT hZ (hw _ (List.mem_of_getElem? (i := 108) rfl))) (mvT hZ (hw _ (List.mem_of_getElem? (i := 109) rfl))) (mvT hZ (hw _ (List.mem_of_getElem? (i := 110) rfl))) (mvT hZ (hw _ (List.mem_of_getElem? (i := 111) rfl))) (mvT hZ (hw _ (List.mem_of_getElem? (i := 103) rfl))) (by decide) (backOf (W := 0) (rm_get2 l Z a0 hw [] x_439 b_439 k_439 r0_439 r1_439 r2_439 r3_439 r4_439 r5_439 h439 n0 O451 w439_2 w439_3) hZ (hw _ (List.mem_of_getElem? (i := 112) rfl)) (hw _ (List.mem_of_getElem? (i := 68) rfl)) (by decide) (by decide)) q464a q464b q464c (g := (mkF me_ 103 #[.val (.int p0), .val (.int p1), .val (.int p2), .val (.int p3), .val (.int p4), .val (.int p5), .val (.double (FP.i2d p0)), .second, .val (.double (FP.i2d p1)), .second, .val (.double (FP.i2d p2)), .second, .val (.double (FP.i2d p3)), .second, .val (.double (FP.i2d p4)), .second, .val (.double (FP.i2d p5)), .second, .val (.ref b425), .val (.ref x_439), .val (.double (FP.i2d p0)), .second, .val (.double (FP.i2d p1)), .second, .unset, .unset, .unset, .unset, .unset, .unset, .unset, .unset] [(.int (2 : Int32)), (.ref x_439)])) rfl (by rw [hml]; rfl) (Steps.refl _) (argsL := [(.int (2 : Int32))]) (rest := []) (lenOf pd_10 rfl) rfl (by show 2 * 0 + _ ≤ _; exact Nat.le_of_eq rfl) (hb hby at_103) (fun _ _ => ⟨rfl, eq462, (by decide : 9 + 0 ≤ _), (by decide : 20 + 0 ≤ _)⟩)
  dsimp only [Pt.U, Pt.locs, Pt.cells, Pt.slots] at X464 l464 y464 z464 st464 hQ464
  subst l464 y464 z464
  obtain ⟨rfl, Nq464, eq464⟩ := hQ464
  have N465 := Fr.app N463 Nq464
  refine gv (fun tQ kQ => st464.trans kQ) ?_
  show G (T464.setTop (mkF me_ 108 #[.val (.int p0), .val (.int p1), .val (.int p2), .val (.int p3), .val (.int p4), .val (.int p5), .val (.double (FP.i2d p0)), .second, .val (.double (FP.i2d p1)), .second, .val (.double (FP.i2d p2)), .second, .val (.double (FP.i2d p3)), .second, .val (.double (FP.i2d p4)), .second, .val (.double (FP.i2d p5)), .second, .val (.ref b425), .val (.ref x_439), .val (.double (FP.i2d p0)), .second, .val (.double (FP.i2d p1)), .second, .unset, .unset, .unset, .unset, .unset, .unset, .unset, .unset] [(.ref r2_439)]))
  obtain ⟨T466, X466, e466, st466⟩ := castY X464 hx hZ hown (hw _ (List.mem_of_getElem? (i := 113) rfl)) eq464 (Ins.self w439_6) (g := (mkF me_ 108 #[.val (.int p0), .val (.int p1), .val (.int p2), .val (.int p3), .val (.int p4), .val (.int p5), .val (.double (FP.i2d p0)), .second, .val (.double (FP.i2d p1)), .second, .val (.double (FP.i2d p2)), .second, .val (.double (FP.i2d p3)), .second, .val (.double (FP.i2d p4)), .second, .val (.double (FP.i2d p5)), .second, .val (.ref b425), .val (.ref x_439), .val (.double (FP.i2d p0)), .second, .val (.double (FP.i2d p1)), .second, .unset, .unset, .unset, .unset, .unset, .unset, .unset, .unset] [(.ref r2_439)])) rfl rfl (hb hby at_108)
  refine gv st466 ?_
  show G (T466.setTop (mkF me_ 111 #[.val (.int p0), .val (.int p1), .val (.int p2), .val (.int p3), .val (.int p4), .val (.int p5), .val (.double (FP.i2d p0)), .second, .val (.double (FP.i2d p1)), .second, .val (.double (FP.i2d p2)), .second, .val (.double (FP.i2d p3)), .second, .val (.double (FP.i2d p4)), .second, .val (.double (FP.i2d p5)), .second, .val (.ref b425), .val (.ref x_439), .val (.double (FP.i2d p0)), .second, .val (.double (FP.i2d p1)), .second, .unset, .unset, .unset, .unset, .unset, .unset, .unset, .unset] [(.ref r2_439)]))
  obtain ⟨cq467, kq467, q467a, q467b, q467c⟩ := isOf hZ e466 w439_6
  obtain ⟨_, _, ⟨T467, L467, k467, n467⟩, -, X467, ⟨Lc467, hQ467, l467, y467, z467⟩, st467⟩ := X466.virtualBack hx (y := (⟨"java/lang/Double", "doubleValue", "()D"⟩ : MethodName)) (z := (⟨"java/lang/Double", "doubleValue", "()D"⟩ : MethodName)) hown (mvT hZ (hw _ (List.mem_of_getElem? (i := 114) rfl))) (mvT hZ (hw _ (List.mem_of_getElem? (i := 115) rfl))) (notFace_of_selects (args := #[]) (mvT hZ (hw _ (List.mem_of_getElem? (i := 117) rfl)))) (mvT hZ (hw _ (List.mem_of_getElem? (i := 117) rfl))) (mvT hZ (hw _ (List.mem_of_getElem? (i := 116) rfl))) (by decide) (backOf (W := 0) (rm_dv l Z a0 hw [] r2_439 (FP.i2d p2) h439 n0 O451 w439_12) hZ (hw _ (List.mem_of_getElem? (i := 118) rfl)) (hw _ (List.mem_of_getElem? (i := 33) rfl)) (by decide) (by decide)) q467a q467c (g := (mkF me_ 111 #[.val (.int p0), .val (.int p1), .val (.int p2), .val (.int p3), .val (.int p4), .val (.int p5), .val (.double (FP.i2d p0)), .second, .val (.double (FP.i2d p1)), .second, .val (.double (FP.i2d p2)), .second, .val (.double (FP.i2d p3)), .second, .val (.double (FP.i2d p4)), .second, .val (.double (FP.i2d p5)), .second, .val (.ref b425), .val (.ref x_439), .val (.double (FP.i2d p0)), .second, .val (.double (FP.i2d p1)), .second, .unset, .unset, .unset, .unset, .unset, .unset, .unset, .unset] [(.ref r2_439)])) rfl (by rw [hml]; rfl) (Steps.refl _) (argsL := []) (rest := []) (lenOf pd_11 rfl) rfl (by show 2 * 0 + _ ≤ _; exact Nat.le_of_eq rfl) (hb hby at_111) (fun _ _ => ⟨rfl, e466, (by decide : 9 + 0 ≤ _), (by decide : 20 + 0 ≤ _)⟩)
  dsimp only [Pt.U, Pt.locs, Pt.cells, Pt.slots] at X467 l467 y467 z467 st467 hQ467
  subst l467 y467 z467
  obtain ⟨rfl, Nq467, eq467⟩ := hQ467
  have N468 := Fr.app N465 Nq467
  refine gv (fun tQ kQ => st467.trans kQ) ?_
  show G (T467.setTop (mkF me_ 114 #[.val (.int p0), .val (.int p1), .val (.int p2), .val (.int p3), .val (.int p4), .val (.int p5), .val (.double (FP.i2d p0)), .second, .val (.double (FP.i2d p1)), .second, .val (.double (FP.i2d p2)), .second, .val (.double (FP.i2d p3)), .second, .val (.double (FP.i2d p4)), .second, .val (.double (FP.i2d p5)), .second, .val (.ref b425), .val (.ref x_439), .val (.double (FP.i2d p0)), .second, .val (.double (FP.i2d p1)), .second, .unset, .unset, .unset, .unset, .unset, .unset, .unset, .unset] [(.double (FP.i2d p2))]))
  refine gv (fun tQ kQ => XS.dstore X467.here hx rfl (hb hby at_114) rfl (l' := #[.val (.int p0), .val (.int p1), .val (.int p2), .val (.int p3), .val (.int p4), .val (.int p5), .val (.double (FP.i2d p0)), .second, .val (.double (FP.i2d p1)), .second, .val (.double (FP.i2d p2)), .second, .val (.double (FP.i2d p3)), .second, .val (.double (FP.i2d p4)), .second, .val (.double (FP.i2d p5)), .second, .val (.ref b425), .val (.ref x_439), .val (.double (FP.i2d p0)), .second, .val (.double (FP.i2d p1)), .second, .val (.double (FP.i2d p2)), .second, .unset, .unset, .unset, .unset, .unset, .unset]) rfl kQ) ?_
  show G (T467.setTop (mkF me_ 116 #[.val (.int p0), .val (.int p1), .val (.int p2), .val (.int p3), .val (.int p4), .val (.int p5), .val (.double (FP.i2d p0)), .second, .val (.double (FP.i2d p1)), .second, .val (.double (FP.i2d p2)), .second, .val (.double (FP.i2d p3)), .second, .val (.double (FP.i2d p4)), .second, .val (.double (FP.i2d p5)), .second, .val (.ref b425), .val (.ref x_439), .val (.double (FP.i2d p0)), .second, .val (.double (FP.i2d p1)), .second, .val (.double (FP.i2d p2)), .second, .unset, .unset, .unset, .unset, .unset, .unset] []))
  refine gv (fun tQ kQ => XS.aload X467.here hx rfl (hb hby at_116) rfl rfl kQ) ?_
  show G (T467.setTop (mkF me_ 118 #[.val (.int p0), .val (.int p1), .val (.int p2), .val (.int p3), .val (.int p4), .val (.int p5), .val (.double (FP.i2d p0)), .second, .val (.double (FP.i2d p1)), .second, .val (.double (FP.i2d p2)), .second, .val (.double (FP.i2d p3)), .second, .val (.double (FP.i2d p4)), .second, .val (.double (FP.i2d p5)), .second, .val (.ref b425), .val (.ref x_439), .val (.double (FP.i2d p0)), .second, .val (.double (FP.i2d p1)), .second, .val (.double (FP.i2d p2)), .second, .unset, .unset, .unset, .unset, .unset, .unset] [(.ref x_439)]))
  refine gv (fun tQ kQ => XS.iconst X467.here hx rfl (hb hby at_118) kQ) ?_
  show G (T467.setTop (mkF me_ 119 #[.val (.int p0), .val (.int p1), .val (.int p2), .val (.int p3), .val (.int p4), .val (.int p5), .val (.double (FP.i2d p0)), .second, .val (.double (FP.i2d p1)), .second, .val (.double (FP.i2d p2)), .second, .val (.double (FP.i2d p3)), .second, .val (.double (FP.i2d p4)), .second, .val (.double (FP.i2d p5)), .second, .val (.ref b425), .val (.ref x_439), .val (.double (FP.i2d p0)), .second, .val (.double (FP.i2d p1)), .second, .val (.double (FP.i2d p2)), .second, .unset, .unset, .unset, .unset, .unset, .unset] [(.int (3 : Int32)), (.ref x_439)]))
  obtain ⟨cq469, kq469, q469a, q469b, q469c⟩ := isOf hZ eq467 w439_1
  obtain ⟨_, _, ⟨T469, L469, k469, n469⟩, -, X469, ⟨Lc469, hQ469, l469, y469, z469⟩, st469⟩ := X467.interfaceBack hx (xi := (⟨"java/util/List", "get", "(I)Ljava/lang/Object;"⟩ : MethodName)) (y := (⟨"java/util/ImmutableCollections$ListN", "get", "(I)Ljava/lang/Object;"⟩ : MethodName)) hown (mvT hZ (hw _ (List.mem_of_getElem? (i := 105) rfl))) (mvT hZ (hw _ (List.mem_of_getElem? (i := 106) rfl))) (mvT hZ (hw _ (List.mem_of_getElem? (i := 107) rfl))) (mvT hZ (hw _ (List.mem_of_getElem? (i := 108) rfl))) (mvT hZ (hw _ (List.mem_of_getElem? (i := 109) rfl))) (mvT hZ (hw _ (List.mem_of_getElem? (i := 110) rfl))) (mvT hZ (hw _ (List.mem_of_getElem? (i := 111) rfl))) (mvT hZ (hw _ (List.mem_of_getElem? (i := 103) rfl))) (by decide) (backOf (W := 0) (rm_get3 l Z a0 hw [] x_439 b_439 k_439 r0_439 r1_439 r2_439 r3_439 r4_439 r5_439 h439 n0 O451 w439_2 w439_3) hZ (hw _ (List.mem_of_getElem? (i := 112) rfl)) (hw _ (List.mem_of_getElem? (i := 68) rfl)) (by decide) (by decide)) q469a q469b q469c (g := (mkF me_ 119 #[.val (.int p0), .val (.int p1), .val (.int p2), .val (.int p3), .val (.int p4), .val (.int p5), .val (.double (FP.i2d p0)), .second, .val (.double (FP.i2d p1)), .second, .val (.double (FP.i2d p2)), .second, .val (.double (FP.i2d p3)), .second, .val (.double (FP.i2d p4)), .second, .val (.double (FP.i2d p5)), .second, .val (.ref b425), .val (.ref x_439), .val (.double (FP.i2d p0)), .second, .val (.double (FP.i2d p1)), .second, .val (.double (FP.i2d p2)), .second, .unset, .unset, .unset, .unset, .unset, .unset] [(.int (3 : Int32)), (.ref x_439)])) rfl (by rw [hml]; rfl) (Steps.refl _) (argsL := [(.int (3 : Int32))]) (rest := []) (lenOf pd_10 rfl) rfl (by show 2 * 0 + _ ≤ _; exact Nat.le_of_eq rfl) (hb hby at_119) (fun _ _ => ⟨rfl, eq467, (by decide : 9 + 0 ≤ _), (by decide : 20 + 0 ≤ _)⟩)
  dsimp only [Pt.U, Pt.locs, Pt.cells, Pt.slots] at X469 l469 y469 z469 st469 hQ469
  subst l469 y469 z469
  obtain ⟨rfl, Nq469, eq469⟩ := hQ469
  have N470 := Fr.app N468 Nq469
  refine gv (fun tQ kQ => st469.trans kQ) ?_
  show G (T469.setTop (mkF me_ 124 #[.val (.int p0), .val (.int p1), .val (.int p2), .val (.int p3), .val (.int p4), .val (.int p5), .val (.double (FP.i2d p0)), .second, .val (.double (FP.i2d p1)), .second, .val (.double (FP.i2d p2)), .second, .val (.double (FP.i2d p3)), .second, .val (.double (FP.i2d p4)), .second, .val (.double (FP.i2d p5)), .second, .val (.ref b425), .val (.ref x_439), .val (.double (FP.i2d p0)), .second, .val (.double (FP.i2d p1)), .second, .val (.double (FP.i2d p2)), .second, .unset, .unset, .unset, .unset, .unset, .unset] [(.ref r3_439)]))
  obtain ⟨T471, X471, e471, st471⟩ := castY X469 hx hZ hown (hw _ (List.mem_of_getElem? (i := 113) rfl)) eq469 (Ins.self w439_7) (g := (mkF me_ 124 #[.val (.int p0), .val (.int p1), .val (.int p2), .val (.int p3), .val (.int p4), .val (.int p5), .val (.double (FP.i2d p0)), .second, .val (.double (FP.i2d p1)), .second, .val (.double (FP.i2d p2)), .second, .val (.double (FP.i2d p3)), .second, .val (.double (FP.i2d p4)), .second, .val (.double (FP.i2d p5)), .second, .val (.ref b425), .val (.ref x_439), .val (.double (FP.i2d p0)), .second, .val (.double (FP.i2d p1)), .second, .val (.double (FP.i2d p2)), .second, .unset, .unset, .unset, .unset, .unset, .unset] [(.ref r3_439)])) rfl rfl (hb hby at_124)
  refine gv st471 ?_
  show G (T471.setTop (mkF me_ 127 #[.val (.int p0), .val (.int p1), .val (.int p2), .val (.int p3), .val (.int p4), .val (.int p5), .val (.double (FP.i2d p0)), .second, .val (.double (FP.i2d p1)), .second, .val (.double (FP.i2d p2)), .second, .val (.double (FP.i2d p3)), .second, .val (.double (FP.i2d p4)), .second, .val (.double (FP.i2d p5)), .second, .val (.ref b425), .val (.ref x_439), .val (.double (FP.i2d p0)), .second, .val (.double (FP.i2d p1)), .second, .val (.double (FP.i2d p2)), .second, .unset, .unset, .unset, .unset, .unset, .unset] [(.ref r3_439)]))
  obtain ⟨cq472, kq472, q472a, q472b, q472c⟩ := isOf hZ e471 w439_7
  obtain ⟨_, _, ⟨T472, L472, k472, n472⟩, -, X472, ⟨Lc472, hQ472, l472, y472, z472⟩, st472⟩ := X471.virtualBack hx (y := (⟨"java/lang/Double", "doubleValue", "()D"⟩ : MethodName)) (z := (⟨"java/lang/Double", "doubleValue", "()D"⟩ : MethodName)) hown (mvT hZ (hw _ (List.mem_of_getElem? (i := 114) rfl))) (mvT hZ (hw _ (List.mem_of_getElem? (i := 115) rfl))) (notFace_of_selects (args := #[]) (mvT hZ (hw _ (List.mem_of_getElem? (i := 117) rfl)))) (mvT hZ (hw _ (List.mem_of_getElem? (i := 117) rfl))) (mvT hZ (hw _ (List.mem_of_getElem? (i := 116) rfl))) (by decide) (backOf (W := 0) (rm_dv l Z a0 hw [] r3_439 (FP.i2d p3) h439 n0 O451 w439_13) hZ (hw _ (List.mem_of_getElem? (i := 118) rfl)) (hw _ (List.mem_of_getElem? (i := 33) rfl)) (by decide) (by decide)) q472a q472c (g := (mkF me_ 127 #[.val (.int p0), .val (.int p1), .val (.int p2), .val (.int p3), .val (.int p4), .val (.int p5), .val (.double (FP.i2d p0)), .second, .val (.double (FP.i2d p1)), .second, .val (.double (FP.i2d p2)), .second, .val (.double (FP.i2d p3)), .second, .val (.double (FP.i2d p4)), .second, .val (.double (FP.i2d p5)), .second, .val (.ref b425), .val (.ref x_439), .val (.double (FP.i2d p0)), .second, .val (.double (FP.i2d p1)), .second, .val (.double (FP.i2d p2)), .second, .unset, .unset, .unset, .unset, .unset, .unset] [(.ref r3_439)])) rfl (by rw [hml]; rfl) (Steps.refl _) (argsL := []) (rest := []) (lenOf pd_11 rfl) rfl (by show 2 * 0 + _ ≤ _; exact Nat.le_of_eq rfl) (hb hby at_127) (fun _ _ => ⟨rfl, e471, (by decide : 9 + 0 ≤ _), (by decide : 20 + 0 ≤ _)⟩)
  dsimp only [Pt.U, Pt.locs, Pt.cells, Pt.slots] at X472 l472 y472 z472 st472 hQ472
  subst l472 y472 z472
  obtain ⟨rfl, Nq472, eq472⟩ := hQ472
  have N473 := Fr.app N470 Nq472
  refine gv (fun tQ kQ => st472.trans kQ) ?_
  show G (T472.setTop (mkF me_ 130 #[.val (.int p0), .val (.int p1), .val (.int p2), .val (.int p3), .val (.int p4), .val (.int p5), .val (.double (FP.i2d p0)), .second, .val (.double (FP.i2d p1)), .second, .val (.double (FP.i2d p2)), .second, .val (.double (FP.i2d p3)), .second, .val (.double (FP.i2d p4)), .second, .val (.double (FP.i2d p5)), .second, .val (.ref b425), .val (.ref x_439), .val (.double (FP.i2d p0)), .second, .val (.double (FP.i2d p1)), .second, .val (.double (FP.i2d p2)), .second, .unset, .unset, .unset, .unset, .unset, .unset] [(.double (FP.i2d p3))]))
  refine gv (fun tQ kQ => XS.dstore X472.here hx rfl (hb hby at_130) rfl (l' := #[.val (.int p0), .val (.int p1), .val (.int p2), .val (.int p3), .val (.int p4), .val (.int p5), .val (.double (FP.i2d p0)), .second, .val (.double (FP.i2d p1)), .second, .val (.double (FP.i2d p2)), .second, .val (.double (FP.i2d p3)), .second, .val (.double (FP.i2d p4)), .second, .val (.double (FP.i2d p5)), .second, .val (.ref b425), .val (.ref x_439), .val (.double (FP.i2d p0)), .second, .val (.double (FP.i2d p1)), .second, .val (.double (FP.i2d p2)), .second, .val (.double (FP.i2d p3)), .second, .unset, .unset, .unset, .unset]) rfl kQ) ?_
  show G (T472.setTop (mkF me_ 132 #[.val (.int p0), .val (.int p1), .val (.int p2), .val (.int p3), .val (.int p4), .val (.int p5), .val (.double (FP.i2d p0)), .second, .val (.double (FP.i2d p1)), .second, .val (.double (FP.i2d p2)), .second, .val (.double (FP.i2d p3)), .second, .val (.double (FP.i2d p4)), .second, .val (.double (FP.i2d p5)), .second, .val (.ref b425), .val (.ref x_439), .val (.double (FP.i2d p0)), .second, .val (.double (FP.i2d p1)), .second, .val (.double (FP.i2d p2)), .second, .val (.double (FP.i2d p3)), .second, .unset, .unset, .unset, .unset] []))
  refine gv (fun tQ kQ => XS.aload X472.here hx rfl (hb hby at_132) rfl rfl kQ) ?_
  show G (T472.setTop (mkF me_ 134 #[.val (.int p0), .val (.int p1), .val (.int p2), .val (.int p3), .val (.int p4), .val (.int p5), .val (.double (FP.i2d p0)), .second, .val (.double (FP.i2d p1)), .second, .val (.double (FP.i2d p2)), .second, .val (.double (FP.i2d p3)), .second, .val (.double (FP.i2d p4)), .second, .val (.double (FP.i2d p5)), .second, .val (.ref b425), .val (.ref x_439), .val (.double (FP.i2d p0)), .second, .val (.double (FP.i2d p1)), .second, .val (.double (FP.i2d p2)), .second, .val (.double (FP.i2d p3)), .second, .unset, .unset, .unset, .unset] [(.ref x_439)]))
  refine gv (fun tQ kQ => XS.iconst X472.here hx rfl (hb hby at_134) kQ) ?_
  show G (T472.setTop (mkF me_ 135 #[.val (.int p0), .val (.int p1), .val (.int p2), .val (.int p3), .val (.int p4), .val (.int p5), .val (.double (FP.i2d p0)), .second, .val (.double (FP.i2d p1)), .second, .val (.double (FP.i2d p2)), .second, .val (.double (FP.i2d p3)), .second, .val (.double (FP.i2d p4)), .second, .val (.double (FP.i2d p5)), .second, .val (.ref b425), .val (.ref x_439), .val (.double (FP.i2d p0)), .second, .val (.double (FP.i2d p1)), .second, .val (.double (FP.i2d p2)), .second, .val (.double (FP.i2d p3)), .second, .unset, .unset, .unset, .unset] [(.int (4 : Int32)), (.ref x_439)]))
  obtain ⟨cq474, kq474, q474a, q474b, q474c⟩ := isOf hZ eq472 w439_1
  obtain ⟨_, _, ⟨T474, L474, k474, n474⟩, -, X474, ⟨Lc474, hQ474, l474, y474, z474⟩, st474⟩ := X472.interfaceBack hx (xi := (⟨"java/util/List", "get", "(I)Ljava/lang/Object;"⟩ : MethodName)) (y := (⟨"java/util/ImmutableCollections$ListN", "get", "(I)Ljava/lang/Object;"⟩ : MethodName)) hown (mvT hZ (hw _ (List.mem_of_getElem? (i := 105) rfl))) (mvT hZ (hw _ (List.mem_of_getElem? (i := 106) rfl))) (mvT hZ (hw _ (List.mem_of_getElem? (i := 107) rfl))) (mvT hZ (hw _ (List.mem_of_getElem? (i := 108) rfl))) (mvT hZ (hw _ (List.mem_of_getElem? (i := 109) rfl))) (mvT hZ (hw _ (List.mem_of_getElem? (i := 110) rfl))) (mvT hZ (hw _ (List.mem_of_getElem? (i := 111) rfl))) (mvT hZ (hw _ (List.mem_of_getElem? (i := 103) rfl))) (by decide) (backOf (W := 0) (rm_get4 l Z a0 hw [] x_439 b_439 k_439 r0_439 r1_439 r2_439 r3_439 r4_439 r5_439 h439 n0 O451 w439_2 w439_3) hZ (hw _ (List.mem_of_getElem? (i := 112) rfl)) (hw _ (List.mem_of_getElem? (i := 68) rfl)) (by decide) (by decide)) q474a q474b q474c (g := (mkF me_ 135 #[.val (.int p0), .val (.int p1), .val (.int p2), .val (.int p3), .val (.int p4), .val (.int p5), .val (.double (FP.i2d p0)), .second, .val (.double (FP.i2d p1)), .second, .val (.double (FP.i2d p2)), .second, .val (.double (FP.i2d p3)), .second, .val (.double (FP.i2d p4)), .second, .val (.double (FP.i2d p5)), .second, .val (.ref b425), .val (.ref x_439), .val (.double (FP.i2d p0)), .second, .val (.double (FP.i2d p1)), .second, .val (.double (FP.i2d p2)), .second, .val (.double (FP.i2d p3)), .second, .unset, .unset, .unset, .unset] [(.int (4 : Int32)), (.ref x_439)])) rfl (by rw [hml]; rfl) (Steps.refl _) (argsL := [(.int (4 : Int32))]) (rest := []) (lenOf pd_10 rfl) rfl (by show 2 * 0 + _ ≤ _; exact Nat.le_of_eq rfl) (hb hby at_135) (fun _ _ => ⟨rfl, eq472, (by decide : 9 + 0 ≤ _), (by decide : 20 + 0 ≤ _)⟩)
  dsimp only [Pt.U, Pt.locs, Pt.cells, Pt.slots] at X474 l474 y474 z474 st474 hQ474
  subst l474 y474 z474
  obtain ⟨rfl, Nq474, eq474⟩ := hQ474
  have N475 := Fr.app N473 Nq474
  refine gv (fun tQ kQ => st474.trans kQ) ?_
  show G (T474.setTop (mkF me_ 140 #[.val (.int p0), .val (.int p1), .val (.int p2), .val (.int p3), .val (.int p4), .val (.int p5), .val (.double (FP.i2d p0)), .second, .val (.double (FP.i2d p1)), .second, .val (.double (FP.i2d p2)), .second, .val (.double (FP.i2d p3)), .second, .val (.double (FP.i2d p4)), .second, .val (.double (FP.i2d p5)), .second, .val (.ref b425), .val (.ref x_439), .val (.double (FP.i2d p0)), .second, .val (.double (FP.i2d p1)), .second, .val (.double (FP.i2d p2)), .second, .val (.double (FP.i2d p3)), .second, .unset, .unset, .unset, .unset] [(.ref r4_439)]))
  obtain ⟨T476, X476, e476, st476⟩ := castY X474 hx hZ hown (hw _ (List.mem_of_getElem? (i := 113) rfl)) eq474 (Ins.self w439_8) (g := (mkF me_ 140 #[.val (.int p0), .val (.int p1), .val (.int p2), .val (.int p3), .val (.int p4), .val (.int p5), .val (.double (FP.i2d p0)), .second, .val (.double (FP.i2d p1)), .second, .val (.double (FP.i2d p2)), .second, .val (.double (FP.i2d p3)), .second, .val (.double (FP.i2d p4)), .second, .val (.double (FP.i2d p5)), .second, .val (.ref b425), .val (.ref x_439), .val (.double (FP.i2d p0)), .second, .val (.double (FP.i2d p1)), .second, .val (.double (FP.i2d p2)), .second, .val (.double (FP.i2d p3)), .second, .unset, .unset, .unset, .unset] [(.ref r4_439)])) rfl rfl (hb hby at_140)
  refine gv st476 ?_
  show G (T476.setTop (mkF me_ 143 #[.val (.int p0), .val (.int p1), .val (.int p2), .val (.int p3), .val (.int p4), .val (.int p5), .val (.double (FP.i2d p0)), .second, .val (.double (FP.i2d p1)), .second, .val (.double (FP.i2d p2)), .second, .val (.double (FP.i2d p3)), .second, .val (.double (FP.i2d p4)), .second, .val (.double (FP.i2d p5)), .second, .val (.ref b425), .val (.ref x_439), .val (.double (FP.i2d p0)), .second, .val (.double (FP.i2d p1)), .second, .val (.double (FP.i2d p2)), .second, .val (.double (FP.i2d p3)), .second, .unset, .unset, .unset, .unset] [(.ref r4_439)]))
  obtain ⟨cq477, kq477, q477a, q477b, q477c⟩ := isOf hZ e476 w439_8
  obtain ⟨_, _, ⟨T477, L477, k477, n477⟩, -, X477, ⟨Lc477, hQ477, l477, y477, z477⟩, st477⟩ := X476.virtualBack hx (y := (⟨"java/lang/Double", "doubleValue", "()D"⟩ : MethodName)) (z := (⟨"java/lang/Double", "doubleValue", "()D"⟩ : MethodName)) hown (mvT hZ (hw _ (List.mem_of_getElem? (i := 114) rfl))) (mvT hZ (hw _ (List.mem_of_getElem? (i := 115) rfl))) (notFace_of_selects (args := #[]) (mvT hZ (hw _ (List.mem_of_getElem? (i := 117) rfl)))) (mvT hZ (hw _ (List.mem_of_getElem? (i := 117) rfl))) (mvT hZ (hw _ (List.mem_of_getElem? (i := 116) rfl))) (by decide) (backOf (W := 0) (rm_dv l Z a0 hw [] r4_439 (FP.i2d p4) h439 n0 O451 w439_14) hZ (hw _ (List.mem_of_getElem? (i := 118) rfl)) (hw _ (List.mem_of_getElem? (i := 33) rfl)) (by decide) (by decide)) q477a q477c (g := (mkF me_ 143 #[.val (.int p0), .val (.int p1), .val (.int p2), .val (.int p3), .val (.int p4), .val (.int p5), .val (.double (FP.i2d p0)), .second, .val (.double (FP.i2d p1)), .second, .val (.double (FP.i2d p2)), .second, .val (.double (FP.i2d p3)), .second, .val (.double (FP.i2d p4)), .second, .val (.double (FP.i2d p5)), .second, .val (.ref b425), .val (.ref x_439), .val (.double (FP.i2d p0)), .second, .val (.double (FP.i2d p1)), .second, .val (.double (FP.i2d p2)), .second, .val (.double (FP.i2d p3)), .second, .unset, .unset, .unset, .unset] [(.ref r4_439)])) rfl (by rw [hml]; rfl) (Steps.refl _) (argsL := []) (rest := []) (lenOf pd_11 rfl) rfl (by show 2 * 0 + _ ≤ _; exact Nat.le_of_eq rfl) (hb hby at_143) (fun _ _ => ⟨rfl, e476, (by decide : 9 + 0 ≤ _), (by decide : 20 + 0 ≤ _)⟩)
  dsimp only [Pt.U, Pt.locs, Pt.cells, Pt.slots] at X477 l477 y477 z477 st477 hQ477
  subst l477 y477 z477
  obtain ⟨rfl, Nq477, eq477⟩ := hQ477
  have N478 := Fr.app N475 Nq477
  refine gv (fun tQ kQ => st477.trans kQ) ?_
  show G (T477.setTop (mkF me_ 146 #[.val (.int p0), .val (.int p1), .val (.int p2), .val (.int p3), .val (.int p4), .val (.int p5), .val (.double (FP.i2d p0)), .second, .val (.double (FP.i2d p1)), .second, .val (.double (FP.i2d p2)), .second, .val (.double (FP.i2d p3)), .second, .val (.double (FP.i2d p4)), .second, .val (.double (FP.i2d p5)), .second, .val (.ref b425), .val (.ref x_439), .val (.double (FP.i2d p0)), .second, .val (.double (FP.i2d p1)), .second, .val (.double (FP.i2d p2)), .second, .val (.double (FP.i2d p3)), .second, .unset, .unset, .unset, .unset] [(.double (FP.i2d p4))]))
  refine gv (fun tQ kQ => XS.dstore X477.here hx rfl (hb hby at_146) rfl (l' := #[.val (.int p0), .val (.int p1), .val (.int p2), .val (.int p3), .val (.int p4), .val (.int p5), .val (.double (FP.i2d p0)), .second, .val (.double (FP.i2d p1)), .second, .val (.double (FP.i2d p2)), .second, .val (.double (FP.i2d p3)), .second, .val (.double (FP.i2d p4)), .second, .val (.double (FP.i2d p5)), .second, .val (.ref b425), .val (.ref x_439), .val (.double (FP.i2d p0)), .second, .val (.double (FP.i2d p1)), .second, .val (.double (FP.i2d p2)), .second, .val (.double (FP.i2d p3)), .second, .val (.double (FP.i2d p4)), .second, .unset, .unset]) rfl kQ) ?_
  show G (T477.setTop (mkF me_ 148 #[.val (.int p0), .val (.int p1), .val (.int p2), .val (.int p3), .val (.int p4), .val (.int p5), .val (.double (FP.i2d p0)), .second, .val (.double (FP.i2d p1)), .second, .val (.double (FP.i2d p2)), .second, .val (.double (FP.i2d p3)), .second, .val (.double (FP.i2d p4)), .second, .val (.double (FP.i2d p5)), .second, .val (.ref b425), .val (.ref x_439), .val (.double (FP.i2d p0)), .second, .val (.double (FP.i2d p1)), .second, .val (.double (FP.i2d p2)), .second, .val (.double (FP.i2d p3)), .second, .val (.double (FP.i2d p4)), .second, .unset, .unset] []))
  refine gv (fun tQ kQ => XS.aload X477.here hx rfl (hb hby at_148) rfl rfl kQ) ?_
  show G (T477.setTop (mkF me_ 150 #[.val (.int p0), .val (.int p1), .val (.int p2), .val (.int p3), .val (.int p4), .val (.int p5), .val (.double (FP.i2d p0)), .second, .val (.double (FP.i2d p1)), .second, .val (.double (FP.i2d p2)), .second, .val (.double (FP.i2d p3)), .second, .val (.double (FP.i2d p4)), .second, .val (.double (FP.i2d p5)), .second, .val (.ref b425), .val (.ref x_439), .val (.double (FP.i2d p0)), .second, .val (.double (FP.i2d p1)), .second, .val (.double (FP.i2d p2)), .second, .val (.double (FP.i2d p3)), .second, .val (.double (FP.i2d p4)), .second, .unset, .unset] [(.ref x_439)]))
  refine gv (fun tQ kQ => XS.iconst X477.here hx rfl (hb hby at_150) kQ) ?_
  show G (T477.setTop (mkF me_ 151 #[.val (.int p0), .val (.int p1), .val (.int p2), .val (.int p3), .val (.int p4), .val (.int p5), .val (.double (FP.i2d p0)), .second, .val (.double (FP.i2d p1)), .second, .val (.double (FP.i2d p2)), .second, .val (.double (FP.i2d p3)), .second, .val (.double (FP.i2d p4)), .second, .val (.double (FP.i2d p5)), .second, .val (.ref b425), .val (.ref x_439), .val (.double (FP.i2d p0)), .second, .val (.double (FP.i2d p1)), .second, .val (.double (FP.i2d p2)), .second, .val (.double (FP.i2d p3)), .second, .val (.double (FP.i2d p4)), .second, .unset, .unset] [(.int (5 : Int32)), (.ref x_439)]))
  obtain ⟨cq479, kq479, q479a, q479b, q479c⟩ := isOf hZ eq477 w439_1
  obtain ⟨_, _, ⟨T479, L479, k479, n479⟩, -, X479, ⟨Lc479, hQ479, l479, y479, z479⟩, st479⟩ := X477.interfaceBack hx (xi := (⟨"java/util/List", "get", "(I)Ljava/lang/Object;"⟩ : MethodName)) (y := (⟨"java/util/ImmutableCollections$ListN", "get", "(I)Ljava/lang/Object;"⟩ : MethodName)) hown (mvT hZ (hw _ (List.mem_of_getElem? (i := 105) rfl))) (mvT hZ (hw _ (List.mem_of_getElem? (i := 106) rfl))) (mvT hZ (hw _ (List.mem_of_getElem? (i := 107) rfl))) (mvT hZ (hw _ (List.mem_of_getElem? (i := 108) rfl))) (mvT hZ (hw _ (List.mem_of_getElem? (i := 109) rfl))) (mvT hZ (hw _ (List.mem_of_getElem? (i := 110) rfl))) (mvT hZ (hw _ (List.mem_of_getElem? (i := 111) rfl))) (mvT hZ (hw _ (List.mem_of_getElem? (i := 103) rfl))) (by decide) (backOf (W := 0) (rm_get5 l Z a0 hw [] x_439 b_439 k_439 r0_439 r1_439 r2_439 r3_439 r4_439 r5_439 h439 n0 O451 w439_2 w439_3) hZ (hw _ (List.mem_of_getElem? (i := 112) rfl)) (hw _ (List.mem_of_getElem? (i := 68) rfl)) (by decide) (by decide)) q479a q479b q479c (g := (mkF me_ 151 #[.val (.int p0), .val (.int p1), .val (.int p2), .val (.int p3), .val (.int p4), .val (.int p5), .val (.double (FP.i2d p0)), .second, .val (.double (FP.i2d p1)), .second, .val (.double (FP.i2d p2)), .second, .val (.double (FP.i2d p3)), .second, .val (.double (FP.i2d p4)), .second, .val (.double (FP.i2d p5)), .second, .val (.ref b425), .val (.ref x_439), .val (.double (FP.i2d p0)), .second, .val (.double (FP.i2d p1)), .second, .val (.double (FP.i2d p2)), .second, .val (.double (FP.i2d p3)), .second, .val (.double (FP.i2d p4)), .second, .unset, .unset] [(.int (5 : Int32)), (.ref x_439)])) rfl (by rw [hml]; rfl) (Steps.refl _) (argsL := [(.int (5 : Int32))]) (rest := []) (lenOf pd_10 rfl) rfl (by show 2 * 0 + _ ≤ _; exact Nat.le_of_eq rfl) (hb hby at_151) (fun _ _ => ⟨rfl, eq477, (by decide : 9 + 0 ≤ _), (by decide : 20 + 0 ≤ _)⟩)
  dsimp only [Pt.U, Pt.locs, Pt.cells, Pt.slots] at X479 l479 y479 z479 st479 hQ479
  subst l479 y479 z479
  obtain ⟨rfl, Nq479, eq479⟩ := hQ479
  have N480 := Fr.app N478 Nq479
  refine gv (fun tQ kQ => st479.trans kQ) ?_
  show G (T479.setTop (mkF me_ 156 #[.val (.int p0), .val (.int p1), .val (.int p2), .val (.int p3), .val (.int p4), .val (.int p5), .val (.double (FP.i2d p0)), .second, .val (.double (FP.i2d p1)), .second, .val (.double (FP.i2d p2)), .second, .val (.double (FP.i2d p3)), .second, .val (.double (FP.i2d p4)), .second, .val (.double (FP.i2d p5)), .second, .val (.ref b425), .val (.ref x_439), .val (.double (FP.i2d p0)), .second, .val (.double (FP.i2d p1)), .second, .val (.double (FP.i2d p2)), .second, .val (.double (FP.i2d p3)), .second, .val (.double (FP.i2d p4)), .second, .unset, .unset] [(.ref r5_439)]))
  obtain ⟨T481, X481, e481, st481⟩ := castY X479 hx hZ hown (hw _ (List.mem_of_getElem? (i := 113) rfl)) eq479 (Ins.self w439_9) (g := (mkF me_ 156 #[.val (.int p0), .val (.int p1), .val (.int p2), .val (.int p3), .val (.int p4), .val (.int p5), .val (.double (FP.i2d p0)), .second, .val (.double (FP.i2d p1)), .second, .val (.double (FP.i2d p2)), .second, .val (.double (FP.i2d p3)), .second, .val (.double (FP.i2d p4)), .second, .val (.double (FP.i2d p5)), .second, .val (.ref b425), .val (.ref x_439), .val (.double (FP.i2d p0)), .second, .val (.double (FP.i2d p1)), .second, .val (.double (FP.i2d p2)), .second, .val (.double (FP.i2d p3)), .second, .val (.double (FP.i2d p4)), .second, .unset, .unset] [(.ref r5_439)])) rfl rfl (hb hby at_156)
  refine gv st481 ?_
  show G (T481.setTop (mkF me_ 159 #[.val (.int p0), .val (.int p1), .val (.int p2), .val (.int p3), .val (.int p4), .val (.int p5), .val (.double (FP.i2d p0)), .second, .val (.double (FP.i2d p1)), .second, .val (.double (FP.i2d p2)), .second, .val (.double (FP.i2d p3)), .second, .val (.double (FP.i2d p4)), .second, .val (.double (FP.i2d p5)), .second, .val (.ref b425), .val (.ref x_439), .val (.double (FP.i2d p0)), .second, .val (.double (FP.i2d p1)), .second, .val (.double (FP.i2d p2)), .second, .val (.double (FP.i2d p3)), .second, .val (.double (FP.i2d p4)), .second, .unset, .unset] [(.ref r5_439)]))
  obtain ⟨cq482, kq482, q482a, q482b, q482c⟩ := isOf hZ e481 w439_9
  obtain ⟨_, _, ⟨T482, L482, k482, n482⟩, -, X482, ⟨Lc482, hQ482, l482, y482, z482⟩, st482⟩ := X481.virtualBack hx (y := (⟨"java/lang/Double", "doubleValue", "()D"⟩ : MethodName)) (z := (⟨"java/lang/Double", "doubleValue", "()D"⟩ : MethodName)) hown (mvT hZ (hw _ (List.mem_of_getElem? (i := 114) rfl))) (mvT hZ (hw _ (List.mem_of_getElem? (i := 115) rfl))) (notFace_of_selects (args := #[]) (mvT hZ (hw _ (List.mem_of_getElem? (i := 117) rfl)))) (mvT hZ (hw _ (List.mem_of_getElem? (i := 117) rfl))) (mvT hZ (hw _ (List.mem_of_getElem? (i := 116) rfl))) (by decide) (backOf (W := 0) (rm_dv l Z a0 hw [] r5_439 (FP.i2d p5) h439 n0 O451 w439_15) hZ (hw _ (List.mem_of_getElem? (i := 118) rfl)) (hw _ (List.mem_of_getElem? (i := 33) rfl)) (by decide) (by decide)) q482a q482c (g := (mkF me_ 159 #[.val (.int p0), .val (.int p1), .val (.int p2), .val (.int p3), .val (.int p4), .val (.int p5), .val (.double (FP.i2d p0)), .second, .val (.double (FP.i2d p1)), .second, .val (.double (FP.i2d p2)), .second, .val (.double (FP.i2d p3)), .second, .val (.double (FP.i2d p4)), .second, .val (.double (FP.i2d p5)), .second, .val (.ref b425), .val (.ref x_439), .val (.double (FP.i2d p0)), .second, .val (.double (FP.i2d p1)), .second, .val (.double (FP.i2d p2)), .second, .val (.double (FP.i2d p3)), .second, .val (.double (FP.i2d p4)), .second, .unset, .unset] [(.ref r5_439)])) rfl (by rw [hml]; rfl) (Steps.refl _) (argsL := []) (rest := []) (lenOf pd_11 rfl) rfl (by show 2 * 0 + _ ≤ _; exact Nat.le_of_eq rfl) (hb hby at_159) (fun _ _ => ⟨rfl, e481, (by decide : 9 + 0 ≤ _), (by decide : 20 + 0 ≤ _)⟩)
  dsimp only [Pt.U, Pt.locs, Pt.cells, Pt.slots] at X482 l482 y482 z482 st482 hQ482
  subst l482 y482 z482
  obtain ⟨rfl, Nq482, eq482⟩ := hQ482
  have N483 := Fr.app N480 Nq482
  refine gv (fun tQ kQ => st482.trans kQ) ?_
  show G (T482.setTop (mkF me_ 162 #[.val (.int p0), .val (.int p1), .val (.int p2), .val (.int p3), .val (.int p4), .val (.int p5), .val (.double (FP.i2d p0)), .second, .val (.double (FP.i2d p1)), .second, .val (.double (FP.i2d p2)), .second, .val (.double (FP.i2d p3)), .second, .val (.double (FP.i2d p4)), .second, .val (.double (FP.i2d p5)), .second, .val (.ref b425), .val (.ref x_439), .val (.double (FP.i2d p0)), .second, .val (.double (FP.i2d p1)), .second, .val (.double (FP.i2d p2)), .second, .val (.double (FP.i2d p3)), .second, .val (.double (FP.i2d p4)), .second, .unset, .unset] [(.double (FP.i2d p5))]))
  refine gv (fun tQ kQ => XS.dstore X482.here hx rfl (hb hby at_162) rfl (l' := #[.val (.int p0), .val (.int p1), .val (.int p2), .val (.int p3), .val (.int p4), .val (.int p5), .val (.double (FP.i2d p0)), .second, .val (.double (FP.i2d p1)), .second, .val (.double (FP.i2d p2)), .second, .val (.double (FP.i2d p3)), .second, .val (.double (FP.i2d p4)), .second, .val (.double (FP.i2d p5)), .second, .val (.ref b425), .val (.ref x_439), .val (.double (FP.i2d p0)), .second, .val (.double (FP.i2d p1)), .second, .val (.double (FP.i2d p2)), .second, .val (.double (FP.i2d p3)), .second, .val (.double (FP.i2d p4)), .second, .val (.double (FP.i2d p5)), .second]) rfl kQ) ?_
  show G (T482.setTop (mkF me_ 164 #[.val (.int p0), .val (.int p1), .val (.int p2), .val (.int p3), .val (.int p4), .val (.int p5), .val (.double (FP.i2d p0)), .second, .val (.double (FP.i2d p1)), .second, .val (.double (FP.i2d p2)), .second, .val (.double (FP.i2d p3)), .second, .val (.double (FP.i2d p4)), .second, .val (.double (FP.i2d p5)), .second, .val (.ref b425), .val (.ref x_439), .val (.double (FP.i2d p0)), .second, .val (.double (FP.i2d p1)), .second, .val (.double (FP.i2d p2)), .second, .val (.double (FP.i2d p3)), .second, .val (.double (FP.i2d p4)), .second, .val (.double (FP.i2d p5)), .second] []))
  refine gv (fun tQ kQ => XS.dload X482.here hx rfl (hb hby at_164) rfl kQ) ?_
  show G (T482.setTop (mkF me_ 166 #[.val (.int p0), .val (.int p1), .val (.int p2), .val (.int p3), .val (.int p4), .val (.int p5), .val (.double (FP.i2d p0)), .second, .val (.double (FP.i2d p1)), .second, .val (.double (FP.i2d p2)), .second, .val (.double (FP.i2d p3)), .second, .val (.double (FP.i2d p4)), .second, .val (.double (FP.i2d p5)), .second, .val (.ref b425), .val (.ref x_439), .val (.double (FP.i2d p0)), .second, .val (.double (FP.i2d p1)), .second, .val (.double (FP.i2d p2)), .second, .val (.double (FP.i2d p3)), .second, .val (.double (FP.i2d p4)), .second, .val (.double (FP.i2d p5)), .second] [(.double (FP.i2d p0))]))
  refine gv (fun tQ kQ => XS.dload X482.here hx rfl (hb hby at_166) rfl kQ) ?_
  show G (T482.setTop (mkF me_ 168 #[.val (.int p0), .val (.int p1), .val (.int p2), .val (.int p3), .val (.int p4), .val (.int p5), .val (.double (FP.i2d p0)), .second, .val (.double (FP.i2d p1)), .second, .val (.double (FP.i2d p2)), .second, .val (.double (FP.i2d p3)), .second, .val (.double (FP.i2d p4)), .second, .val (.double (FP.i2d p5)), .second, .val (.ref b425), .val (.ref x_439), .val (.double (FP.i2d p0)), .second, .val (.double (FP.i2d p1)), .second, .val (.double (FP.i2d p2)), .second, .val (.double (FP.i2d p3)), .second, .val (.double (FP.i2d p4)), .second, .val (.double (FP.i2d p5)), .second] [(.double (FP.i2d p0)), (.double (FP.i2d p0))]))
  refine gv (fun tQ kQ => XS.dcmpS (v := (0 : Int32)) X482.here hx rfl (hb hby at_168) rfl (dcmpV_self (own_nni2d p0) .l) kQ) ?_
  show G (T482.setTop (mkF me_ 169 #[.val (.int p0), .val (.int p1), .val (.int p2), .val (.int p3), .val (.int p4), .val (.int p5), .val (.double (FP.i2d p0)), .second, .val (.double (FP.i2d p1)), .second, .val (.double (FP.i2d p2)), .second, .val (.double (FP.i2d p3)), .second, .val (.double (FP.i2d p4)), .second, .val (.double (FP.i2d p5)), .second, .val (.ref b425), .val (.ref x_439), .val (.double (FP.i2d p0)), .second, .val (.double (FP.i2d p1)), .second, .val (.double (FP.i2d p2)), .second, .val (.double (FP.i2d p3)), .second, .val (.double (FP.i2d p4)), .second, .val (.double (FP.i2d p5)), .second] [(.int (0 : Int32))]))
  refine gv (fun tQ kQ => XS.ifNo X482.here hx rfl (hb hby at_169) rfl ((if0 _ _).trans (teq (by decide : (0 : Int32) = (0 : Int32))).2) kQ) ?_
  show G (T482.setTop (mkF me_ 172 #[.val (.int p0), .val (.int p1), .val (.int p2), .val (.int p3), .val (.int p4), .val (.int p5), .val (.double (FP.i2d p0)), .second, .val (.double (FP.i2d p1)), .second, .val (.double (FP.i2d p2)), .second, .val (.double (FP.i2d p3)), .second, .val (.double (FP.i2d p4)), .second, .val (.double (FP.i2d p5)), .second, .val (.ref b425), .val (.ref x_439), .val (.double (FP.i2d p0)), .second, .val (.double (FP.i2d p1)), .second, .val (.double (FP.i2d p2)), .second, .val (.double (FP.i2d p3)), .second, .val (.double (FP.i2d p4)), .second, .val (.double (FP.i2d p5)), .second] []))
  refine gv (fun tQ kQ => XS.dload X482.here hx rfl (hb hby at_172) rfl kQ) ?_
  show G (T482.setTop (mkF me_ 174 #[.val (.int p0), .val (.int p1), .val (.int p2), .val (.int p3), .val (.int p4), .val (.int p5), .val (.double (FP.i2d p0)), .second, .val (.double (FP.i2d p1)), .second, .val (.double (FP.i2d p2)), .second, .val (.double (FP.i2d p3)), .second, .val (.double (FP.i2d p4)), .second, .val (.double (FP.i2d p5)), .second, .val (.ref b425), .val (.ref x_439), .val (.double (FP.i2d p0)), .second, .val (.double (FP.i2d p1)), .second, .val (.double (FP.i2d p2)), .second, .val (.double (FP.i2d p3)), .second, .val (.double (FP.i2d p4)), .second, .val (.double (FP.i2d p5)), .second] [(.double (FP.i2d p1))]))
  refine gv (fun tQ kQ => XS.dload X482.here hx rfl (hb hby at_174) rfl kQ) ?_
  show G (T482.setTop (mkF me_ 176 #[.val (.int p0), .val (.int p1), .val (.int p2), .val (.int p3), .val (.int p4), .val (.int p5), .val (.double (FP.i2d p0)), .second, .val (.double (FP.i2d p1)), .second, .val (.double (FP.i2d p2)), .second, .val (.double (FP.i2d p3)), .second, .val (.double (FP.i2d p4)), .second, .val (.double (FP.i2d p5)), .second, .val (.ref b425), .val (.ref x_439), .val (.double (FP.i2d p0)), .second, .val (.double (FP.i2d p1)), .second, .val (.double (FP.i2d p2)), .second, .val (.double (FP.i2d p3)), .second, .val (.double (FP.i2d p4)), .second, .val (.double (FP.i2d p5)), .second] [(.double (FP.i2d p1)), (.double (FP.i2d p1))]))
  refine gv (fun tQ kQ => XS.dcmpS (v := (0 : Int32)) X482.here hx rfl (hb hby at_176) rfl (dcmpV_self (own_nni2d p1) .l) kQ) ?_
  show G (T482.setTop (mkF me_ 177 #[.val (.int p0), .val (.int p1), .val (.int p2), .val (.int p3), .val (.int p4), .val (.int p5), .val (.double (FP.i2d p0)), .second, .val (.double (FP.i2d p1)), .second, .val (.double (FP.i2d p2)), .second, .val (.double (FP.i2d p3)), .second, .val (.double (FP.i2d p4)), .second, .val (.double (FP.i2d p5)), .second, .val (.ref b425), .val (.ref x_439), .val (.double (FP.i2d p0)), .second, .val (.double (FP.i2d p1)), .second, .val (.double (FP.i2d p2)), .second, .val (.double (FP.i2d p3)), .second, .val (.double (FP.i2d p4)), .second, .val (.double (FP.i2d p5)), .second] [(.int (0 : Int32))]))
  refine gv (fun tQ kQ => XS.ifNo X482.here hx rfl (hb hby at_177) rfl ((if0 _ _).trans (teq (by decide : (0 : Int32) = (0 : Int32))).2) kQ) ?_
  show G (T482.setTop (mkF me_ 180 #[.val (.int p0), .val (.int p1), .val (.int p2), .val (.int p3), .val (.int p4), .val (.int p5), .val (.double (FP.i2d p0)), .second, .val (.double (FP.i2d p1)), .second, .val (.double (FP.i2d p2)), .second, .val (.double (FP.i2d p3)), .second, .val (.double (FP.i2d p4)), .second, .val (.double (FP.i2d p5)), .second, .val (.ref b425), .val (.ref x_439), .val (.double (FP.i2d p0)), .second, .val (.double (FP.i2d p1)), .second, .val (.double (FP.i2d p2)), .second, .val (.double (FP.i2d p3)), .second, .val (.double (FP.i2d p4)), .second, .val (.double (FP.i2d p5)), .second] []))
  refine gv (fun tQ kQ => XS.dload X482.here hx rfl (hb hby at_180) rfl kQ) ?_
  show G (T482.setTop (mkF me_ 182 #[.val (.int p0), .val (.int p1), .val (.int p2), .val (.int p3), .val (.int p4), .val (.int p5), .val (.double (FP.i2d p0)), .second, .val (.double (FP.i2d p1)), .second, .val (.double (FP.i2d p2)), .second, .val (.double (FP.i2d p3)), .second, .val (.double (FP.i2d p4)), .second, .val (.double (FP.i2d p5)), .second, .val (.ref b425), .val (.ref x_439), .val (.double (FP.i2d p0)), .second, .val (.double (FP.i2d p1)), .second, .val (.double (FP.i2d p2)), .second, .val (.double (FP.i2d p3)), .second, .val (.double (FP.i2d p4)), .second, .val (.double (FP.i2d p5)), .second] [(.double (FP.i2d p2))]))
  refine gv (fun tQ kQ => XS.dload X482.here hx rfl (hb hby at_182) rfl kQ) ?_
  show G (T482.setTop (mkF me_ 184 #[.val (.int p0), .val (.int p1), .val (.int p2), .val (.int p3), .val (.int p4), .val (.int p5), .val (.double (FP.i2d p0)), .second, .val (.double (FP.i2d p1)), .second, .val (.double (FP.i2d p2)), .second, .val (.double (FP.i2d p3)), .second, .val (.double (FP.i2d p4)), .second, .val (.double (FP.i2d p5)), .second, .val (.ref b425), .val (.ref x_439), .val (.double (FP.i2d p0)), .second, .val (.double (FP.i2d p1)), .second, .val (.double (FP.i2d p2)), .second, .val (.double (FP.i2d p3)), .second, .val (.double (FP.i2d p4)), .second, .val (.double (FP.i2d p5)), .second] [(.double (FP.i2d p2)), (.double (FP.i2d p2))]))
  refine gv (fun tQ kQ => XS.dcmpS (v := (0 : Int32)) X482.here hx rfl (hb hby at_184) rfl (dcmpV_self (own_nni2d p2) .l) kQ) ?_
  show G (T482.setTop (mkF me_ 185 #[.val (.int p0), .val (.int p1), .val (.int p2), .val (.int p3), .val (.int p4), .val (.int p5), .val (.double (FP.i2d p0)), .second, .val (.double (FP.i2d p1)), .second, .val (.double (FP.i2d p2)), .second, .val (.double (FP.i2d p3)), .second, .val (.double (FP.i2d p4)), .second, .val (.double (FP.i2d p5)), .second, .val (.ref b425), .val (.ref x_439), .val (.double (FP.i2d p0)), .second, .val (.double (FP.i2d p1)), .second, .val (.double (FP.i2d p2)), .second, .val (.double (FP.i2d p3)), .second, .val (.double (FP.i2d p4)), .second, .val (.double (FP.i2d p5)), .second] [(.int (0 : Int32))]))
  refine gv (fun tQ kQ => XS.ifNo X482.here hx rfl (hb hby at_185) rfl ((if0 _ _).trans (teq (by decide : (0 : Int32) = (0 : Int32))).2) kQ) ?_
  show G (T482.setTop (mkF me_ 188 #[.val (.int p0), .val (.int p1), .val (.int p2), .val (.int p3), .val (.int p4), .val (.int p5), .val (.double (FP.i2d p0)), .second, .val (.double (FP.i2d p1)), .second, .val (.double (FP.i2d p2)), .second, .val (.double (FP.i2d p3)), .second, .val (.double (FP.i2d p4)), .second, .val (.double (FP.i2d p5)), .second, .val (.ref b425), .val (.ref x_439), .val (.double (FP.i2d p0)), .second, .val (.double (FP.i2d p1)), .second, .val (.double (FP.i2d p2)), .second, .val (.double (FP.i2d p3)), .second, .val (.double (FP.i2d p4)), .second, .val (.double (FP.i2d p5)), .second] []))
  refine gv (fun tQ kQ => XS.dload X482.here hx rfl (hb hby at_188) rfl kQ) ?_
  show G (T482.setTop (mkF me_ 190 #[.val (.int p0), .val (.int p1), .val (.int p2), .val (.int p3), .val (.int p4), .val (.int p5), .val (.double (FP.i2d p0)), .second, .val (.double (FP.i2d p1)), .second, .val (.double (FP.i2d p2)), .second, .val (.double (FP.i2d p3)), .second, .val (.double (FP.i2d p4)), .second, .val (.double (FP.i2d p5)), .second, .val (.ref b425), .val (.ref x_439), .val (.double (FP.i2d p0)), .second, .val (.double (FP.i2d p1)), .second, .val (.double (FP.i2d p2)), .second, .val (.double (FP.i2d p3)), .second, .val (.double (FP.i2d p4)), .second, .val (.double (FP.i2d p5)), .second] [(.double (FP.i2d p3))]))
  refine gv (fun tQ kQ => XS.dload X482.here hx rfl (hb hby at_190) rfl kQ) ?_
  show G (T482.setTop (mkF me_ 192 #[.val (.int p0), .val (.int p1), .val (.int p2), .val (.int p3), .val (.int p4), .val (.int p5), .val (.double (FP.i2d p0)), .second, .val (.double (FP.i2d p1)), .second, .val (.double (FP.i2d p2)), .second, .val (.double (FP.i2d p3)), .second, .val (.double (FP.i2d p4)), .second, .val (.double (FP.i2d p5)), .second, .val (.ref b425), .val (.ref x_439), .val (.double (FP.i2d p0)), .second, .val (.double (FP.i2d p1)), .second, .val (.double (FP.i2d p2)), .second, .val (.double (FP.i2d p3)), .second, .val (.double (FP.i2d p4)), .second, .val (.double (FP.i2d p5)), .second] [(.double (FP.i2d p3)), (.double (FP.i2d p3))]))
  refine gv (fun tQ kQ => XS.dcmpS (v := (0 : Int32)) X482.here hx rfl (hb hby at_192) rfl (dcmpV_self (own_nni2d p3) .l) kQ) ?_
  show G (T482.setTop (mkF me_ 193 #[.val (.int p0), .val (.int p1), .val (.int p2), .val (.int p3), .val (.int p4), .val (.int p5), .val (.double (FP.i2d p0)), .second, .val (.double (FP.i2d p1)), .second, .val (.double (FP.i2d p2)), .second, .val (.double (FP.i2d p3)), .second, .val (.double (FP.i2d p4)), .second, .val (.double (FP.i2d p5)), .second, .val (.ref b425), .val (.ref x_439), .val (.double (FP.i2d p0)), .second, .val (.double (FP.i2d p1)), .second, .val (.double (FP.i2d p2)), .second, .val (.double (FP.i2d p3)), .second, .val (.double (FP.i2d p4)), .second, .val (.double (FP.i2d p5)), .second] [(.int (0 : Int32))]))
  refine gv (fun tQ kQ => XS.ifNo X482.here hx rfl (hb hby at_193) rfl ((if0 _ _).trans (teq (by decide : (0 : Int32) = (0 : Int32))).2) kQ) ?_
  show G (T482.setTop (mkF me_ 196 #[.val (.int p0), .val (.int p1), .val (.int p2), .val (.int p3), .val (.int p4), .val (.int p5), .val (.double (FP.i2d p0)), .second, .val (.double (FP.i2d p1)), .second, .val (.double (FP.i2d p2)), .second, .val (.double (FP.i2d p3)), .second, .val (.double (FP.i2d p4)), .second, .val (.double (FP.i2d p5)), .second, .val (.ref b425), .val (.ref x_439), .val (.double (FP.i2d p0)), .second, .val (.double (FP.i2d p1)), .second, .val (.double (FP.i2d p2)), .second, .val (.double (FP.i2d p3)), .second, .val (.double (FP.i2d p4)), .second, .val (.double (FP.i2d p5)), .second] []))
  refine gv (fun tQ kQ => XS.dload X482.here hx rfl (hb hby at_196) rfl kQ) ?_
  show G (T482.setTop (mkF me_ 198 #[.val (.int p0), .val (.int p1), .val (.int p2), .val (.int p3), .val (.int p4), .val (.int p5), .val (.double (FP.i2d p0)), .second, .val (.double (FP.i2d p1)), .second, .val (.double (FP.i2d p2)), .second, .val (.double (FP.i2d p3)), .second, .val (.double (FP.i2d p4)), .second, .val (.double (FP.i2d p5)), .second, .val (.ref b425), .val (.ref x_439), .val (.double (FP.i2d p0)), .second, .val (.double (FP.i2d p1)), .second, .val (.double (FP.i2d p2)), .second, .val (.double (FP.i2d p3)), .second, .val (.double (FP.i2d p4)), .second, .val (.double (FP.i2d p5)), .second] [(.double (FP.i2d p4))]))
  refine gv (fun tQ kQ => XS.dload X482.here hx rfl (hb hby at_198) rfl kQ) ?_
  show G (T482.setTop (mkF me_ 200 #[.val (.int p0), .val (.int p1), .val (.int p2), .val (.int p3), .val (.int p4), .val (.int p5), .val (.double (FP.i2d p0)), .second, .val (.double (FP.i2d p1)), .second, .val (.double (FP.i2d p2)), .second, .val (.double (FP.i2d p3)), .second, .val (.double (FP.i2d p4)), .second, .val (.double (FP.i2d p5)), .second, .val (.ref b425), .val (.ref x_439), .val (.double (FP.i2d p0)), .second, .val (.double (FP.i2d p1)), .second, .val (.double (FP.i2d p2)), .second, .val (.double (FP.i2d p3)), .second, .val (.double (FP.i2d p4)), .second, .val (.double (FP.i2d p5)), .second] [(.double (FP.i2d p4)), (.double (FP.i2d p4))]))
  refine gv (fun tQ kQ => XS.dcmpS (v := (0 : Int32)) X482.here hx rfl (hb hby at_200) rfl (dcmpV_self (own_nni2d p4) .l) kQ) ?_
  show G (T482.setTop (mkF me_ 201 #[.val (.int p0), .val (.int p1), .val (.int p2), .val (.int p3), .val (.int p4), .val (.int p5), .val (.double (FP.i2d p0)), .second, .val (.double (FP.i2d p1)), .second, .val (.double (FP.i2d p2)), .second, .val (.double (FP.i2d p3)), .second, .val (.double (FP.i2d p4)), .second, .val (.double (FP.i2d p5)), .second, .val (.ref b425), .val (.ref x_439), .val (.double (FP.i2d p0)), .second, .val (.double (FP.i2d p1)), .second, .val (.double (FP.i2d p2)), .second, .val (.double (FP.i2d p3)), .second, .val (.double (FP.i2d p4)), .second, .val (.double (FP.i2d p5)), .second] [(.int (0 : Int32))]))
  refine gv (fun tQ kQ => XS.ifNo X482.here hx rfl (hb hby at_201) rfl ((if0 _ _).trans (teq (by decide : (0 : Int32) = (0 : Int32))).2) kQ) ?_
  show G (T482.setTop (mkF me_ 204 #[.val (.int p0), .val (.int p1), .val (.int p2), .val (.int p3), .val (.int p4), .val (.int p5), .val (.double (FP.i2d p0)), .second, .val (.double (FP.i2d p1)), .second, .val (.double (FP.i2d p2)), .second, .val (.double (FP.i2d p3)), .second, .val (.double (FP.i2d p4)), .second, .val (.double (FP.i2d p5)), .second, .val (.ref b425), .val (.ref x_439), .val (.double (FP.i2d p0)), .second, .val (.double (FP.i2d p1)), .second, .val (.double (FP.i2d p2)), .second, .val (.double (FP.i2d p3)), .second, .val (.double (FP.i2d p4)), .second, .val (.double (FP.i2d p5)), .second] []))
  refine gv (fun tQ kQ => XS.dload X482.here hx rfl (hb hby at_204) rfl kQ) ?_
  show G (T482.setTop (mkF me_ 206 #[.val (.int p0), .val (.int p1), .val (.int p2), .val (.int p3), .val (.int p4), .val (.int p5), .val (.double (FP.i2d p0)), .second, .val (.double (FP.i2d p1)), .second, .val (.double (FP.i2d p2)), .second, .val (.double (FP.i2d p3)), .second, .val (.double (FP.i2d p4)), .second, .val (.double (FP.i2d p5)), .second, .val (.ref b425), .val (.ref x_439), .val (.double (FP.i2d p0)), .second, .val (.double (FP.i2d p1)), .second, .val (.double (FP.i2d p2)), .second, .val (.double (FP.i2d p3)), .second, .val (.double (FP.i2d p4)), .second, .val (.double (FP.i2d p5)), .second] [(.double (FP.i2d p5))]))
  refine gv (fun tQ kQ => XS.dload X482.here hx rfl (hb hby at_206) rfl kQ) ?_
  show G (T482.setTop (mkF me_ 208 #[.val (.int p0), .val (.int p1), .val (.int p2), .val (.int p3), .val (.int p4), .val (.int p5), .val (.double (FP.i2d p0)), .second, .val (.double (FP.i2d p1)), .second, .val (.double (FP.i2d p2)), .second, .val (.double (FP.i2d p3)), .second, .val (.double (FP.i2d p4)), .second, .val (.double (FP.i2d p5)), .second, .val (.ref b425), .val (.ref x_439), .val (.double (FP.i2d p0)), .second, .val (.double (FP.i2d p1)), .second, .val (.double (FP.i2d p2)), .second, .val (.double (FP.i2d p3)), .second, .val (.double (FP.i2d p4)), .second, .val (.double (FP.i2d p5)), .second] [(.double (FP.i2d p5)), (.double (FP.i2d p5))]))
  refine gv (fun tQ kQ => XS.dcmpS (v := (0 : Int32)) X482.here hx rfl (hb hby at_208) rfl (dcmpV_self (own_nni2d p5) .l) kQ) ?_
  show G (T482.setTop (mkF me_ 209 #[.val (.int p0), .val (.int p1), .val (.int p2), .val (.int p3), .val (.int p4), .val (.int p5), .val (.double (FP.i2d p0)), .second, .val (.double (FP.i2d p1)), .second, .val (.double (FP.i2d p2)), .second, .val (.double (FP.i2d p3)), .second, .val (.double (FP.i2d p4)), .second, .val (.double (FP.i2d p5)), .second, .val (.ref b425), .val (.ref x_439), .val (.double (FP.i2d p0)), .second, .val (.double (FP.i2d p1)), .second, .val (.double (FP.i2d p2)), .second, .val (.double (FP.i2d p3)), .second, .val (.double (FP.i2d p4)), .second, .val (.double (FP.i2d p5)), .second] [(.int (0 : Int32))]))
  refine gv (fun tQ kQ => XS.ifNo X482.here hx rfl (hb hby at_209) rfl ((if0 _ _).trans (teq (by decide : (0 : Int32) = (0 : Int32))).2) kQ) ?_
  show G (T482.setTop (mkF me_ 212 #[.val (.int p0), .val (.int p1), .val (.int p2), .val (.int p3), .val (.int p4), .val (.int p5), .val (.double (FP.i2d p0)), .second, .val (.double (FP.i2d p1)), .second, .val (.double (FP.i2d p2)), .second, .val (.double (FP.i2d p3)), .second, .val (.double (FP.i2d p4)), .second, .val (.double (FP.i2d p5)), .second, .val (.ref b425), .val (.ref x_439), .val (.double (FP.i2d p0)), .second, .val (.double (FP.i2d p1)), .second, .val (.double (FP.i2d p2)), .second, .val (.double (FP.i2d p3)), .second, .val (.double (FP.i2d p4)), .second, .val (.double (FP.i2d p5)), .second] []))
  refine gv (fun tQ kQ => XS.iconst X482.here hx rfl (hb hby at_212) kQ) ?_
  show G (T482.setTop (mkF me_ 213 #[.val (.int p0), .val (.int p1), .val (.int p2), .val (.int p3), .val (.int p4), .val (.int p5), .val (.double (FP.i2d p0)), .second, .val (.double (FP.i2d p1)), .second, .val (.double (FP.i2d p2)), .second, .val (.double (FP.i2d p3)), .second, .val (.double (FP.i2d p4)), .second, .val (.double (FP.i2d p5)), .second, .val (.ref b425), .val (.ref x_439), .val (.double (FP.i2d p0)), .second, .val (.double (FP.i2d p1)), .second, .val (.double (FP.i2d p2)), .second, .val (.double (FP.i2d p3)), .second, .val (.double (FP.i2d p4)), .second, .val (.double (FP.i2d p5)), .second] [(.int (1 : Int32))]))
  refine gv (fun tQ kQ => XS.goto X482.here hx rfl (pc0 := 213) (pc' := 217) rfl (hb hby at_213) (by decide) (by decide) kQ) ?_
  show G (T482.setTop (mkF me_ 217 #[.val (.int p0), .val (.int p1), .val (.int p2), .val (.int p3), .val (.int p4), .val (.int p5), .val (.double (FP.i2d p0)), .second, .val (.double (FP.i2d p1)), .second, .val (.double (FP.i2d p2)), .second, .val (.double (FP.i2d p3)), .second, .val (.double (FP.i2d p4)), .second, .val (.double (FP.i2d p5)), .second, .val (.ref b425), .val (.ref x_439), .val (.double (FP.i2d p0)), .second, .val (.double (FP.i2d p1)), .second, .val (.double (FP.i2d p2)), .second, .val (.double (FP.i2d p3)), .second, .val (.double (FP.i2d p4)), .second, .val (.double (FP.i2d p5)), .second] [(.int (1 : Int32))]))
  refine gf _ (own_ret X482 Bd.notSynchronized (v := some (.int (1 : Int32))) (fun h => by rw [Bd.returns] at h; cases h) ?_ (by decide) (by decide) (fun fs hr => retN X482 hx (t := .boolean) Bd.returns (by simp) (hb hby at_217) hr))
  show Q0 Z p0 p1 p2 p3 p4 p5 h0 n0 _ T482.heap _
  rw [eq482]
  exact ⟨rfl, N483⟩
set_option maxRecDepth 65536 in
set_option maxHeartbeats 40000000 in
theorem comes_1 {Post : Tables → Env → Array Value → State → Outcome → State → Prop} (hpost : ∀ tb e args s v u, (limb_1_1.after args s (.returned v) u = true ∧ limb_1_2.after args s (.returned v) u = true ∧ True) → FrameEnd s (.returned v) u (Jvm.fieldLocs frame_1_writes args s ++ Jvm.arrayLocs frame_1_arrays args s ++ Jvm.staticLocs frame_1_statics s) 32 128 → Post tb e args s (.returned v) u) :
    ArmFor flags0 classFile x code maxLocals ret World_1 tables_1 room_1 Calls_1 rest_1 Pre_1 Post := by
  intro l hfl _ _ p e ha hc hk s m args below hf hA hF happ hP
  obtain ⟨hcalls, hrest, hpre⟩ := hP
  obtain ⟨-, -, -, hnamed, -, -, -, hat⟩ := (Spec.applies_iff hf).mp happ
  obtain ⟨hg, hn⟩ := and_e (Cond.before_iff.mp (show (Jvm.Cond.and given_1 narrow_1).before args s = true from hpre))
  obtain ⟨g1, g2⟩ := and_e hg
  obtain ⟨g3, g4⟩ := and_e g2
  obtain ⟨g5, g6⟩ := and_e g4
  obtain ⟨g7, g8⟩ := and_e g6
  obtain ⟨g9, g10⟩ := and_e g8
  obtain ⟨g11, g12⟩ := and_e g10
  obtain ⟨w0, w1, w2, w3, w4, w5, rfl⟩ : ∃ w0 w1 w2 w3 w4 w5 : Value, args = #[w0, w1, w2, w3, w4, w5] := by
    have hs : args.size = 6 := by simpa [Cond.value, given_1] using g1
    obtain ⟨L⟩ := args
    match L, hs with
    | [w0, w1, w2, w3, w4, w5], _ => exact ⟨w0, w1, w2, w3, w4, w5, rfl⟩
  have hw := fun d (hd : d ∈ tables_1) => atoms_spec (ws := Jvm.Cond.code x code maxLocals ret :: tables_1) hat d (List.mem_cons_of_mem _ hd)
  have hfit : Fit s := fun {y c} hc i hi => by
    obtain ⟨ha, rfl⟩ := Array.getElem?_eq_some_iff.mp hc
    have q := List.all_eq_true.mp ((Array.all_eq_true_iff_forall_mem.mp hF) _ (Array.getElem_mem ha)) i (List.mem_range.mpr hi)
    simpa [Array.getElem?_eq_getElem hi] using q
  obtain ⟨hsets, hown0⟩ := atoms_of _ (rest_1_c_eq ▸ (show rest_1_c.before _ s = true from hrest))
  obtain ⟨i0, ei0⟩ := is_v g3
  obtain rfl : w0 = (.int i0) := Option.some.inj ei0
  obtain ⟨i1, ei1⟩ := is_v g5
  obtain rfl : w1 = (.int i1) := Option.some.inj ei1
  obtain ⟨i2, ei2⟩ := is_v g7
  obtain rfl : w2 = (.int i2) := Option.some.inj ei2
  obtain ⟨i3, ei3⟩ := is_v g9
  obtain rfl : w3 = (.int i3) := Option.some.inj ei3
  obtain ⟨i4, ei4⟩ := is_v g11
  obtain rfl : w4 = (.int i4) := Option.some.inj ei4
  obtain ⟨i5, ei5⟩ := is_v g12
  obtain rfl : w5 = (.int i5) := Option.some.inj ei5
  have S_ad : Sta s s.heap "java/util/ImmutableCollections" "$assertionsDisabled" "Z" (.int 1) := Sta.start (eqv_i (Term.int_eval 1) (Cond.before_iff.mp (hsets _ (List.mem_of_getElem? (i := 5) rfl)))) (Or.inl (hsets _ (List.mem_of_getElem? (i := 4) rfl)))
  obtain ⟨n, o, h1, h2, h3, _, L, rfl, ⟨rfl, N⟩, hq⟩ := rm0 l s _ hw tables_1 i0 i1 i2 i3 i4 i5 s.heap s.heap.size (Old.start s) S_ad p e ha hc hk s m _ below hf ((Spec.applies_iff_loose hf).mp happ).1 ⟨rfl, State.Warmed39.refl s, rfl⟩ trivial
  refine ⟨n, _, h1, h2, h3, hpost _ _ _ _ _ _ ⟨Cond.after_iff.mpr rfl, Cond.after_iff.mpr (eq_i res_at (Term.int_eval (1)) rfl), trivial⟩ ⟨hq.1, hq.2.1, (hq.2.2.sift fun y hy => Or.inr (N y hy)).mono (by decide) (by decide)⟩⟩
theorem main_1_1 : Claimed_1_1 := comes_1 fun _ _ _ _ _ _ h hF => ⟨h.1, hF⟩
theorem main_1_2 : Claimed_1_2 := comes_1 fun _ _ _ _ _ _ h hF => ⟨h.2.1, hF⟩
end Jvm.Pilot.@@N@@
namespace Jvm.Pilot.@@N@@
open Jvm Jvm.ClassFile Sem Op Lib Jvm.Free Jvm.Stand Jvm.Pilot.@@N@@.Jvm.D
/-! MADE BY PROGRAM (witnessworld.py) out of the Statement's table words and the real class files: 27 classes; the members and pool entries that the words name. The judged class is class 1, her method 1. -/
namespace start1
open Jvm.ClassFile
def u (s : String) : CpInfo := .utf8 (stringToUtf16 s)
/-- a pool by its gaps: so many unusable entries, then the entry; so many at the end -/
def gap : Nat → List CpInfo → List CpInfo
  | 0, r => r
  | n + 1, r => .unusable :: gap n r
def poolList (es : List (Nat × CpInfo)) (last : Nat) : List CpInfo := es.foldr (fun e r => gap e.1 (e.2 :: r)) (gap last [])
def pool (es : List (Nat × CpInfo)) (last : Nat) : Array CpInfo := ⟨poolList es last⟩
def fileOf (pool : Array CpInfo) (this : Nat) (attrs : Array Attribute := #[]) (ms : Array MethodInfo := #[]) (fl : Nat := 33) (sup : Nat := 0) (ifs : Array Nat := #[]) (fds : Array FieldInfo := #[]) : ClassFile where
  minorVersion := 0
  majorVersion := 65
  constantPool := pool
  accessFlags := fl
  thisClass := this
  superClass := sup
  interfaces := ifs
  fields := fds
  methods := ms
  attributes := attrs
def plain (name : String) (sup : Option ClassId) : Class where
  name := name
  kind := .ordinary
  loader := none
  accessFlags := 33
  super := sup
  interfaces := #[]
  cf := none
  fields := #[]
  methods := #[]
  instanceTypes := #[]
  staticTypes := #[]
  resolved := #[]
  callSites := []
  init := .initialized
  statics := none
  mirror := none

def pool0 : Array CpInfo := pool [(5, u "<init>"), (0, u "()V"), (1, .class_ 10), (1, u "java/lang/Object")] 113

def k0c0 : Code := { maxStack := 0, maxLocals := 1, code := object_method_1_code, exceptionTable := #[], attributes := #[] }
def k0m0 : Method := { name := "<init>", desc := "()V", sig := { parameters := [], returnType := none }, accessFlags := 1, code := some k0c0 }
/-- java/lang/Object -/
def k0 : Class := { plain "java/lang/Object" none with
  accessFlags := 33
  interfaces := #[]
  cf := some (fileOf pool0 8 #[] #[{ accessFlags := 1, nameIndex := 5, descriptorIndex := 6, attributes := #[] }] 33 0 #[] #[])
  fields := #[]
  methods := #[k0m0]
  instanceTypes := #[]
  staticTypes := #[]
  resolved := Array.replicate 124 none
  statics := none }

def pool1 : Array CpInfo := pool [(2, .class_ 4), (1, u "java/lang/Object"), (0, u "<init>"), (0, u "()V"), (0, .class_ 8), (0, u "com/example/mehr/mehr/Measures"), (0, .methodref 7 10), (0, .nameAndType 5 11), (0, u "(DDDDDD)V"), (0, .methodref 7 13), (0, .nameAndType 14 15), (0, u "values"), (0, u "()Ljava/util/List;"), (0, .interfaceMethodref 17 18), (0, .class_ 19), (0, .nameAndType 20 21), (0, u "java/util/List"), (0, u "size"), (0, u "()I"), (0, .interfaceMethodref 17 23), (0, .nameAndType 24 25), (0, u "get"), (0, u "(I)Ljava/lang/Object;"), (0, .class_ 27), (0, u "java/lang/Double"), (0, .methodref 26 29), (0, .nameAndType 30 31), (0, u "doubleValue"), (0, u "()D"), (0, .class_ 33), (0, u "com/example/mehr/mehr/MeasuresValuesPinLaw"), (2, u "law"), (0, u "(IIIIII)Z")] 3

def k1m0 : Method := { name := "<init>", desc := "()V", sig := { parameters := [], returnType := none }, accessFlags := 1, code := none }
def k1c1 : Code := { maxStack := 14, maxLocals := 32, code := code, exceptionTable := #[], attributes := #[] }
def k1m1 : Method := { name := "law", desc := "(IIIIII)Z", sig := { parameters := [.int, .int, .int, .int, .int, .int], returnType := some .boolean }, accessFlags := 9, code := some k1c1 }
/-- com/example/mehr/mehr/MeasuresValuesPinLaw -/
def k1 : Class := { plain "com/example/mehr/mehr/MeasuresValuesPinLaw" (some 0) with
  accessFlags := 49
  interfaces := #[]
  cf := some (fileOf pool1 32 #[] #[{ accessFlags := 1, nameIndex := 5, descriptorIndex := 6, attributes := #[] }, { accessFlags := 9, nameIndex := 36, descriptorIndex := 37, attributes := #[] }] 49 2 #[] #[])
  fields := #[]
  methods := #[k1m0, k1m1]
  instanceTypes := #[]
  staticTypes := #[]
  resolved := Array.replicate 41 none
  statics := none }

def pool2 : Array CpInfo := pool [(1, .methodref 2 3), (0, .class_ 4), (0, .nameAndType 5 6), (0, u "java/lang/Object"), (0, u "<init>"), (0, u "()V"), (0, .class_ 8), (0, u "java/lang/Record")] 13

def k2c0 : Code := { maxStack := 1, maxLocals := 1, code := jdk_30_method_1_code, exceptionTable := #[], attributes := #[] }
def k2m0 : Method := { name := "<init>", desc := "()V", sig := { parameters := [], returnType := none }, accessFlags := 4, code := some k2c0 }
/-- java/lang/Record -/
def k2 : Class := { plain "java/lang/Record" (some 0) with
  accessFlags := 1057
  interfaces := #[]
  cf := some (fileOf pool2 7 #[] #[{ accessFlags := 4, nameIndex := 5, descriptorIndex := 6, attributes := #[] }] 1057 2 #[] #[])
  fields := #[]
  methods := #[k2m0]
  instanceTypes := #[]
  staticTypes := #[]
  resolved := Array.replicate 22 none
  statics := none }

def pool3 : Array CpInfo := pool [(1, .methodref 2 3), (0, .class_ 4), (0, .nameAndType 5 6), (0, u "java/lang/Record"), (0, u "<init>"), (0, u "()V"), (0, .fieldref 8 9), (0, .class_ 10), (0, .nameAndType 11 12), (0, u "com/example/mehr/mehr/Measures"), (0, u "p1"), (0, u "D"), (0, .fieldref 8 14), (0, .nameAndType 15 12), (0, u "p2"), (0, .fieldref 8 17), (0, .nameAndType 18 12), (0, u "p5"), (0, .fieldref 8 20), (0, .nameAndType 21 12), (0, u "p10"), (0, .fieldref 8 23), (0, .nameAndType 24 12), (0, u "ndcg10"), (0, .fieldref 8 26), (0, .nameAndType 27 12), (0, u "rr"), (1, .class_ 31), (1, u "java/util/List"), (19, u "valueOf"), (49, u "(DDDDDD)V"), (2, u "NAMES"), (0, u "Ljava/util/List;"), (16, u "values"), (0, u "()Ljava/util/List;"), (0, .class_ 125), (0, u "java/lang/Double"), (4, .methodref 124 131), (0, .nameAndType 51 132), (0, u "(D)Ljava/lang/Double;"), (0, .interfaceMethodref 29 134), (0, .nameAndType 135 136), (0, u "of"), (0, u "(Ljava/lang/Object;Ljava/lang/Object;Ljava/lang/Object;Ljava/lang/Object;Ljava/lang/Object;Ljava/lang/Object;)Ljava/util/List;"), (38, u "CUT"), (0, u "I")] 62

def k3c0 : Code := { maxStack := 3, maxLocals := 13, code := prog_10_method_1_code, exceptionTable := #[], attributes := #[] }
def k3m0 : Method := { name := "<init>", desc := "(DDDDDD)V", sig := { parameters := [.double, .double, .double, .double, .double, .double], returnType := none }, accessFlags := 0, code := some k3c0 }
def k3c1 : Code := { maxStack := 7, maxLocals := 1, code := prog_10_method_4_code, exceptionTable := #[], attributes := #[] }
def k3m1 : Method := { name := "values", desc := "()Ljava/util/List;", sig := { parameters := [], returnType := some (.object "java/util/List") }, accessFlags := 0, code := some k3c1 }
/-- com/example/mehr/mehr/Measures -/
def k3 : Class := { plain "com/example/mehr/mehr/Measures" (some 2) with
  accessFlags := 48
  interfaces := #[]
  cf := some (fileOf pool3 8 #[] #[{ accessFlags := 0, nameIndex := 5, descriptorIndex := 101, attributes := #[] }, { accessFlags := 0, nameIndex := 122, descriptorIndex := 123, attributes := #[] }] 48 2 #[] #[{ accessFlags := 18, nameIndex := 11, descriptorIndex := 12, attributes := #[] }, { accessFlags := 18, nameIndex := 15, descriptorIndex := 12, attributes := #[] }, { accessFlags := 18, nameIndex := 18, descriptorIndex := 12, attributes := #[] }, { accessFlags := 18, nameIndex := 21, descriptorIndex := 12, attributes := #[] }, { accessFlags := 18, nameIndex := 24, descriptorIndex := 12, attributes := #[] }, { accessFlags := 18, nameIndex := 27, descriptorIndex := 12, attributes := #[] }, { accessFlags := 24, nameIndex := 104, descriptorIndex := 105, attributes := #[] }, { accessFlags := 26, nameIndex := 175, descriptorIndex := 176, attributes := #[] }])
  fields := #[{ name := "p1", type := .double, accessFlags := 18, slot := 0, constantValue := 0 }, { name := "p2", type := .double, accessFlags := 18, slot := 1, constantValue := 0 }, { name := "p5", type := .double, accessFlags := 18, slot := 2, constantValue := 0 }, { name := "p10", type := .double, accessFlags := 18, slot := 3, constantValue := 0 }, { name := "ndcg10", type := .double, accessFlags := 18, slot := 4, constantValue := 0 }, { name := "rr", type := .double, accessFlags := 18, slot := 5, constantValue := 0 }, { name := "NAMES", type := (.object "java/util/List"), accessFlags := 24, slot := 0, constantValue := 0 }, { name := "CUT", type := .int, accessFlags := 26, slot := 1, constantValue := 0 }]
  methods := #[k3m0, k3m1]
  instanceTypes := #[.double, .double, .double, .double, .double, .double]
  staticTypes := #[(.object "java/util/List"), .int]
  resolved := Array.replicate 239 none
  statics := none }

def pool4 : Array CpInfo := pool [(1, .class_ 2), (0, u "java/io/Serializable"), (0, .class_ 4), (0, u "java/lang/Object")] 2

/-- java/io/Serializable -/
def k4 : Class := { plain "java/io/Serializable" (some 0) with
  accessFlags := 1537
  interfaces := #[]
  cf := some (fileOf pool4 1 #[] #[] 1537 3 #[] #[])
  fields := #[]
  methods := #[]
  instanceTypes := #[]
  staticTypes := #[]
  resolved := Array.replicate 7 none
  statics := none }

def pool5 : Array CpInfo := pool [(1, .methodref 2 3), (0, .class_ 4), (0, .nameAndType 5 6), (0, u "java/lang/Object"), (0, u "<init>"), (0, u "()V"), (1, .class_ 10), (1, u "java/lang/Number"), (2, .class_ 14), (0, u "java/io/Serializable"), (0, u "serialVersionUID"), (0, u "J")] 20

def k5c0 : Code := { maxStack := 1, maxLocals := 1, code := jdk_18_method_1_code, exceptionTable := #[], attributes := #[] }
def k5m0 : Method := { name := "<init>", desc := "()V", sig := { parameters := [], returnType := none }, accessFlags := 1, code := some k5c0 }
/-- java/lang/Number -/
def k5 : Class := { plain "java/lang/Number" (some 0) with
  accessFlags := 1057
  interfaces := #[4]
  cf := some (fileOf pool5 8 #[] #[{ accessFlags := 1, nameIndex := 5, descriptorIndex := 6, attributes := #[] }] 1057 2 #[13] #[{ accessFlags := 26, nameIndex := 15, descriptorIndex := 16, attributes := #[] }])
  fields := #[{ name := "serialVersionUID", type := .long, accessFlags := 26, slot := 0, constantValue := 0 }]
  methods := #[k5m0]
  instanceTypes := #[]
  staticTypes := #[.long]
  resolved := Array.replicate 37 none
  statics := none }

def pool6 : Array CpInfo := pool [(1, .class_ 2), (0, u "java/lang/Comparable"), (0, .class_ 4), (0, u "java/lang/Object")] 7

/-- java/lang/Comparable -/
def k6 : Class := { plain "java/lang/Comparable" (some 0) with
  accessFlags := 1537
  interfaces := #[]
  cf := some (fileOf pool6 1 #[] #[] 1537 3 #[] #[])
  fields := #[]
  methods := #[]
  instanceTypes := #[]
  staticTypes := #[]
  resolved := Array.replicate 12 none
  statics := none }

def pool7 : Array CpInfo := pool [(1, .class_ 2), (0, u "java/lang/constant/Constable"), (0, .class_ 4), (0, u "java/lang/Object")] 6

/-- java/lang/constant/Constable -/
def k7 : Class := { plain "java/lang/constant/Constable" (some 0) with
  accessFlags := 1537
  interfaces := #[]
  cf := some (fileOf pool7 1 #[] #[] 1537 3 #[] #[])
  fields := #[]
  methods := #[]
  instanceTypes := #[]
  staticTypes := #[]
  resolved := Array.replicate 11 none
  statics := none }

def pool8 : Array CpInfo := pool [(1, .class_ 2), (0, u "java/lang/constant/ConstantDesc"), (0, .class_ 4), (0, u "java/lang/Object")] 32

/-- java/lang/constant/ConstantDesc -/
def k8 : Class := { plain "java/lang/constant/ConstantDesc" (some 0) with
  accessFlags := 1537
  interfaces := #[]
  cf := some (fileOf pool8 1 #[] #[] 1537 3 #[] #[])
  fields := #[]
  methods := #[]
  instanceTypes := #[]
  staticTypes := #[]
  resolved := Array.replicate 37 none
  statics := none }

def pool9 : Array CpInfo := pool [(1, .class_ 2), (0, u "java/lang/Double"), (17, u "<init>"), (84, .methodref 1 106), (0, .nameAndType 20 107), (0, u "(D)V"), (5, .methodref 114 115), (0, .class_ 116), (0, .nameAndType 20 117), (0, u "java/lang/Number"), (0, u "()V"), (0, .fieldref 1 119), (0, .nameAndType 120 121), (0, u "value"), (0, u "D"), (51, u "TYPE"), (0, u "Ljava/lang/Class;"), (0, .class_ 176), (0, u "java/lang/Comparable"), (0, .class_ 178), (0, u "java/lang/constant/Constable"), (0, .class_ 180), (0, u "java/lang/constant/ConstantDesc"), (0, u "POSITIVE_INFINITY"), (3, u "NEGATIVE_INFINITY"), (2, u "NaN"), (2, u "MAX_VALUE"), (0, u "MIN_NORMAL"), (0, u "MIN_VALUE"), (2, u "SIZE"), (0, u "I"), (1, u "PRECISION"), (1, u "MAX_EXPONENT"), (1, u "MIN_EXPONENT"), (1, u "BYTES"), (3, u "serialVersionUID"), (0, u "J"), (14, u "valueOf"), (5, u "(D)Ljava/lang/Double;"), (23, u "doubleValue"), (0, u "()D")] 33

def k9c0 : Code := { maxStack := 4, maxLocals := 2, code := jdk_117_method_4_code, exceptionTable := #[], attributes := #[] }
def k9m0 : Method := { name := "valueOf", desc := "(D)Ljava/lang/Double;", sig := { parameters := [.double], returnType := some (.object "java/lang/Double") }, accessFlags := 9, code := some k9c0 }
def k9c1 : Code := { maxStack := 3, maxLocals := 3, code := jdk_117_method_9_code, exceptionTable := #[], attributes := #[] }
def k9m1 : Method := { name := "<init>", desc := "(D)V", sig := { parameters := [.double], returnType := none }, accessFlags := 1, code := some k9c1 }
def k9c2 : Code := { maxStack := 2, maxLocals := 1, code := jdk_117_method_19_code, exceptionTable := #[], attributes := #[] }
def k9m2 : Method := { name := "doubleValue", desc := "()D", sig := { parameters := [], returnType := some .double }, accessFlags := 1, code := some k9c2 }
/-- java/lang/Double -/
def k9 : Class := { plain "java/lang/Double" (some 5) with
  accessFlags := 49
  interfaces := #[6, 7, 8]
  cf := some (fileOf pool9 1 #[] #[{ accessFlags := 9, nameIndex := 225, descriptorIndex := 231, attributes := #[] }, { accessFlags := 1, nameIndex := 20, descriptorIndex := 107, attributes := #[] }, { accessFlags := 1, nameIndex := 255, descriptorIndex := 256, attributes := #[] }] 49 114 #[175, 177, 179] #[{ accessFlags := 25, nameIndex := 181, descriptorIndex := 121, attributes := #[] }, { accessFlags := 25, nameIndex := 185, descriptorIndex := 121, attributes := #[] }, { accessFlags := 25, nameIndex := 188, descriptorIndex := 121, attributes := #[] }, { accessFlags := 25, nameIndex := 191, descriptorIndex := 121, attributes := #[] }, { accessFlags := 25, nameIndex := 192, descriptorIndex := 121, attributes := #[] }, { accessFlags := 25, nameIndex := 193, descriptorIndex := 121, attributes := #[] }, { accessFlags := 25, nameIndex := 196, descriptorIndex := 197, attributes := #[] }, { accessFlags := 25, nameIndex := 199, descriptorIndex := 197, attributes := #[] }, { accessFlags := 25, nameIndex := 201, descriptorIndex := 197, attributes := #[] }, { accessFlags := 25, nameIndex := 203, descriptorIndex := 197, attributes := #[] }, { accessFlags := 25, nameIndex := 205, descriptorIndex := 197, attributes := #[] }, { accessFlags := 25, nameIndex := 173, descriptorIndex := 174, attributes := #[] }, { accessFlags := 18, nameIndex := 120, descriptorIndex := 121, attributes := #[] }, { accessFlags := 26, nameIndex := 209, descriptorIndex := 210, attributes := #[] }])
  fields := #[{ name := "POSITIVE_INFINITY", type := .double, accessFlags := 25, slot := 0, constantValue := 0 }, { name := "NEGATIVE_INFINITY", type := .double, accessFlags := 25, slot := 1, constantValue := 0 }, { name := "NaN", type := .double, accessFlags := 25, slot := 2, constantValue := 0 }, { name := "MAX_VALUE", type := .double, accessFlags := 25, slot := 3, constantValue := 0 }, { name := "MIN_NORMAL", type := .double, accessFlags := 25, slot := 4, constantValue := 0 }, { name := "MIN_VALUE", type := .double, accessFlags := 25, slot := 5, constantValue := 0 }, { name := "SIZE", type := .int, accessFlags := 25, slot := 6, constantValue := 0 }, { name := "PRECISION", type := .int, accessFlags := 25, slot := 7, constantValue := 0 }, { name := "MAX_EXPONENT", type := .int, accessFlags := 25, slot := 8, constantValue := 0 }, { name := "MIN_EXPONENT", type := .int, accessFlags := 25, slot := 9, constantValue := 0 }, { name := "BYTES", type := .int, accessFlags := 25, slot := 10, constantValue := 0 }, { name := "TYPE", type := (.object "java/lang/Class"), accessFlags := 25, slot := 11, constantValue := 0 }, { name := "value", type := .double, accessFlags := 18, slot := 0, constantValue := 0 }, { name := "serialVersionUID", type := .long, accessFlags := 26, slot := 12, constantValue := 0 }]
  methods := #[k9m0, k9m1, k9m2]
  instanceTypes := #[.double]
  staticTypes := #[.double, .double, .double, .double, .double, .double, .int, .int, .int, .int, .int, (.object "java/lang/Class"), .long]
  resolved := Array.replicate 290 none
  statics := none }

def pool10 : Array CpInfo := pool [(8, .class_ 10), (1, u "java/lang/Iterable"), (24, .class_ 36), (0, u "java/lang/Object")] 25

/-- java/lang/Iterable -/
def k10 : Class := { plain "java/lang/Iterable" (some 0) with
  accessFlags := 1537
  interfaces := #[]
  cf := some (fileOf pool10 8 #[] #[] 1537 35 #[] #[])
  fields := #[]
  methods := #[]
  instanceTypes := #[]
  staticTypes := #[]
  resolved := Array.replicate 62 none
  statics := none }

def pool11 : Array CpInfo := pool [(10, .class_ 12), (1, u "java/util/Collection"), (47, .class_ 61), (0, u "java/lang/Object"), (0, .class_ 63), (0, u "java/lang/Iterable")] 51

/-- java/util/Collection -/
def k11 : Class := { plain "java/util/Collection" (some 0) with
  accessFlags := 1537
  interfaces := #[10]
  cf := some (fileOf pool11 10 #[] #[] 1537 60 #[62] #[])
  fields := #[]
  methods := #[]
  instanceTypes := #[]
  staticTypes := #[]
  resolved := Array.replicate 115 none
  statics := none }

def pool12 : Array CpInfo := pool [(8, .class_ 10), (1, u "java/util/SequencedCollection"), (15, .class_ 27), (0, u "java/lang/Object"), (0, .class_ 29), (0, u "java/util/Collection")] 27

/-- java/util/SequencedCollection -/
def k12 : Class := { plain "java/util/SequencedCollection" (some 0) with
  accessFlags := 1537
  interfaces := #[11]
  cf := some (fileOf pool12 8 #[] #[] 1537 26 #[28] #[])
  fields := #[]
  methods := #[]
  instanceTypes := #[]
  staticTypes := #[]
  resolved := Array.replicate 57 none
  statics := none }

def pool13 : Array CpInfo := pool [(8, .class_ 10), (1, u "java/util/List"), (64, u "get"), (0, u "(I)Ljava/lang/Object;"), (2, u "size"), (0, u "()I"), (7, u "of"), (2, .class_ 93), (1, u "java/util/ImmutableCollections"), (9, .class_ 104), (0, u "java/lang/Object"), (0, .methodref 91 106), (0, .nameAndType 107 108), (0, u "listFromTrustedArray"), (0, u "([Ljava/lang/Object;)Ljava/util/List;"), (11, .class_ 121), (0, u "java/util/SequencedCollection"), (91, u "(Ljava/lang/Object;Ljava/lang/Object;Ljava/lang/Object;Ljava/lang/Object;Ljava/lang/Object;Ljava/lang/Object;)Ljava/util/List;")] 37

def k13m0 : Method := { name := "size", desc := "()I", sig := { parameters := [], returnType := some .int }, accessFlags := 1025, code := none }
def k13m1 : Method := { name := "get", desc := "(I)Ljava/lang/Object;", sig := { parameters := [.int], returnType := some (.object "java/lang/Object") }, accessFlags := 1025, code := none }
def k13c2 : Code := { maxStack := 4, maxLocals := 6, code := jdk_40_method_42_code, exceptionTable := #[], attributes := #[] }
def k13m2 : Method := { name := "of", desc := "(Ljava/lang/Object;Ljava/lang/Object;Ljava/lang/Object;Ljava/lang/Object;Ljava/lang/Object;Ljava/lang/Object;)Ljava/util/List;", sig := { parameters := [(.object "java/lang/Object"), (.object "java/lang/Object"), (.object "java/lang/Object"), (.object "java/lang/Object"), (.object "java/lang/Object"), (.object "java/lang/Object")], returnType := some (.object "java/util/List") }, accessFlags := 9, code := some k13c2 }
/-- java/util/List -/
def k13 : Class := { plain "java/util/List" (some 0) with
  accessFlags := 1537
  interfaces := #[12]
  cf := some (fileOf pool13 8 #[] #[{ accessFlags := 1025, nameIndex := 79, descriptorIndex := 80, attributes := #[] }, { accessFlags := 1025, nameIndex := 75, descriptorIndex := 76, attributes := #[] }, { accessFlags := 9, nameIndex := 88, descriptorIndex := 213, attributes := #[] }] 1537 103 #[120] #[])
  fields := #[]
  methods := #[k13m0, k13m1, k13m2]
  instanceTypes := #[]
  staticTypes := #[]
  resolved := Array.replicate 251 none
  statics := none }

def pool14 : Array CpInfo := pool [(2, .class_ 4), (1, u "java/lang/Object"), (0, u "<init>"), (0, u "()V"), (3, .class_ 11), (0, u "java/util/ImmutableCollections$List12"), (0, .class_ 13), (0, u "java/util/ImmutableCollections$ListN"), (3, u "Z"), (18, u "([Ljava/lang/Object;)Ljava/util/List;"), (0, .methodref 38 39), (0, .class_ 40), (0, .nameAndType 41 42), (0, u "java/util/Objects"), (0, u "requireNonNull"), (0, u "(Ljava/lang/Object;)Ljava/lang/Object;"), (0, .methodref 12 44), (0, .nameAndType 5 45), (0, u "([Ljava/lang/Object;Z)V"), (0, .fieldref 47 48), (0, .class_ 49), (0, .nameAndType 50 17), (0, u "java/util/ImmutableCollections"), (0, u "$assertionsDisabled"), (5, u "[Ljava/lang/Object;"), (5, u "EMPTY_LIST"), (0, u "Ljava/util/ImmutableCollections$ListN;"), (8, u "EMPTY_LIST_NULLS"), (22, u "SALT32L"), (0, u "J"), (2, u "REVERSE"), (6, u "archivedObjects"), (2, u "EMPTY"), (0, u "Ljava/lang/Object;"), (0, .class_ 112), (0, u "java/util/ImmutableCollections$SetN"), (5, u "EMPTY_SET"), (0, u "Ljava/util/ImmutableCollections$SetN;"), (0, .class_ 121), (0, u "java/util/ImmutableCollections$MapN"), (3, u "EMPTY_MAP"), (0, u "Ljava/util/ImmutableCollections$MapN;"), (4, u "EXPAND_FACTOR"), (0, u "I"), (26, u "listFromTrustedArray"), (9, .class_ 170), (0, u "java/util/ImmutableCollections$MapN$MapNIterator"), (0, .class_ 172), (0, u "java/util/ImmutableCollections$MapN$1"), (0, .class_ 174), (0, u "java/util/ImmutableCollections$Map1"), (0, .class_ 176), (0, u "java/util/ImmutableCollections$AbstractImmutableMap"), (0, .class_ 178), (0, u "java/util/ImmutableCollections$SetN$SetNIterator"), (0, .class_ 180), (0, u "java/util/ImmutableCollections$Set12"), (0, .class_ 182), (0, u "java/util/ImmutableCollections$Set12$1"), (0, .class_ 184), (0, u "java/util/ImmutableCollections$AbstractImmutableSet"), (0, .class_ 186), (0, u "java/util/ImmutableCollections$SubList"), (0, .class_ 188), (0, u "java/util/ImmutableCollections$ListItr"), (0, .class_ 190), (0, u "java/util/ImmutableCollections$AbstractImmutableList"), (0, .class_ 192), (0, u "java/util/ImmutableCollections$AbstractImmutableCollection"), (0, .class_ 194), (0, u "java/util/ImmutableCollections$Access"), (0, .class_ 196), (0, u "java/util/ImmutableCollections$Access$1")] 16

def k14m0 : Method := { name := "<init>", desc := "()V", sig := { parameters := [], returnType := none }, accessFlags := 2, code := none }
def k14c1 : Code := { maxStack := 5, maxLocals := 5, code := jdk_56_method_5_code, exceptionTable := #[], attributes := #[] }
def k14m1 : Method := { name := "listFromTrustedArray", desc := "([Ljava/lang/Object;)Ljava/util/List;", sig := { parameters := [(.array (.object "java/lang/Object"))], returnType := some (.object "java/util/List") }, accessFlags := 136, code := some k14c1 }
/-- java/util/ImmutableCollections -/
def k14 : Class := { plain "java/util/ImmutableCollections" (some 0) with
  accessFlags := 32
  interfaces := #[]
  cf := some (fileOf pool14 47 #[.nestMembers #[120, 169, 171, 173, 175, 111, 177, 179, 181, 183, 12, 10, 185, 187, 189, 191, 193, 195]] #[{ accessFlags := 2, nameIndex := 5, descriptorIndex := 6, attributes := #[] }, { accessFlags := 136, nameIndex := 159, descriptorIndex := 36, attributes := #[] }] 32 2 #[] #[{ accessFlags := 26, nameIndex := 95, descriptorIndex := 96, attributes := #[] }, { accessFlags := 26, nameIndex := 99, descriptorIndex := 17, attributes := #[] }, { accessFlags := 10, nameIndex := 106, descriptorIndex := 56, attributes := #[] }, { accessFlags := 26, nameIndex := 109, descriptorIndex := 110, attributes := #[] }, { accessFlags := 24, nameIndex := 62, descriptorIndex := 63, attributes := #[] }, { accessFlags := 24, nameIndex := 72, descriptorIndex := 63, attributes := #[] }, { accessFlags := 24, nameIndex := 118, descriptorIndex := 119, attributes := #[] }, { accessFlags := 24, nameIndex := 125, descriptorIndex := 126, attributes := #[] }, { accessFlags := 24, nameIndex := 131, descriptorIndex := 132, attributes := #[] }, { accessFlags := 4120, nameIndex := 50, descriptorIndex := 17, attributes := #[] }])
  fields := #[{ name := "SALT32L", type := .long, accessFlags := 26, slot := 0, constantValue := 0 }, { name := "REVERSE", type := .boolean, accessFlags := 26, slot := 1, constantValue := 0 }, { name := "archivedObjects", type := (.array (.object "java/lang/Object")), accessFlags := 10, slot := 2, constantValue := 0 }, { name := "EMPTY", type := (.object "java/lang/Object"), accessFlags := 26, slot := 3, constantValue := 0 }, { name := "EMPTY_LIST", type := (.object "java/util/ImmutableCollections$ListN"), accessFlags := 24, slot := 4, constantValue := 0 }, { name := "EMPTY_LIST_NULLS", type := (.object "java/util/ImmutableCollections$ListN"), accessFlags := 24, slot := 5, constantValue := 0 }, { name := "EMPTY_SET", type := (.object "java/util/ImmutableCollections$SetN"), accessFlags := 24, slot := 6, constantValue := 0 }, { name := "EMPTY_MAP", type := (.object "java/util/ImmutableCollections$MapN"), accessFlags := 24, slot := 7, constantValue := 0 }, { name := "EXPAND_FACTOR", type := .int, accessFlags := 24, slot := 8, constantValue := 0 }, { name := "$assertionsDisabled", type := .boolean, accessFlags := 4120, slot := 9, constantValue := 0 }]
  methods := #[k14m0, k14m1]
  instanceTypes := #[]
  staticTypes := #[.long, .boolean, (.array (.object "java/lang/Object")), (.object "java/lang/Object"), (.object "java/util/ImmutableCollections$ListN"), (.object "java/util/ImmutableCollections$ListN"), (.object "java/util/ImmutableCollections$SetN"), (.object "java/util/ImmutableCollections$MapN"), .int, .boolean]
  resolved := Array.replicate 213 none
  statics := some 0 }

def pool15 : Array CpInfo := pool [(2, .class_ 4), (1, u "java/lang/Object"), (0, u "<init>"), (0, u "()V"), (35, .class_ 44), (1, u "java/util/Objects"), (0, u "requireNonNull"), (0, u "(Ljava/lang/Object;)Ljava/lang/Object;")] 137

def k15m0 : Method := { name := "<init>", desc := "()V", sig := { parameters := [], returnType := none }, accessFlags := 2, code := none }
def k15c1 : Code := { maxStack := 2, maxLocals := 1, code := jdk_31_method_10_code, exceptionTable := #[], attributes := #[] }
def k15m1 : Method := { name := "requireNonNull", desc := "(Ljava/lang/Object;)Ljava/lang/Object;", sig := { parameters := [(.object "java/lang/Object")], returnType := some (.object "java/lang/Object") }, accessFlags := 9, code := some k15c1 }
/-- java/util/Objects -/
def k15 : Class := { plain "java/util/Objects" (some 0) with
  accessFlags := 49
  interfaces := #[]
  cf := some (fileOf pool15 42 #[] #[{ accessFlags := 2, nameIndex := 5, descriptorIndex := 6, attributes := #[] }, { accessFlags := 9, nameIndex := 45, descriptorIndex := 46, attributes := #[] }] 49 2 #[] #[])
  fields := #[]
  methods := #[k15m0, k15m1]
  instanceTypes := #[]
  staticTypes := #[]
  resolved := Array.replicate 184 none
  statics := none }

def pool16 : Array CpInfo := pool [(1, .methodref 2 3), (0, .class_ 4), (0, .nameAndType 5 6), (0, u "java/lang/Object"), (0, u "<init>"), (0, u "()V"), (1, .class_ 10), (1, u "java/util/AbstractCollection"), (66, .class_ 78), (0, u "java/util/Collection")] 81

def k16c0 : Code := { maxStack := 1, maxLocals := 1, code := jdk_22_method_1_code, exceptionTable := #[], attributes := #[] }
def k16m0 : Method := { name := "<init>", desc := "()V", sig := { parameters := [], returnType := none }, accessFlags := 4, code := some k16c0 }
/-- java/util/AbstractCollection -/
def k16 : Class := { plain "java/util/AbstractCollection" (some 0) with
  accessFlags := 1057
  interfaces := #[11]
  cf := some (fileOf pool16 8 #[] #[{ accessFlags := 4, nameIndex := 5, descriptorIndex := 6, attributes := #[] }] 1057 2 #[77] #[])
  fields := #[]
  methods := #[k16m0]
  instanceTypes := #[]
  staticTypes := #[]
  resolved := Array.replicate 160 none
  statics := none }

def pool17 : Array CpInfo := pool [(1, .methodref 2 3), (0, .class_ 4), (0, .nameAndType 5 6), (0, u "java/util/AbstractCollection"), (0, u "<init>"), (0, u "()V"), (1, .class_ 10), (1, u "java/util/ImmutableCollections"), (2, .class_ 14), (0, u "java/util/ImmutableCollections$AbstractImmutableCollection")] 41

def k17c0 : Code := { maxStack := 1, maxLocals := 1, code := jdk_47_method_1_code, exceptionTable := #[], attributes := #[] }
def k17m0 : Method := { name := "<init>", desc := "()V", sig := { parameters := [], returnType := none }, accessFlags := 0, code := some k17c0 }
/-- java/util/ImmutableCollections$AbstractImmutableCollection -/
def k17 : Class := { plain "java/util/ImmutableCollections$AbstractImmutableCollection" (some 16) with
  accessFlags := 1056
  interfaces := #[]
  cf := some (fileOf pool17 13 #[.nestHost 8] #[{ accessFlags := 0, nameIndex := 5, descriptorIndex := 6, attributes := #[] }] 1056 2 #[] #[])
  fields := #[]
  methods := #[k17m0]
  instanceTypes := #[]
  staticTypes := #[]
  resolved := Array.replicate 56 none
  statics := none }

def pool18 : Array CpInfo := pool [(1, .class_ 2), (0, u "java/util/RandomAccess"), (0, .class_ 4), (0, u "java/lang/Object")] 2

/-- java/util/RandomAccess -/
def k18 : Class := { plain "java/util/RandomAccess" (some 0) with
  accessFlags := 1537
  interfaces := #[]
  cf := some (fileOf pool18 1 #[] #[] 1537 3 #[] #[])
  fields := #[]
  methods := #[]
  instanceTypes := #[]
  staticTypes := #[]
  resolved := Array.replicate 7 none
  statics := none }

def pool19 : Array CpInfo := pool [(1, .methodref 2 3), (0, .class_ 4), (0, .nameAndType 5 6), (0, u "java/util/ImmutableCollections$AbstractImmutableCollection"), (0, u "<init>"), (0, u "()V"), (1, .class_ 10), (1, u "java/util/ImmutableCollections"), (3, .class_ 16), (1, u "java/util/ImmutableCollections$AbstractImmutableList"), (60, .class_ 78), (0, u "java/util/List"), (45, .class_ 125), (0, u "java/util/RandomAccess")] 70

def k19c0 : Code := { maxStack := 1, maxLocals := 1, code := jdk_46_method_1_code, exceptionTable := #[], attributes := #[] }
def k19m0 : Method := { name := "<init>", desc := "()V", sig := { parameters := [], returnType := none }, accessFlags := 0, code := some k19c0 }
/-- java/util/ImmutableCollections$AbstractImmutableList -/
def k19 : Class := { plain "java/util/ImmutableCollections$AbstractImmutableList" (some 17) with
  accessFlags := 1056
  interfaces := #[13, 18]
  cf := some (fileOf pool19 14 #[.nestHost 8] #[{ accessFlags := 0, nameIndex := 5, descriptorIndex := 6, attributes := #[] }] 1056 2 #[77, 124] #[])
  fields := #[]
  methods := #[k19m0]
  instanceTypes := #[]
  staticTypes := #[]
  resolved := Array.replicate 196 none
  statics := none }

def pool20 : Array CpInfo := pool [(1, .methodref 2 3), (0, .class_ 4), (0, .nameAndType 5 6), (0, u "java/util/ImmutableCollections$AbstractImmutableList"), (0, u "<init>"), (0, u "()V"), (0, .fieldref 8 9), (0, .class_ 10), (0, .nameAndType 11 12), (0, u "java/util/ImmutableCollections$ListN"), (0, u "elements"), (0, u "[Ljava/lang/Object;"), (0, .fieldref 8 14), (0, .nameAndType 15 16), (0, u "allowNulls"), (0, u "Z"), (42, .class_ 60), (0, u "java/io/Serializable"), (4, u "([Ljava/lang/Object;Z)V"), (11, u "size"), (0, u "()I"), (0, u "get"), (0, u "(I)Ljava/lang/Object;"), (33, .class_ 115), (0, u "java/util/ImmutableCollections")] 3

def k20c0 : Code := { maxStack := 2, maxLocals := 3, code := jdk_45_method_1_code, exceptionTable := #[], attributes := #[] }
def k20m0 : Method := { name := "<init>", desc := "([Ljava/lang/Object;Z)V", sig := { parameters := [(.array (.object "java/lang/Object")), .boolean], returnType := none }, accessFlags := 2, code := some k20c0 }
def k20c1 : Code := { maxStack := 1, maxLocals := 1, code := jdk_45_method_3_code, exceptionTable := #[], attributes := #[] }
def k20m1 : Method := { name := "size", desc := "()I", sig := { parameters := [], returnType := some .int }, accessFlags := 1, code := some k20c1 }
def k20c2 : Code := { maxStack := 2, maxLocals := 2, code := jdk_45_method_4_code, exceptionTable := #[], attributes := #[] }
def k20m2 : Method := { name := "get", desc := "(I)Ljava/lang/Object;", sig := { parameters := [.int], returnType := some (.object "java/lang/Object") }, accessFlags := 1, code := some k20c2 }
/-- java/util/ImmutableCollections$ListN -/
def k20 : Class := { plain "java/util/ImmutableCollections$ListN" (some 19) with
  accessFlags := 48
  interfaces := #[4]
  cf := some (fileOf pool20 8 #[.nestHost 114] #[{ accessFlags := 2, nameIndex := 5, descriptorIndex := 65, attributes := #[] }, { accessFlags := 1, nameIndex := 77, descriptorIndex := 78, attributes := #[] }, { accessFlags := 1, nameIndex := 79, descriptorIndex := 80, attributes := #[] }] 48 2 #[59] #[{ accessFlags := 18, nameIndex := 11, descriptorIndex := 12, attributes := #[] }, { accessFlags := 18, nameIndex := 15, descriptorIndex := 16, attributes := #[] }])
  fields := #[{ name := "elements", type := (.array (.object "java/lang/Object")), accessFlags := 18, slot := 0, constantValue := 0 }, { name := "allowNulls", type := .boolean, accessFlags := 18, slot := 1, constantValue := 0 }]
  methods := #[k20m0, k20m1, k20m2]
  instanceTypes := #[(.array (.object "java/lang/Object")), .boolean]
  staticTypes := #[]
  resolved := Array.replicate 119 none
  statics := none }

def pool21 : Array CpInfo := pool [(1, u "java/lang/Cloneable"), (0, .class_ 1), (0, u "java/lang/Object"), (0, .class_ 3)] 3

/-- java/lang/Cloneable -/
def k21 : Class := { plain "java/lang/Cloneable" (some 0) with
  accessFlags := 1537
  interfaces := #[]
  cf := some (fileOf pool21 2 #[] #[] 1537 4 #[] #[])
  fields := #[]
  methods := #[]
  instanceTypes := #[]
  staticTypes := #[]
  resolved := Array.replicate 8 none
  statics := none }

/-- the primitive byte -/
def k22 : Class := { plain "byte" none with kind := .primitive 'B', accessFlags := 0x411 }
/-- [B -/
def k23 : Class := { plain "[B" (some 0) with kind := .array 22 .byte, interfaces := #[21, 4], accessFlags := 1041 }

/-- the primitive int -/
def k24 : Class := { plain "int" none with kind := .primitive 'I', accessFlags := 0x411 }
/-- [I -/
def k25 : Class := { plain "[I" (some 0) with kind := .array 24 .int, interfaces := #[21, 4], accessFlags := 1041 }

/-- [Ljava/lang/Object; -/
def k26 : Class := { plain "[Ljava/lang/Object;" (some 0) with kind := .array 0 (.object "java/lang/Object"), interfaces := #[21, 4], accessFlags := 1041 }

def heap : Heap := #[{ cls := 14, slots := #[.long 0, .int 0, .null, .ref 1, .ref 2, .null, .null, .null, .int 0, .int 1], vm := .statics 14 },
  { cls := 0, slots := #[], vm := .none },
  { cls := 20, slots := #[.null, .int 0], vm := .none }]
def classes : Array Class := #[k0, k1, k2, k3, k4, k5, k6, k7, k8, k9, k10, k11, k12, k13, k14, k15, k16, k17, k18, k19, k20, k21, k22, k23, k24, k25, k26]
def interned : List (Array UInt16 × Addr) := []
def slotsUsed : Nat := 12
def theMethod : MethodId := ⟨1, 1⟩
def args0 : Array Value := #[.int 7, .int 1, .int 2, .int 3, .int 65, .int 66]
def aboutOver (below : List Frame) : State where
  vm := { classes := classes, interned := interned.toArray }
  heap := heap
  slotsUsed := slotsUsed
  threads := #[{ frames := .invoking theMethod args0 :: below }]
def below0 : List Frame := [.native { method := ⟨0, 0⟩, args := #[] }]
def about1 : State := aboutOver below0
def p0 : Program := .bare "" "" ""
def e0 : Env := launch0.env 0 0 0
theorem w_frames : about1.frames = Frame.invoking theMethod args0 :: below0 := rfl
set_option maxRecDepth 65536 in
theorem w_args : argsFit about1.vm theMethod args0 = true := by decide +kernel
set_option maxRecDepth 65536 in
theorem w_heap : heapFits about1 = true := by decide +kernel
set_option maxRecDepth 65536 in
theorem w_runnable : about1.curStatus? = some .runnable := by decide +kernel
set_option maxRecDepth 65536 in
theorem w_alone : about1.alone = true := by decide +kernel
set_option maxRecDepth 65536 in
theorem w_named : about1.methodNamed? x = some theMethod := by decide +kernel
set_option maxRecDepth 65536 in
theorem w_hears : about1.hears theMethod below0 = true := by decide +kernel
set_option maxRecDepth 65536 in
theorem w_ripe : about1.ripe theMethod args0 below0 = true := by decide +kernel
theorem w_running : about1.status = .running := rfl
set_option maxRecDepth 65536 in
theorem w_room : about1.hasRoom e0.platform room_1 = true :=
  launch0.hasRoom_least _ room_1 (by decide +kernel) (by decide +kernel) (by decide +kernel) (by decide +kernel) (by decide +kernel) (by decide +kernel)
theorem allAtoms_all (ts : List Jvm.Cond) (a : Array Jvm.Value) (st : Jvm.State) : (allAtoms ts).before a st = ts.all (fun c => c.before a st) := by
  induction ts with
  | nil => rfl
  | cons c t ih =>
    show (Jvm.Cond.and c (allAtoms t)).before a st = _
    rw [Jvm.Cond.before_and, ih, List.all_cons]
def words1 : List Jvm.Cond := Jvm.Cond.code x code maxLocals ret :: tables_1
/-- a 'code' word, met by the world's own term for the bytes: nothing is compared byte by byte -/
theorem code_word {y : MethodName} {bytes : ByteArray} {mx : Nat} {rt : Option FieldType} {a : Array Value} {s : State} {m : MethodId} {meth : Method} {c : Code} (h1 : s.methodNamed? y = some m) (h2 : s.vm.method? m = some meth) (h3 : meth.code = some c) (h4 : c.code = bytes)
    (h5 : (c.maxLocals == mx && c.exceptionTable.isEmpty && decide (c.maxStack ≤ mostOperands) && decide (meth.sig.returnType = rt) && !meth.locks && decide (parseMethodDescriptor y.desc = some meth.sig)) = true) : (Jvm.Cond.code y bytes mx rt).before a s = true := by
  simp only [Bool.and_eq_true, beq_iff_eq, Bool.not_eq_true', decide_eq_true_eq] at h5
  obtain ⟨⟨⟨⟨⟨g1, g2⟩, g3⟩, g4⟩, g5⟩, g6⟩ := h5
  simp [Cond.before, Cond.holds, Cond.value, h1, h2, h3, h4, g1, g2, g3, g4, g5, g6]
def isCode : Jvm.Cond → Bool
  | .code _ _ _ _ => true
  | _ => false
theorem all_split {L : List Jvm.Cond} {P : Jvm.Cond → Bool} (h1 : L.all (fun c => isCode c || P c) = true) (h2 : ∀ c ∈ L.filter isCode, P c = true) : L.all P = true := by
  refine List.all_eq_true.mpr fun c hc => ?_
  have h := List.all_eq_true.mp h1 c hc
  rcases Bool.eq_false_or_eq_true (isCode c) with hi | hi
  · exact h2 c (List.mem_filter.mpr ⟨hc, hi⟩)
  · simpa [hi] using h
set_option maxRecDepth 65536 in
theorem w_c0 : (Jvm.Cond.code x code maxLocals ret).before args0 about1 = true := code_word (m := ⟨1, 1⟩) (meth := k1m1) (c := k1c1) (by decide +kernel) rfl rfl rfl (by decide +kernel)
set_option maxRecDepth 65536 in
theorem w_c1 : (Jvm.Cond.code ({ cls := "com/example/mehr/mehr/Measures", name := "<init>", desc := "(DDDDDD)V" } : Jvm.MethodName) prog_10_method_1_code (13 : Nat) (Option.none : Option Jvm.ClassFile.FieldType)).before args0 about1 = true := code_word (m := ⟨3, 0⟩) (meth := k3m0) (c := k3c0) (by decide +kernel) rfl rfl rfl (by decide +kernel)
set_option maxRecDepth 65536 in
theorem w_c2 : (Jvm.Cond.code ({ cls := "java/lang/Record", name := "<init>", desc := "()V" } : Jvm.MethodName) jdk_30_method_1_code (1 : Nat) (Option.none : Option Jvm.ClassFile.FieldType)).before args0 about1 = true := code_word (m := ⟨2, 0⟩) (meth := k2m0) (c := k2c0) (by decide +kernel) rfl rfl rfl (by decide +kernel)
set_option maxRecDepth 65536 in
theorem w_c3 : (Jvm.Cond.code ({ cls := "java/lang/Object", name := "<init>", desc := "()V" } : Jvm.MethodName) object_method_1_code (1 : Nat) (Option.none : Option Jvm.ClassFile.FieldType)).before args0 about1 = true := code_word (m := ⟨0, 0⟩) (meth := k0m0) (c := k0c0) (by decide +kernel) rfl rfl rfl (by decide +kernel)
set_option maxRecDepth 65536 in
theorem w_c4 : (Jvm.Cond.code ({ cls := "com/example/mehr/mehr/Measures", name := "values", desc := "()Ljava/util/List;" } : Jvm.MethodName) prog_10_method_4_code (1 : Nat) (Option.some (Jvm.ClassFile.FieldType.object "java/util/List"))).before args0 about1 = true := code_word (m := ⟨3, 1⟩) (meth := k3m1) (c := k3c1) (by decide +kernel) rfl rfl rfl (by decide +kernel)
set_option maxRecDepth 65536 in
theorem w_c5 : (Jvm.Cond.code ({ cls := "java/lang/Double", name := "valueOf", desc := "(D)Ljava/lang/Double;" } : Jvm.MethodName) jdk_117_method_4_code (2 : Nat) (Option.some (Jvm.ClassFile.FieldType.object "java/lang/Double"))).before args0 about1 = true := code_word (m := ⟨9, 0⟩) (meth := k9m0) (c := k9c0) (by decide +kernel) rfl rfl rfl (by decide +kernel)
set_option maxRecDepth 65536 in
theorem w_c6 : (Jvm.Cond.code ({ cls := "java/lang/Double", name := "<init>", desc := "(D)V" } : Jvm.MethodName) jdk_117_method_9_code (3 : Nat) (Option.none : Option Jvm.ClassFile.FieldType)).before args0 about1 = true := code_word (m := ⟨9, 1⟩) (meth := k9m1) (c := k9c1) (by decide +kernel) rfl rfl rfl (by decide +kernel)
set_option maxRecDepth 65536 in
theorem w_c7 : (Jvm.Cond.code ({ cls := "java/lang/Number", name := "<init>", desc := "()V" } : Jvm.MethodName) jdk_18_method_1_code (1 : Nat) (Option.none : Option Jvm.ClassFile.FieldType)).before args0 about1 = true := code_word (m := ⟨5, 0⟩) (meth := k5m0) (c := k5c0) (by decide +kernel) rfl rfl rfl (by decide +kernel)
set_option maxRecDepth 65536 in
theorem w_c8 : (Jvm.Cond.code ({ cls := "java/util/List", name := "of", desc := "(Ljava/lang/Object;Ljava/lang/Object;Ljava/lang/Object;Ljava/lang/Object;Ljava/lang/Object;Ljava/lang/Object;)Ljava/util/List;" } : Jvm.MethodName) jdk_40_method_42_code (6 : Nat) (Option.some (Jvm.ClassFile.FieldType.object "java/util/List"))).before args0 about1 = true := code_word (m := ⟨13, 2⟩) (meth := k13m2) (c := k13c2) (by decide +kernel) rfl rfl rfl (by decide +kernel)
set_option maxRecDepth 65536 in
theorem w_c9 : (Jvm.Cond.code ({ cls := "java/util/ImmutableCollections", name := "listFromTrustedArray", desc := "([Ljava/lang/Object;)Ljava/util/List;" } : Jvm.MethodName) jdk_56_method_5_code (5 : Nat) (Option.some (Jvm.ClassFile.FieldType.object "java/util/List"))).before args0 about1 = true := code_word (m := ⟨14, 1⟩) (meth := k14m1) (c := k14c1) (by decide +kernel) rfl rfl rfl (by decide +kernel)
set_option maxRecDepth 65536 in
theorem w_c10 : (Jvm.Cond.code ({ cls := "java/util/Objects", name := "requireNonNull", desc := "(Ljava/lang/Object;)Ljava/lang/Object;" } : Jvm.MethodName) jdk_31_method_10_code (1 : Nat) (Option.some (Jvm.ClassFile.FieldType.object "java/lang/Object"))).before args0 about1 = true := code_word (m := ⟨15, 1⟩) (meth := k15m1) (c := k15c1) (by decide +kernel) rfl rfl rfl (by decide +kernel)
set_option maxRecDepth 65536 in
theorem w_c11 : (Jvm.Cond.code ({ cls := "java/util/ImmutableCollections$ListN", name := "<init>", desc := "([Ljava/lang/Object;Z)V" } : Jvm.MethodName) jdk_45_method_1_code (3 : Nat) (Option.none : Option Jvm.ClassFile.FieldType)).before args0 about1 = true := code_word (m := ⟨20, 0⟩) (meth := k20m0) (c := k20c0) (by decide +kernel) rfl rfl rfl (by decide +kernel)
set_option maxRecDepth 65536 in
theorem w_c12 : (Jvm.Cond.code ({ cls := "java/util/ImmutableCollections$AbstractImmutableList", name := "<init>", desc := "()V" } : Jvm.MethodName) jdk_46_method_1_code (1 : Nat) (Option.none : Option Jvm.ClassFile.FieldType)).before args0 about1 = true := code_word (m := ⟨19, 0⟩) (meth := k19m0) (c := k19c0) (by decide +kernel) rfl rfl rfl (by decide +kernel)
set_option maxRecDepth 65536 in
theorem w_c13 : (Jvm.Cond.code ({ cls := "java/util/ImmutableCollections$AbstractImmutableCollection", name := "<init>", desc := "()V" } : Jvm.MethodName) jdk_47_method_1_code (1 : Nat) (Option.none : Option Jvm.ClassFile.FieldType)).before args0 about1 = true := code_word (m := ⟨17, 0⟩) (meth := k17m0) (c := k17c0) (by decide +kernel) rfl rfl rfl (by decide +kernel)
set_option maxRecDepth 65536 in
theorem w_c14 : (Jvm.Cond.code ({ cls := "java/util/AbstractCollection", name := "<init>", desc := "()V" } : Jvm.MethodName) jdk_22_method_1_code (1 : Nat) (Option.none : Option Jvm.ClassFile.FieldType)).before args0 about1 = true := code_word (m := ⟨16, 0⟩) (meth := k16m0) (c := k16c0) (by decide +kernel) rfl rfl rfl (by decide +kernel)
set_option maxRecDepth 65536 in
theorem w_c15 : (Jvm.Cond.code ({ cls := "java/util/ImmutableCollections$ListN", name := "size", desc := "()I" } : Jvm.MethodName) jdk_45_method_3_code (1 : Nat) (Option.some Jvm.ClassFile.FieldType.int)).before args0 about1 = true := code_word (m := ⟨20, 1⟩) (meth := k20m1) (c := k20c1) (by decide +kernel) rfl rfl rfl (by decide +kernel)
set_option maxRecDepth 65536 in
theorem w_c16 : (Jvm.Cond.code ({ cls := "java/util/ImmutableCollections$ListN", name := "get", desc := "(I)Ljava/lang/Object;" } : Jvm.MethodName) jdk_45_method_4_code (2 : Nat) (Option.some (Jvm.ClassFile.FieldType.object "java/lang/Object"))).before args0 about1 = true := code_word (m := ⟨20, 2⟩) (meth := k20m2) (c := k20c2) (by decide +kernel) rfl rfl rfl (by decide +kernel)
set_option maxRecDepth 65536 in
theorem w_c17 : (Jvm.Cond.code ({ cls := "java/lang/Double", name := "doubleValue", desc := "()D" } : Jvm.MethodName) jdk_117_method_19_code (1 : Nat) (Option.some Jvm.ClassFile.FieldType.double)).before args0 about1 = true := code_word (m := ⟨9, 2⟩) (meth := k9m2) (c := k9c2) (by decide +kernel) rfl rfl rfl (by decide +kernel)
def codes1 : List Jvm.Cond := [Jvm.Cond.code x code maxLocals ret, Jvm.Cond.code ({ cls := "com/example/mehr/mehr/Measures", name := "<init>", desc := "(DDDDDD)V" } : Jvm.MethodName) prog_10_method_1_code (13 : Nat) (Option.none : Option Jvm.ClassFile.FieldType), Jvm.Cond.code ({ cls := "java/lang/Record", name := "<init>", desc := "()V" } : Jvm.MethodName) jdk_30_method_1_code (1 : Nat) (Option.none : Option Jvm.ClassFile.FieldType), Jvm.Cond.code ({ cls := "java/lang/Object", name := "<init>", desc := "()V" } : Jvm.MethodName) object_method_1_code (1 : Nat) (Option.none : Option Jvm.ClassFile.FieldType), Jvm.Cond.code ({ cls := "com/example/mehr/mehr/Measures", name := "values", desc := "()Ljava/util/List;" } : Jvm.MethodName) prog_10_method_4_code (1 : Nat) (Option.some (Jvm.ClassFile.FieldType.object "java/util/List")), Jvm.Cond.code ({ cls := "java/lang/Double", name := "valueOf", desc := "(D)Ljava/lang/Double;" } : Jvm.MethodName) jdk_117_method_4_code (2 : Nat) (Option.some (Jvm.ClassFile.FieldType.object "java/lang/Double")), Jvm.Cond.code ({ cls := "java/lang/Double", name := "<init>", desc := "(D)V" } : Jvm.MethodName) jdk_117_method_9_code (3 : Nat) (Option.none : Option Jvm.ClassFile.FieldType), Jvm.Cond.code ({ cls := "java/lang/Number", name := "<init>", desc := "()V" } : Jvm.MethodName) jdk_18_method_1_code (1 : Nat) (Option.none : Option Jvm.ClassFile.FieldType), Jvm.Cond.code ({ cls := "java/util/List", name := "of", desc := "(Ljava/lang/Object;Ljava/lang/Object;Ljava/lang/Object;Ljava/lang/Object;Ljava/lang/Object;Ljava/lang/Object;)Ljava/util/List;" } : Jvm.MethodName) jdk_40_method_42_code (6 : Nat) (Option.some (Jvm.ClassFile.FieldType.object "java/util/List")), Jvm.Cond.code ({ cls := "java/util/ImmutableCollections", name := "listFromTrustedArray", desc := "([Ljava/lang/Object;)Ljava/util/List;" } : Jvm.MethodName) jdk_56_method_5_code (5 : Nat) (Option.some (Jvm.ClassFile.FieldType.object "java/util/List")), Jvm.Cond.code ({ cls := "java/util/Objects", name := "requireNonNull", desc := "(Ljava/lang/Object;)Ljava/lang/Object;" } : Jvm.MethodName) jdk_31_method_10_code (1 : Nat) (Option.some (Jvm.ClassFile.FieldType.object "java/lang/Object")), Jvm.Cond.code ({ cls := "java/util/ImmutableCollections$ListN", name := "<init>", desc := "([Ljava/lang/Object;Z)V" } : Jvm.MethodName) jdk_45_method_1_code (3 : Nat) (Option.none : Option Jvm.ClassFile.FieldType), Jvm.Cond.code ({ cls := "java/util/ImmutableCollections$AbstractImmutableList", name := "<init>", desc := "()V" } : Jvm.MethodName) jdk_46_method_1_code (1 : Nat) (Option.none : Option Jvm.ClassFile.FieldType), Jvm.Cond.code ({ cls := "java/util/ImmutableCollections$AbstractImmutableCollection", name := "<init>", desc := "()V" } : Jvm.MethodName) jdk_47_method_1_code (1 : Nat) (Option.none : Option Jvm.ClassFile.FieldType), Jvm.Cond.code ({ cls := "java/util/AbstractCollection", name := "<init>", desc := "()V" } : Jvm.MethodName) jdk_22_method_1_code (1 : Nat) (Option.none : Option Jvm.ClassFile.FieldType), Jvm.Cond.code ({ cls := "java/util/ImmutableCollections$ListN", name := "size", desc := "()I" } : Jvm.MethodName) jdk_45_method_3_code (1 : Nat) (Option.some Jvm.ClassFile.FieldType.int), Jvm.Cond.code ({ cls := "java/util/ImmutableCollections$ListN", name := "get", desc := "(I)Ljava/lang/Object;" } : Jvm.MethodName) jdk_45_method_4_code (2 : Nat) (Option.some (Jvm.ClassFile.FieldType.object "java/lang/Object")), Jvm.Cond.code ({ cls := "java/lang/Double", name := "doubleValue", desc := "()D" } : Jvm.MethodName) jdk_117_method_19_code (1 : Nat) (Option.some Jvm.ClassFile.FieldType.double)]
set_option maxRecDepth 65536 in
theorem codes_eq : words1.filter isCode = codes1 := rfl
theorem w_codes : ∀ c ∈ words1.filter isCode, c.before args0 about1 = true := by
  rw [codes_eq]
  intro c hc
  simp only [codes1, List.mem_cons, List.not_mem_nil, or_false] at hc
  rcases hc with rfl | rfl | rfl | rfl | rfl | rfl | rfl | rfl | rfl | rfl | rfl | rfl | rfl | rfl | rfl | rfl | rfl | rfl
  · exact w_c0
  · exact w_c1
  · exact w_c2
  · exact w_c3
  · exact w_c4
  · exact w_c5
  · exact w_c6
  · exact w_c7
  · exact w_c8
  · exact w_c9
  · exact w_c10
  · exact w_c11
  · exact w_c12
  · exact w_c13
  · exact w_c14
  · exact w_c15
  · exact w_c16
  · exact w_c17
set_option maxRecDepth 65536 in
theorem w_t1 : (words1.take 24).all (fun c => isCode c || c.before args0 about1) = true := by decide +kernel
set_option maxRecDepth 65536 in
theorem w_t2 : ((words1.drop 24).take 24).all (fun c => isCode c || c.before args0 about1) = true := by decide +kernel
set_option maxRecDepth 65536 in
theorem w_t3 : (((words1.drop 24).drop 24).take 24).all (fun c => isCode c || c.before args0 about1) = true := by decide +kernel
set_option maxRecDepth 65536 in
theorem w_t4 : ((((words1.drop 24).drop 24).drop 24).take 24).all (fun c => isCode c || c.before args0 about1) = true := by decide +kernel
set_option maxRecDepth 65536 in
theorem w_t5 : ((((words1.drop 24).drop 24).drop 24).drop 24).all (fun c => isCode c || c.before args0 about1) = true := by decide +kernel
theorem w_tables : (allAtoms (Jvm.Cond.code x code maxLocals ret :: tables_1)).before args0 about1 = true := by
  rw [allAtoms_all]
  show words1.all (fun c => c.before args0 about1) = true
  refine all_split ?_ w_codes
  rw [← List.take_append_drop 24 words1, List.all_append, w_t1, ← List.take_append_drop 24 (words1.drop 24), List.all_append, w_t2, ← List.take_append_drop 24 ((words1.drop 24).drop 24), List.all_append, w_t3, ← List.take_append_drop 24 (((words1.drop 24).drop 24).drop 24), List.all_append, w_t4, w_t5]
  rfl
set_option maxRecDepth 65536 in
theorem w_rest : rest_1_c.before args0 about1 = true := by decide +kernel
set_option maxRecDepth 65536 in
theorem w_case : (Jvm.Cond.and given_1 narrow_1).before args0 about1 = true := by decide +kernel
theorem w_applies : (headSpec (Jvm.Cond.code x code maxLocals ret :: tables_1) room_1).applies x e0.platform about1 = true :=
  (Spec.applies_iff w_frames).mpr ⟨w_running, w_runnable, w_alone, w_named, w_hears, w_ripe, w_room, w_tables⟩
theorem atStart : AtStart classFile x code maxLocals ret World_1 tables_1 room_1 Calls_1 rest_1 Pre_1 launch0 p0 e0 about1 theMethod args0 below0 :=
  ⟨lists_1, trivial, launch0.admits_env _ _ _, launch0.least_env, fairChoices_fair.cas, fairChoices_fair.clock, w_frames, w_args, w_heap, w_applies, trivial, w_rest, w_case⟩
end start1
theorem witness_1 : WitnessClaimed_1 := ⟨start1.p0, start1.e0, start1.about1, start1.theMethod, start1.args0, start1.below0, start1.atStart⟩
end Jvm.Pilot.@@N@@
