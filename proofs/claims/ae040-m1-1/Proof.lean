import JvmDerived
import JvmDerived.Pilot.@@N@@Statement
import JvmDerived.Pilot.@@N@@Code
set_option linter.unusedVariables false
set_option linter.unusedSimpArgs false
namespace Jvm.Pilot.@@N@@
open Jvm Jvm.ClassFile Sem Op Lib Jvm.Free Jvm.Stand Jvm.LawKit Jvm.RoadKit Bundle Jvm.Pilot.@@N@@.Jvm.D
/-- from the state A the body comes to its end as Q says -/
def own_Fin (tb : Tables) (e : Env) (below : List Frame) (s : State) (Q : Option Value → Heap → List Loc → Prop) (kc ks : Nat) (A : State) : Prop :=
  ∃ s₂ o, Steps tb e below A s₂ ∧ s₂.status = .running ∧ Ended s₂ below o ∧ ∃ v L, o = .returned v ∧ Q v s₂.heap L ∧ FrameEnd s o s₂ L kc ks
theorem own_G (tb : Tables) (e : Env) (below : List Frame) (s : State) (Q : Option Value → Heap → List Loc → Prop) (kc ks : Nat) :
    ∃ G : State → Prop, (∀ {A B : State}, (∀ t, Steps tb e below B t → Steps tb e below A t) → G B → G A) ∧ (∀ A, own_Fin tb e below s Q kc ks A → G A) ∧ (∀ A, G A → own_Fin tb e below s Q kc ks A) :=
  ⟨own_Fin tb e below s Q kc ks, fun h k => by obtain ⟨s₂, o, h1, r⟩ := k; exact ⟨s₂, o, h _ h1, r⟩, fun _ h => h, fun _ h => h⟩
theorem own_ret {p : Program} {l : Launch} {e : Env} {R : Room} {s : State} {m : MethodId} {args : Array Value} {below : List Frame} {meth : Method} {c : Code} {T : State} {locs : List Loc} {cells slots : Nat} {Q : Option Value → Heap → List Loc → Prop} {kc ks : Nat} {A : State} {v : Option Value}
    (X : Stand p l e R s m args below meth c T locs cells slots) (hlk : meth.locks = false) (hv : meth.sig.returnType = none → v = none) (hQ : Q v T.heap locs) (hc : cells ≤ kc) (hs : slots ≤ ks)
    (st : ∀ fs, (∀ (f : JFrame) (acts : List Action), f.method = m → f.locked = none → f.entered = [] → (doReturn e (T.setTop f) acts v).1 = T.setFrames fs) → Steps p.tables e below A (T.setFrames fs)) : own_Fin p.tables e below s Q kc ks A := by
  obtain ⟨fs, hr, hrun, hended, hW, hsame⟩ := X.leave hv hlk
  exact ⟨_, _, st fs hr, hrun, hended, _, _, rfl, hQ, ⟨_, rfl⟩, hW, hsame.mono hc hs⟩
theorem own_old {Z : State} {n0 : Nat} {h : Heap} (O : Old Z n0 h) : n0 ≤ h.size := O.1 ▸ O.2.1
theorem own_cat {v : Value} (h : v.isRef = true) : v.category = 1 := by rcases ref_cases h with rfl | ⟨a, rfl⟩ <;> rfl
theorem own_mvM {Z s : State} {a0 args : Array Value} {own host : String} {index : Nat} {y : MethodName} (hZ : Z.Warmed39 s.vm) (w : (Jvm.Cond.methodLinkNest own index y host).before a0 Z = true) : (Jvm.Cond.methodLinkNest own index y host).before args s = true := (Cond.methodLinkNest_wide hZ w :)
theorem own_ne_arv {Z : State} {h : Heap} {a b : Addr} {C : String} {a0 : Array Value} {n : Nat} {k : ClassId} {ty : FieldType} {z : Int32} {vs : List Value} {d : Value} (E : Exa Z h a C) (wi : (Jvm.Cond.instantiable C n).before a0 Z = true) (A : Arv Z h b k ty z vs d) : a ≠ b := by
  obtain ⟨c, A, -⟩ := A
  exact ne_arr E wi A
theorem own_narB (x : Int32) : nar .byte x.toInt8.toInt32 = x.toInt8.toInt32 := by
  refine Int32.toInt_inj.mp ?_
  have h1 := c_i2b x
  have h2 := c_i2b x.toInt8.toInt32
  show (x.toInt8.toInt32.toInt8.toInt32).toInt = _
  omega
theorem own_narC (x : Int32) : nar .char x.toUInt32.toUInt16.toUInt32.toInt32 = x.toUInt32.toUInt16.toUInt32.toInt32 := by
  refine Int32.toInt_inj.mp ?_
  have h1 := c_i2c x
  have h2 := c_i2c x.toUInt32.toUInt16.toUInt32.toInt32
  show (x.toUInt32.toUInt16.toUInt32.toInt32.toUInt32.toUInt16.toUInt32.toInt32).toInt = _
  omega
theorem own_exa {s : State} {args : Array Value} {t : Term} {K : String} (h : (Jvm.Cond.exactly t K).value args s none s [] = some true) : ∃ a, t.eval args s none [] s = some (.ref a) ∧ Exa s s.heap a K := by
  obtain ⟨a, c', cell, k, e1, e2, e3, e4, e5, e6, e7⟩ := Cond.exactly_spec (Cond.before_iff.mpr h)
  exact ⟨a, e1, Exa.start e1 h⟩
theorem own_fint {s : State} {args : Array Value} {t : Term} {C n d : String} {a : Addr} {k : Int32} (ht : t.eval args s none [] s = some (.ref a)) (h : (Jvm.Cond.eq (.field t C n d) (.int k)).value args s none s [] = some true) : Fld s s.heap a C n d (.int k) := by
  refine Fld.start ?_
  rw [← fld_at ht]
  have hk : (Term.int k).eval args s none [] s = some (.int k) := rfl
  cases q : (Term.field t C n d).eval args s none [] s with
  | none => simp [Cond.value, q] at h
  | some v => cases v <;> simp [Cond.value, q, hk] at h; rw [h]
theorem own_flong {s : State} {args : Array Value} {t : Term} {C n d : String} {a : Addr} {k : Int64} (ht : t.eval args s none [] s = some (.ref a)) (h : (Jvm.Cond.eq (.field t C n d) (.long k)).value args s none s [] = some true) : Fld s s.heap a C n d (.long k) := by
  refine Fld.start ?_
  rw [← fld_at ht]
  have hk : (Term.long k).eval args s none [] s = some (.long k) := rfl
  cases q : (Term.field t C n d).eval args s none [] s with
  | none => simp [Cond.value, q] at h
  | some v => cases v <;> simp [Cond.value, q, hk] at h; rw [h]
theorem ef_0 (m : MethodId) (x0 : Addr)  : entryFrame m #[(.ref x0)] 1 = mkF m 0 #[.val (.ref x0)] [] := by first | (simp [entryFrame, mkF, argsToLocals, Value.category]; done) | rfl
theorem pn_0 : plainName "java/lang/Record" = true := by first | (simp [plainName, overriddenIn]; done) | decide +kernel
theorem d2_0 : decode jdk_30_method_1_code 0 = .ok (.aload_n 0, 1) := by decide +kernel
theorem d2_1 : decode jdk_30_method_1_code 1 = .ok (.invokespecial 1, 3) := by decide +kernel
theorem d2_4 : decode jdk_30_method_1_code 4 = .ok (.return_, 1) := by decide +kernel
def Q_rec (Z : State) (a : Addr) (h0 : Heap) (n0 : Nat) (v : Option Value) (h : Heap) (L : List Loc) : Prop := v = none ∧ Fr n0 L ∧ h = h0
set_option maxRecDepth 65536 in
set_option maxHeartbeats 40000000 in
theorem rm_rec (l : Launch) (Z : State) (a0 : Array Value) (hw : ∀ d ∈ tables_1, d.before a0 Z = true) (ws : List Jvm.Cond) (a : Addr) (h0 : Heap) (n0 : Nat) (O0 : Old Z n0 h0)  :
    MetFree l (⟨"java/lang/Record", "<init>", "()V"⟩ : MethodName) (head1 (Jvm.Cond.code (⟨"java/lang/Record", "<init>", "()V"⟩ : MethodName) jdk_30_method_1_code 1 none :: ws) ({ frames := 1, cells := 0, slots := 0, locals := 12 } : Room)) (fun aV U => aV = #[(.ref a)] ∧ Z.Warmed39 U.vm ∧ U.heap = h0) (fun _ _ _ _ _ => True) (fun _ U o U' => ∃ v L, o = .returned v ∧ Q_rec Z a h0 n0 v U'.heap L ∧ FrameEnd U o U' L ({ frames := 1, cells := 0, slots := 0, locals := 12 } : Room).cells ({ frames := 1, cells := 0, slots := 0, locals := 12 } : Room).slots) := by
  refine MetFree.of_bodySF (plainFor_of_name pn_0) hisR ?_
  intro pr_ en_ st_ me_ args below meth_ co_ s₁ Bd hml0 hP hK
  obtain ⟨rfl, hZ, hh⟩ := hP
  have hx := Bd.exec
  have hby := Bd.bytes
  have hml : co_.maxLocals = 1 := hml0
  have hown : st_.vm.findClass "java/lang/Record" = some me_.cls := findClass_of_methodNamed Bd.named
  have hnm := (name_of_methodNamed Bd.named Bd.method).1
  have X0 : Stand pr_ l en_ ({ frames := 1, cells := 0, slots := 0, locals := 12 } : Room) st_ me_ #[(.ref a)] below meth_ co_ s₁ [] 0 0 := Stand.of_body Bd
  have e0 : s₁.heap = h0 := by rw [← hh, Bd.state]; rfl
  have N0 := Fr.nil n0
  have K0 := Keep.refl h0 []
  obtain ⟨G, gv, gf, gb⟩ := own_G pr_.tables en_ below st_ (Q_rec Z a h0 n0) ({ frames := 1, cells := 0, slots := 0, locals := 12 } : Room).cells ({ frames := 1, cells := 0, slots := 0, locals := 12 } : Room).slots
  show own_Fin pr_.tables en_ below st_ (Q_rec Z a h0 n0) ({ frames := 1, cells := 0, slots := 0, locals := 12 } : Room).cells ({ frames := 1, cells := 0, slots := 0, locals := 12 } : Room).slots (s₁.setTop (entryFrame me_ #[(.ref a)] 1))
  refine gb _ (gv (fun tQ kQ => castTop (ef_0 me_ a) kQ) ?_)
  show G (s₁.setTop (mkF me_ 0 #[.val (.ref a)] []))
  refine gv (fun tQ kQ => XS.aloadN X0.here hx rfl (hb hby d2_0) rfl rfl kQ) ?_
  show G (s₁.setTop (mkF me_ 1 #[.val (.ref a)] [(.ref a)]))
  obtain ⟨T1, X1, e1, st1⟩ := initO X0 hx hZ hown (hw _ (List.mem_of_getElem? (i := 14) rfl)) (hw _ (List.mem_of_getElem? (i := 15) rfl)) (hw _ (List.mem_of_getElem? (i := 16) rfl)) e0 (g := (mkF me_ 1 #[.val (.ref a)] [(.ref a)])) rfl (by rw [hml]; rfl) rfl (hb hby d2_1) (by decide) (W := 0) (by show 2 * 0 + _ ≤ _; exact Nat.le_of_eq rfl) (by decide)
  refine gv st1 ?_
  show G (T1.setTop (mkF me_ 4 #[.val (.ref a)] []))
  refine gf _ (own_ret X1 Bd.notSynchronized (v := none) (fun _ => rfl) ?_ (by decide) (by decide) (fun fs hr => X1.returnOut hx Bd.returns (hb hby d2_4) hr))
  show Q_rec Z a h0 n0 _ T1.heap _
  rw [e1]
  exact ⟨rfl, N0, rfl⟩
theorem pn_1 : plainName "com/example/closemark/closemark/prices/LatestRow" = true := by first | (simp [plainName, overriddenIn]; done) | decide +kernel
theorem d5_0 : decode prog_43_method_1_code 0 = .ok (.aload_n 0, 1) := by decide +kernel
theorem d5_1 : decode prog_43_method_1_code 1 = .ok (.invokespecial 1, 3) := by decide +kernel
theorem d5_4 : decode prog_43_method_1_code 4 = .ok (.return_, 1) := by decide +kernel
def Q_lri (Z : State) (a : Addr) (h0 : Heap) (n0 : Nat) (v : Option Value) (h : Heap) (L : List Loc) : Prop := v = none ∧ Fr n0 L ∧ h = h0
set_option maxRecDepth 65536 in
set_option maxHeartbeats 40000000 in
theorem rm_lri (l : Launch) (Z : State) (a0 : Array Value) (hw : ∀ d ∈ tables_1, d.before a0 Z = true) (ws : List Jvm.Cond) (a : Addr) (h0 : Heap) (n0 : Nat) (O0 : Old Z n0 h0)  :
    MetFree l (⟨"com/example/closemark/closemark/prices/LatestRow", "<init>", "()V"⟩ : MethodName) (head1 (Jvm.Cond.code (⟨"com/example/closemark/closemark/prices/LatestRow", "<init>", "()V"⟩ : MethodName) prog_43_method_1_code 1 none :: ws) ({ frames := 1, cells := 0, slots := 0, locals := 12 } : Room)) (fun aV U => aV = #[(.ref a)] ∧ Z.Warmed39 U.vm ∧ U.heap = h0) (fun _ _ _ _ _ => True) (fun _ U o U' => ∃ v L, o = .returned v ∧ Q_lri Z a h0 n0 v U'.heap L ∧ FrameEnd U o U' L ({ frames := 1, cells := 0, slots := 0, locals := 12 } : Room).cells ({ frames := 1, cells := 0, slots := 0, locals := 12 } : Room).slots) := by
  refine MetFree.of_bodySF (plainFor_of_name pn_1) hisR ?_
  intro pr_ en_ st_ me_ args below meth_ co_ s₁ Bd hml0 hP hK
  obtain ⟨rfl, hZ, hh⟩ := hP
  have hx := Bd.exec
  have hby := Bd.bytes
  have hml : co_.maxLocals = 1 := hml0
  have hown : st_.vm.findClass "com/example/closemark/closemark/prices/LatestRow" = some me_.cls := findClass_of_methodNamed Bd.named
  have hnm := (name_of_methodNamed Bd.named Bd.method).1
  have X0 : Stand pr_ l en_ ({ frames := 1, cells := 0, slots := 0, locals := 12 } : Room) st_ me_ #[(.ref a)] below meth_ co_ s₁ [] 0 0 := Stand.of_body Bd
  have e0 : s₁.heap = h0 := by rw [← hh, Bd.state]; rfl
  have N0 := Fr.nil n0
  have K0 := Keep.refl h0 []
  obtain ⟨G, gv, gf, gb⟩ := own_G pr_.tables en_ below st_ (Q_lri Z a h0 n0) ({ frames := 1, cells := 0, slots := 0, locals := 12 } : Room).cells ({ frames := 1, cells := 0, slots := 0, locals := 12 } : Room).slots
  show own_Fin pr_.tables en_ below st_ (Q_lri Z a h0 n0) ({ frames := 1, cells := 0, slots := 0, locals := 12 } : Room).cells ({ frames := 1, cells := 0, slots := 0, locals := 12 } : Room).slots (s₁.setTop (entryFrame me_ #[(.ref a)] 1))
  refine gb _ (gv (fun tQ kQ => castTop (ef_0 me_ a) kQ) ?_)
  show G (s₁.setTop (mkF me_ 0 #[.val (.ref a)] []))
  refine gv (fun tQ kQ => XS.aloadN X0.here hx rfl (hb hby d5_0) rfl rfl kQ) ?_
  show G (s₁.setTop (mkF me_ 1 #[.val (.ref a)] [(.ref a)]))
  obtain ⟨T2, X2, e2, st2⟩ := initO X0 hx hZ hown (hw _ (List.mem_of_getElem? (i := 42) rfl)) (hw _ (List.mem_of_getElem? (i := 15) rfl)) (hw _ (List.mem_of_getElem? (i := 16) rfl)) e0 (g := (mkF me_ 1 #[.val (.ref a)] [(.ref a)])) rfl (by rw [hml]; rfl) rfl (hb hby d5_1) (by decide) (W := 0) (by show 2 * 0 + _ ≤ _; exact Nat.le_of_eq rfl) (by decide)
  refine gv st2 ?_
  show G (T2.setTop (mkF me_ 4 #[.val (.ref a)] []))
  refine gf _ (own_ret X2 Bd.notSynchronized (v := none) (fun _ => rfl) ?_ (by decide) (by decide) (fun fs hr => X2.returnOut hx Bd.returns (hb hby d5_4) hr))
  show Q_lri Z a h0 n0 _ T2.heap _
  rw [e2]
  exact ⟨rfl, N0, rfl⟩
theorem ef_1 (m : MethodId) (x0 : Addr) (x3 : Addr) (x5 : Int64)  : entryFrame m #[(.ref x0), .null, .null, (.ref x3), .null, (.long x5)] 7 = mkF m 0 #[.val (.ref x0), .val .null, .val .null, .val (.ref x3), .val .null, .val (.long x5), .second] [] := by first | (simp [entryFrame, mkF, argsToLocals, Value.category]; done) | rfl
theorem pn_2 : plainName "com/example/closemark/closemark/tape/TapeRow" = true := by first | (simp [plainName, overriddenIn]; done) | decide +kernel
theorem d1_0 : decode prog_65_method_1_code 0 = .ok (.aload_n 0, 1) := by decide +kernel
theorem d1_1 : decode prog_65_method_1_code 1 = .ok (.invokespecial 1, 3) := by decide +kernel
theorem pd_0 : parseMethodDescriptor "()V" = some ⟨[], none⟩ := by decide +kernel
theorem d1_4 : decode prog_65_method_1_code 4 = .ok (.aload_n 0, 1) := by decide +kernel
theorem d1_5 : decode prog_65_method_1_code 5 = .ok (.aload_n 1, 1) := by decide +kernel
theorem d1_6 : decode prog_65_method_1_code 6 = .ok (.putfield 7, 3) := by decide +kernel
theorem d1_9 : decode prog_65_method_1_code 9 = .ok (.aload_n 0, 1) := by decide +kernel
theorem d1_10 : decode prog_65_method_1_code 10 = .ok (.aload_n 2, 1) := by decide +kernel
theorem d1_11 : decode prog_65_method_1_code 11 = .ok (.putfield 13, 3) := by decide +kernel
theorem d1_14 : decode prog_65_method_1_code 14 = .ok (.aload_n 0, 1) := by decide +kernel
theorem d1_15 : decode prog_65_method_1_code 15 = .ok (.aload_n 3, 1) := by decide +kernel
theorem d1_16 : decode prog_65_method_1_code 16 = .ok (.putfield 17, 3) := by decide +kernel
theorem d1_19 : decode prog_65_method_1_code 19 = .ok (.aload_n 0, 1) := by decide +kernel
theorem d1_20 : decode prog_65_method_1_code 20 = .ok (.aload 4, 2) := by decide +kernel
theorem d1_22 : decode prog_65_method_1_code 22 = .ok (.putfield 21, 3) := by decide +kernel
theorem d1_25 : decode prog_65_method_1_code 25 = .ok (.aload_n 0, 1) := by decide +kernel
theorem d1_26 : decode prog_65_method_1_code 26 = .ok (.lload 5, 2) := by decide +kernel
theorem d1_28 : decode prog_65_method_1_code 28 = .ok (.putfield 25, 3) := by decide +kernel
theorem d1_31 : decode prog_65_method_1_code 31 = .ok (.return_, 1) := by decide +kernel
def Q_tri (Z : State) (a : Addr) (k : Addr) (q : Int64) (h0 : Heap) (n0 : Nat) (v : Option Value) (h : Heap) (L : List Loc) : Prop := v = none ∧ Fr n0 L ∧ Keep h0 h [a] ∧ (Exa Z h a "com/example/closemark/closemark/tape/TapeRow") ∧ (Fld Z h a "com/example/closemark/closemark/tape/TapeRow" "kind" "Lcom/example/closemark/closemark/tape/TapeRow$Kind;" (.ref k))
set_option maxRecDepth 65536 in
set_option maxHeartbeats 40000000 in
theorem rm_tri (l : Launch) (Z : State) (a0 : Array Value) (hw : ∀ d ∈ tables_1, d.before a0 Z = true) (ws : List Jvm.Cond) (a : Addr) (k : Addr) (q : Int64) (h0 : Heap) (n0 : Nat) (O0 : Old Z n0 h0) (u0 : Exa Z h0 a "com/example/closemark/closemark/tape/TapeRow") (u1 : Fld Z h0 a "com/example/closemark/closemark/tape/TapeRow" "time" "Ljava/time/Instant;" .null) (u2 : Fld Z h0 a "com/example/closemark/closemark/tape/TapeRow" "symbol" "Ljava/lang/String;" .null) (u3 : Fld Z h0 a "com/example/closemark/closemark/tape/TapeRow" "kind" "Lcom/example/closemark/closemark/tape/TapeRow$Kind;" .null) (u4 : Fld Z h0 a "com/example/closemark/closemark/tape/TapeRow" "price" "Ljava/math/BigDecimal;" .null) (u5 : Fld Z h0 a "com/example/closemark/closemark/tape/TapeRow" "qty" "J" (.long (0 : Int64))) (u6 : n0 ≤ a) :
    MetFree l (⟨"com/example/closemark/closemark/tape/TapeRow", "<init>", "(Ljava/time/Instant;Ljava/lang/String;Lcom/example/closemark/closemark/tape/TapeRow$Kind;Ljava/math/BigDecimal;J)V"⟩ : MethodName) (head1 (Jvm.Cond.code (⟨"com/example/closemark/closemark/tape/TapeRow", "<init>", "(Ljava/time/Instant;Ljava/lang/String;Lcom/example/closemark/closemark/tape/TapeRow$Kind;Ljava/math/BigDecimal;J)V"⟩ : MethodName) prog_65_method_1_code 7 none :: ws) ({ frames := 2, cells := 0, slots := 0, locals := 24 } : Room)) (fun aV U => aV = #[(.ref a), .null, .null, (.ref k), .null, (.long q)] ∧ Z.Warmed39 U.vm ∧ U.heap = h0) (fun _ _ _ _ _ => True) (fun _ U o U' => ∃ v L, o = .returned v ∧ Q_tri Z a k q h0 n0 v U'.heap L ∧ FrameEnd U o U' L ({ frames := 2, cells := 0, slots := 0, locals := 24 } : Room).cells ({ frames := 2, cells := 0, slots := 0, locals := 24 } : Room).slots) := by
  refine MetFree.of_bodySF (plainFor_of_name pn_2) hisR ?_
  intro pr_ en_ st_ me_ args below meth_ co_ s₁ Bd hml0 hP hK
  obtain ⟨rfl, hZ, hh⟩ := hP
  have hx := Bd.exec
  have hby := Bd.bytes
  have hml : co_.maxLocals = 7 := hml0
  have hown : st_.vm.findClass "com/example/closemark/closemark/tape/TapeRow" = some me_.cls := findClass_of_methodNamed Bd.named
  have hnm := (name_of_methodNamed Bd.named Bd.method).1
  have X0 : Stand pr_ l en_ ({ frames := 2, cells := 0, slots := 0, locals := 24 } : Room) st_ me_ #[(.ref a), .null, .null, (.ref k), .null, (.long q)] below meth_ co_ s₁ [] 0 0 := Stand.of_body Bd
  have e0 : s₁.heap = h0 := by rw [← hh, Bd.state]; rfl
  have N0 := Fr.nil n0
  have K0 := Keep.refl h0 [a]
  obtain ⟨G, gv, gf, gb⟩ := own_G pr_.tables en_ below st_ (Q_tri Z a k q h0 n0) ({ frames := 2, cells := 0, slots := 0, locals := 24 } : Room).cells ({ frames := 2, cells := 0, slots := 0, locals := 24 } : Room).slots
  show own_Fin pr_.tables en_ below st_ (Q_tri Z a k q h0 n0) ({ frames := 2, cells := 0, slots := 0, locals := 24 } : Room).cells ({ frames := 2, cells := 0, slots := 0, locals := 24 } : Room).slots (s₁.setTop (entryFrame me_ #[(.ref a), .null, .null, (.ref k), .null, (.long q)] 7))
  refine gb _ (gv (fun tQ kQ => castTop (ef_1 me_ a k q) kQ) ?_)
  show G (s₁.setTop (mkF me_ 0 #[.val (.ref a), .val .null, .val .null, .val (.ref k), .val .null, .val (.long q), .second] []))
  refine gv (fun tQ kQ => XS.aloadN X0.here hx rfl (hb hby d1_0) rfl rfl kQ) ?_
  show G (s₁.setTop (mkF me_ 1 #[.val (.ref a), .val .null, .val .null, .val (.ref k), .val .null, .val (.long q), .second] [(.ref a)]))
  obtain ⟨_, _, ⟨T3, L3, k3, n3⟩, -, X3, ⟨Lc3, hQ3, l3, y3, z3⟩, st3⟩ := X0.specialBack hx (y := (⟨"java/lang/Record", "<init>", "()V"⟩ : MethodName)) rfl hown (mvT hZ (hw _ (List.mem_of_getElem? (i := 9) rfl))) (mvT hZ (hw _ (List.mem_of_getElem? (i := 10) rfl))) (mvT hZ (hw _ (List.mem_of_getElem? (i := 13) rfl))) (by decide) (backOf (W := 0) (rm_rec l Z a0 hw [] a h0 n0 O0 ) hZ (hw _ (List.mem_of_getElem? (i := 13) rfl)) (hw _ (List.mem_of_getElem? (i := 12) rfl)) (by decide) (by decide)) (g := (mkF me_ 1 #[.val (.ref a), .val .null, .val .null, .val (.ref k), .val .null, .val (.long q), .second] [(.ref a)])) rfl (by rw [hml]; rfl) (Steps.refl _) (a := a) (argsL := []) (rest := []) (lenOf pd_0 rfl) rfl (by show 2 * 0 + _ ≤ _; exact Nat.le_of_eq rfl) (hb hby d1_1) (fun _ _ => ⟨rfl, e0, (by decide : 0 + 0 ≤ _), (by decide : 0 + 0 ≤ _)⟩)
  dsimp only [Pt.U, Pt.locs, Pt.cells, Pt.slots] at X3 l3 y3 z3 st3 hQ3
  subst l3 y3 z3
  obtain ⟨rfl, Nq3, eq3⟩ := hQ3
  have N4 := Fr.app N0 Nq3
  refine gv (fun tQ kQ => st3.trans kQ) ?_
  show G (T3.setTop (mkF me_ 4 #[.val (.ref a), .val .null, .val .null, .val (.ref k), .val .null, .val (.long q), .second] []))
  refine gv (fun tQ kQ => XS.aloadN X3.here hx rfl (hb hby d1_4) rfl rfl kQ) ?_
  show G (T3.setTop (mkF me_ 5 #[.val (.ref a), .val .null, .val .null, .val (.ref k), .val .null, .val (.long q), .second] [(.ref a)]))
  refine gv (fun tQ kQ => XS.aloadN X3.here hx rfl (hb hby d1_5) rfl rfl kQ) ?_
  show G (T3.setTop (mkF me_ 6 #[.val (.ref a), .val .null, .val .null, .val (.ref k), .val .null, .val (.long q), .second] [.null, (.ref a)]))
  obtain ⟨T5, h5, X5, e5, W5, st5⟩ := putF X3 hx hZ hown (host := "") (Or.inl (hw _ (List.mem_of_getElem? (i := 17) rfl))) Via.refl eq3 u1 u0 (Or.inr ⟨(hw _ (List.mem_of_getElem? (i := 18) rfl)), rfl, hnm⟩) (hw _ (List.mem_of_getElem? (i := 1) rfl)) (ty := (.object "java/time/Instant")) (by decide) rfl rfl (g := (mkF me_ 6 #[.val (.ref a), .val .null, .val .null, .val (.ref k), .val .null, .val (.long q), .second] [.null, (.ref a)])) rfl rfl (hb hby d1_6)
  refine gv st5 ?_
  have f7 : Exa Z h5 a "com/example/closemark/closemark/tape/TapeRow" := u0.wr W5
  have f8 : Fld Z h5 a "com/example/closemark/closemark/tape/TapeRow" "symbol" "Ljava/lang/String;" .null := u2.other W5 (Or.inr (slot_ne (Or.inr (hw _ (List.mem_of_getElem? (i := 20) rfl))) (Or.inr (hw _ (List.mem_of_getElem? (i := 18) rfl))) (by decide) (t := (.object "java/lang/String")) (t' := (.object "java/time/Instant")) (by decide) (by decide)))
  have f9 : Fld Z h5 a "com/example/closemark/closemark/tape/TapeRow" "kind" "Lcom/example/closemark/closemark/tape/TapeRow$Kind;" .null := u3.other W5 (Or.inr (slot_ne (Or.inr (hw _ (List.mem_of_getElem? (i := 22) rfl))) (Or.inr (hw _ (List.mem_of_getElem? (i := 18) rfl))) (by decide) (t := (.object "com/example/closemark/closemark/tape/TapeRow$Kind")) (t' := (.object "java/time/Instant")) (by decide) (by decide)))
  have f10 : Fld Z h5 a "com/example/closemark/closemark/tape/TapeRow" "price" "Ljava/math/BigDecimal;" .null := u4.other W5 (Or.inr (slot_ne (Or.inr (hw _ (List.mem_of_getElem? (i := 24) rfl))) (Or.inr (hw _ (List.mem_of_getElem? (i := 18) rfl))) (by decide) (t := (.object "java/math/BigDecimal")) (t' := (.object "java/time/Instant")) (by decide) (by decide)))
  have f11 : Fld Z h5 a "com/example/closemark/closemark/tape/TapeRow" "qty" "J" (.long (0 : Int64)) := u5.other W5 (Or.inr (slot_ne (Or.inr (hw _ (List.mem_of_getElem? (i := 26) rfl))) (Or.inr (hw _ (List.mem_of_getElem? (i := 18) rfl))) (by decide) (t := .long) (t' := (.object "java/time/Instant")) (by decide) (by decide)))
  have O12 := O0.wr W5 u6
  have K13 := K0.wr W5 (Or.inl (List.mem_of_getElem? (i := 0) rfl))
  have N14 := Fr.snoc X5 N4 u6
  have f6 : Fld Z h5 a "com/example/closemark/closemark/tape/TapeRow" "time" "Ljava/time/Instant;" .null := u1.same W5
  show G (T5.setTop (mkF me_ 9 #[.val (.ref a), .val .null, .val .null, .val (.ref k), .val .null, .val (.long q), .second] []))
  refine gv (fun tQ kQ => XS.aloadN X5.here hx rfl (hb hby d1_9) rfl rfl kQ) ?_
  show G (T5.setTop (mkF me_ 10 #[.val (.ref a), .val .null, .val .null, .val (.ref k), .val .null, .val (.long q), .second] [(.ref a)]))
  refine gv (fun tQ kQ => XS.aloadN X5.here hx rfl (hb hby d1_10) rfl rfl kQ) ?_
  show G (T5.setTop (mkF me_ 11 #[.val (.ref a), .val .null, .val .null, .val (.ref k), .val .null, .val (.long q), .second] [.null, (.ref a)]))
  obtain ⟨T15, h15, X15, e15, W15, st15⟩ := putF X5 hx hZ hown (host := "") (Or.inl (hw _ (List.mem_of_getElem? (i := 19) rfl))) Via.refl e5 f8 f7 (Or.inr ⟨(hw _ (List.mem_of_getElem? (i := 20) rfl)), rfl, hnm⟩) (hw _ (List.mem_of_getElem? (i := 1) rfl)) (ty := (.object "java/lang/String")) (by decide) rfl rfl (g := (mkF me_ 11 #[.val (.ref a), .val .null, .val .null, .val (.ref k), .val .null, .val (.long q), .second] [.null, (.ref a)])) rfl rfl (hb hby d1_11)
  refine gv st15 ?_
  have f17 : Exa Z h15 a "com/example/closemark/closemark/tape/TapeRow" := f7.wr W15
  have f18 : Fld Z h15 a "com/example/closemark/closemark/tape/TapeRow" "time" "Ljava/time/Instant;" .null := f6.other W15 (Or.inr (slot_ne (Or.inr (hw _ (List.mem_of_getElem? (i := 18) rfl))) (Or.inr (hw _ (List.mem_of_getElem? (i := 20) rfl))) (by decide) (t := (.object "java/time/Instant")) (t' := (.object "java/lang/String")) (by decide) (by decide)))
  have f19 : Fld Z h15 a "com/example/closemark/closemark/tape/TapeRow" "kind" "Lcom/example/closemark/closemark/tape/TapeRow$Kind;" .null := f9.other W15 (Or.inr (slot_ne (Or.inr (hw _ (List.mem_of_getElem? (i := 22) rfl))) (Or.inr (hw _ (List.mem_of_getElem? (i := 20) rfl))) (by decide) (t := (.object "com/example/closemark/closemark/tape/TapeRow$Kind")) (t' := (.object "java/lang/String")) (by decide) (by decide)))
  have f20 : Fld Z h15 a "com/example/closemark/closemark/tape/TapeRow" "price" "Ljava/math/BigDecimal;" .null := f10.other W15 (Or.inr (slot_ne (Or.inr (hw _ (List.mem_of_getElem? (i := 24) rfl))) (Or.inr (hw _ (List.mem_of_getElem? (i := 20) rfl))) (by decide) (t := (.object "java/math/BigDecimal")) (t' := (.object "java/lang/String")) (by decide) (by decide)))
  have f21 : Fld Z h15 a "com/example/closemark/closemark/tape/TapeRow" "qty" "J" (.long (0 : Int64)) := f11.other W15 (Or.inr (slot_ne (Or.inr (hw _ (List.mem_of_getElem? (i := 26) rfl))) (Or.inr (hw _ (List.mem_of_getElem? (i := 20) rfl))) (by decide) (t := .long) (t' := (.object "java/lang/String")) (by decide) (by decide)))
  have O22 := O12.wr W15 u6
  have K23 := K13.wr W15 (Or.inl (List.mem_of_getElem? (i := 0) rfl))
  have N24 := Fr.snoc X15 N14 u6
  have f16 : Fld Z h15 a "com/example/closemark/closemark/tape/TapeRow" "symbol" "Ljava/lang/String;" .null := f8.same W15
  show G (T15.setTop (mkF me_ 14 #[.val (.ref a), .val .null, .val .null, .val (.ref k), .val .null, .val (.long q), .second] []))
  refine gv (fun tQ kQ => XS.aloadN X15.here hx rfl (hb hby d1_14) rfl rfl kQ) ?_
  show G (T15.setTop (mkF me_ 15 #[.val (.ref a), .val .null, .val .null, .val (.ref k), .val .null, .val (.long q), .second] [(.ref a)]))
  refine gv (fun tQ kQ => XS.aloadN X15.here hx rfl (hb hby d1_15) rfl rfl kQ) ?_
  show G (T15.setTop (mkF me_ 16 #[.val (.ref a), .val .null, .val .null, .val (.ref k), .val .null, .val (.long q), .second] [(.ref k), (.ref a)]))
  obtain ⟨T25, h25, X25, e25, W25, st25⟩ := putF X15 hx hZ hown (host := "") (Or.inl (hw _ (List.mem_of_getElem? (i := 21) rfl))) Via.refl e15 f19 f17 (Or.inr ⟨(hw _ (List.mem_of_getElem? (i := 22) rfl)), rfl, hnm⟩) (hw _ (List.mem_of_getElem? (i := 1) rfl)) (ty := (.object "com/example/closemark/closemark/tape/TapeRow$Kind")) (by decide) rfl rfl (g := (mkF me_ 16 #[.val (.ref a), .val .null, .val .null, .val (.ref k), .val .null, .val (.long q), .second] [(.ref k), (.ref a)])) rfl rfl (hb hby d1_16)
  refine gv st25 ?_
  have f27 : Exa Z h25 a "com/example/closemark/closemark/tape/TapeRow" := f17.wr W25
  have f28 : Fld Z h25 a "com/example/closemark/closemark/tape/TapeRow" "time" "Ljava/time/Instant;" .null := f18.other W25 (Or.inr (slot_ne (Or.inr (hw _ (List.mem_of_getElem? (i := 18) rfl))) (Or.inr (hw _ (List.mem_of_getElem? (i := 22) rfl))) (by decide) (t := (.object "java/time/Instant")) (t' := (.object "com/example/closemark/closemark/tape/TapeRow$Kind")) (by decide) (by decide)))
  have f29 : Fld Z h25 a "com/example/closemark/closemark/tape/TapeRow" "symbol" "Ljava/lang/String;" .null := f16.other W25 (Or.inr (slot_ne (Or.inr (hw _ (List.mem_of_getElem? (i := 20) rfl))) (Or.inr (hw _ (List.mem_of_getElem? (i := 22) rfl))) (by decide) (t := (.object "java/lang/String")) (t' := (.object "com/example/closemark/closemark/tape/TapeRow$Kind")) (by decide) (by decide)))
  have f30 : Fld Z h25 a "com/example/closemark/closemark/tape/TapeRow" "price" "Ljava/math/BigDecimal;" .null := f20.other W25 (Or.inr (slot_ne (Or.inr (hw _ (List.mem_of_getElem? (i := 24) rfl))) (Or.inr (hw _ (List.mem_of_getElem? (i := 22) rfl))) (by decide) (t := (.object "java/math/BigDecimal")) (t' := (.object "com/example/closemark/closemark/tape/TapeRow$Kind")) (by decide) (by decide)))
  have f31 : Fld Z h25 a "com/example/closemark/closemark/tape/TapeRow" "qty" "J" (.long (0 : Int64)) := f21.other W25 (Or.inr (slot_ne (Or.inr (hw _ (List.mem_of_getElem? (i := 26) rfl))) (Or.inr (hw _ (List.mem_of_getElem? (i := 22) rfl))) (by decide) (t := .long) (t' := (.object "com/example/closemark/closemark/tape/TapeRow$Kind")) (by decide) (by decide)))
  have O32 := O22.wr W25 u6
  have K33 := K23.wr W25 (Or.inl (List.mem_of_getElem? (i := 0) rfl))
  have N34 := Fr.snoc X25 N24 u6
  have f26 : Fld Z h25 a "com/example/closemark/closemark/tape/TapeRow" "kind" "Lcom/example/closemark/closemark/tape/TapeRow$Kind;" (.ref k) := f19.same W25
  show G (T25.setTop (mkF me_ 19 #[.val (.ref a), .val .null, .val .null, .val (.ref k), .val .null, .val (.long q), .second] []))
  refine gv (fun tQ kQ => XS.aloadN X25.here hx rfl (hb hby d1_19) rfl rfl kQ) ?_
  show G (T25.setTop (mkF me_ 20 #[.val (.ref a), .val .null, .val .null, .val (.ref k), .val .null, .val (.long q), .second] [(.ref a)]))
  refine gv (fun tQ kQ => XS.aload X25.here hx rfl (hb hby d1_20) rfl rfl kQ) ?_
  show G (T25.setTop (mkF me_ 22 #[.val (.ref a), .val .null, .val .null, .val (.ref k), .val .null, .val (.long q), .second] [.null, (.ref a)]))
  obtain ⟨T35, h35, X35, e35, W35, st35⟩ := putF X25 hx hZ hown (host := "") (Or.inl (hw _ (List.mem_of_getElem? (i := 23) rfl))) Via.refl e25 f30 f27 (Or.inr ⟨(hw _ (List.mem_of_getElem? (i := 24) rfl)), rfl, hnm⟩) (hw _ (List.mem_of_getElem? (i := 1) rfl)) (ty := (.object "java/math/BigDecimal")) (by decide) rfl rfl (g := (mkF me_ 22 #[.val (.ref a), .val .null, .val .null, .val (.ref k), .val .null, .val (.long q), .second] [.null, (.ref a)])) rfl rfl (hb hby d1_22)
  refine gv st35 ?_
  have f37 : Exa Z h35 a "com/example/closemark/closemark/tape/TapeRow" := f27.wr W35
  have f38 : Fld Z h35 a "com/example/closemark/closemark/tape/TapeRow" "time" "Ljava/time/Instant;" .null := f28.other W35 (Or.inr (slot_ne (Or.inr (hw _ (List.mem_of_getElem? (i := 18) rfl))) (Or.inr (hw _ (List.mem_of_getElem? (i := 24) rfl))) (by decide) (t := (.object "java/time/Instant")) (t' := (.object "java/math/BigDecimal")) (by decide) (by decide)))
  have f39 : Fld Z h35 a "com/example/closemark/closemark/tape/TapeRow" "symbol" "Ljava/lang/String;" .null := f29.other W35 (Or.inr (slot_ne (Or.inr (hw _ (List.mem_of_getElem? (i := 20) rfl))) (Or.inr (hw _ (List.mem_of_getElem? (i := 24) rfl))) (by decide) (t := (.object "java/lang/String")) (t' := (.object "java/math/BigDecimal")) (by decide) (by decide)))
  have f40 : Fld Z h35 a "com/example/closemark/closemark/tape/TapeRow" "kind" "Lcom/example/closemark/closemark/tape/TapeRow$Kind;" (.ref k) := f26.other W35 (Or.inr (slot_ne (Or.inr (hw _ (List.mem_of_getElem? (i := 22) rfl))) (Or.inr (hw _ (List.mem_of_getElem? (i := 24) rfl))) (by decide) (t := (.object "com/example/closemark/closemark/tape/TapeRow$Kind")) (t' := (.object "java/math/BigDecimal")) (by decide) (by decide)))
  have f41 : Fld Z h35 a "com/example/closemark/closemark/tape/TapeRow" "qty" "J" (.long (0 : Int64)) := f31.other W35 (Or.inr (slot_ne (Or.inr (hw _ (List.mem_of_getElem? (i := 26) rfl))) (Or.inr (hw _ (List.mem_of_getElem? (i := 24) rfl))) (by decide) (t := .long) (t' := (.object "java/math/BigDecimal")) (by decide) (by decide)))
  have O42 := O32.wr W35 u6
  have K43 := K33.wr W35 (Or.inl (List.mem_of_getElem? (i := 0) rfl))
  have N44 := Fr.snoc X35 N34 u6
  have f36 : Fld Z h35 a "com/example/closemark/closemark/tape/TapeRow" "price" "Ljava/math/BigDecimal;" .null := f30.same W35
  show G (T35.setTop (mkF me_ 25 #[.val (.ref a), .val .null, .val .null, .val (.ref k), .val .null, .val (.long q), .second] []))
  refine gv (fun tQ kQ => XS.aloadN X35.here hx rfl (hb hby d1_25) rfl rfl kQ) ?_
  show G (T35.setTop (mkF me_ 26 #[.val (.ref a), .val .null, .val .null, .val (.ref k), .val .null, .val (.long q), .second] [(.ref a)]))
  refine gv (fun tQ kQ => XS.lload X35.here hx rfl (hb hby d1_26) rfl kQ) ?_
  show G (T35.setTop (mkF me_ 28 #[.val (.ref a), .val .null, .val .null, .val (.ref k), .val .null, .val (.long q), .second] [(.long q), (.ref a)]))
  obtain ⟨T45, h45, X45, e45, W45, st45⟩ := putF X35 hx hZ hown (host := "") (Or.inl (hw _ (List.mem_of_getElem? (i := 25) rfl))) Via.refl e35 f41 f37 (Or.inr ⟨(hw _ (List.mem_of_getElem? (i := 26) rfl)), rfl, hnm⟩) (hw _ (List.mem_of_getElem? (i := 1) rfl)) (ty := .long) (by decide) rfl rfl (g := (mkF me_ 28 #[.val (.ref a), .val .null, .val .null, .val (.ref k), .val .null, .val (.long q), .second] [(.long q), (.ref a)])) rfl rfl (hb hby d1_28)
  refine gv st45 ?_
  have f47 : Exa Z h45 a "com/example/closemark/closemark/tape/TapeRow" := f37.wr W45
  have f48 : Fld Z h45 a "com/example/closemark/closemark/tape/TapeRow" "time" "Ljava/time/Instant;" .null := f38.other W45 (Or.inr (slot_ne (Or.inr (hw _ (List.mem_of_getElem? (i := 18) rfl))) (Or.inr (hw _ (List.mem_of_getElem? (i := 26) rfl))) (by decide) (t := (.object "java/time/Instant")) (t' := .long) (by decide) (by decide)))
  have f49 : Fld Z h45 a "com/example/closemark/closemark/tape/TapeRow" "symbol" "Ljava/lang/String;" .null := f39.other W45 (Or.inr (slot_ne (Or.inr (hw _ (List.mem_of_getElem? (i := 20) rfl))) (Or.inr (hw _ (List.mem_of_getElem? (i := 26) rfl))) (by decide) (t := (.object "java/lang/String")) (t' := .long) (by decide) (by decide)))
  have f50 : Fld Z h45 a "com/example/closemark/closemark/tape/TapeRow" "kind" "Lcom/example/closemark/closemark/tape/TapeRow$Kind;" (.ref k) := f40.other W45 (Or.inr (slot_ne (Or.inr (hw _ (List.mem_of_getElem? (i := 22) rfl))) (Or.inr (hw _ (List.mem_of_getElem? (i := 26) rfl))) (by decide) (t := (.object "com/example/closemark/closemark/tape/TapeRow$Kind")) (t' := .long) (by decide) (by decide)))
  have f51 : Fld Z h45 a "com/example/closemark/closemark/tape/TapeRow" "price" "Ljava/math/BigDecimal;" .null := f36.other W45 (Or.inr (slot_ne (Or.inr (hw _ (List.mem_of_getElem? (i := 24) rfl))) (Or.inr (hw _ (List.mem_of_getElem? (i := 26) rfl))) (by decide) (t := (.object "java/math/BigDecimal")) (t' := .long) (by decide) (by decide)))
  have O52 := O42.wr W45 u6
  have K53 := K43.wr W45 (Or.inl (List.mem_of_getElem? (i := 0) rfl))
  have N54 := Fr.snoc X45 N44 u6
  have f46 : Fld Z h45 a "com/example/closemark/closemark/tape/TapeRow" "qty" "J" (.long q) := f41.same W45
  show G (T45.setTop (mkF me_ 31 #[.val (.ref a), .val .null, .val .null, .val (.ref k), .val .null, .val (.long q), .second] []))
  refine gf _ (own_ret X45 Bd.notSynchronized (v := none) (fun _ => rfl) ?_ (by decide) (by decide) (fun fs hr => X45.returnOut hx Bd.returns (hb hby d1_31) hr))
  show Q_tri Z a k q h0 n0 _ T45.heap _
  rw [e45]
  exact ⟨rfl, N54, K53, f47, f50⟩
theorem pn_3 : plainName "com/example/closemark/closemark/prices/StandingQuotes" = true := by first | (simp [plainName, overriddenIn]; done) | decide +kernel
theorem d4_0 : decode prog_45_method_1_code 0 = .ok (.aload_n 0, 1) := by decide +kernel
theorem d4_1 : decode prog_45_method_1_code 1 = .ok (.invokespecial 1, 3) := by decide +kernel
theorem d4_4 : decode prog_45_method_1_code 4 = .ok (.aload_n 0, 1) := by decide +kernel
theorem d4_5 : decode prog_45_method_1_code 5 = .ok (.new 7, 3) := by decide +kernel
theorem d4_8 : decode prog_45_method_1_code 8 = .ok (.dup, 1) := by decide +kernel
theorem d4_9 : decode prog_45_method_1_code 9 = .ok (.invokespecial 9, 3) := by decide +kernel
theorem d4_12 : decode prog_45_method_1_code 12 = .ok (.putfield 10, 3) := by decide +kernel
theorem d4_15 : decode prog_45_method_1_code 15 = .ok (.aload_n 0, 1) := by decide +kernel
theorem d4_16 : decode prog_45_method_1_code 16 = .ok (.new 7, 3) := by decide +kernel
theorem d4_19 : decode prog_45_method_1_code 19 = .ok (.dup, 1) := by decide +kernel
theorem d4_20 : decode prog_45_method_1_code 20 = .ok (.invokespecial 9, 3) := by decide +kernel
theorem d4_23 : decode prog_45_method_1_code 23 = .ok (.putfield 16, 3) := by decide +kernel
theorem d4_26 : decode prog_45_method_1_code 26 = .ok (.return_, 1) := by decide +kernel
def Q_sqi (Z : State) (a : Addr) (h0 : Heap) (n0 : Nat) (v : Option Value) (h : Heap) (L : List Loc) : Prop := ∃ (x : Addr), ∃ (y : Addr), v = none ∧ Fr n0 L ∧ Keep h0 h [a] ∧ h0.size ≤ x ∧ h0.size ≤ y ∧ x ≠ y ∧ (Exa Z h a "com/example/closemark/closemark/prices/StandingQuotes") ∧ (Fld Z h a "com/example/closemark/closemark/prices/StandingQuotes" "bid" "Lcom/example/closemark/closemark/prices/LatestRow;" (.ref x)) ∧ (Fld Z h a "com/example/closemark/closemark/prices/StandingQuotes" "ask" "Lcom/example/closemark/closemark/prices/LatestRow;" (.ref y)) ∧ (Exa Z h x "com/example/closemark/closemark/prices/LatestRow") ∧ (Exa Z h y "com/example/closemark/closemark/prices/LatestRow") ∧ (Fld Z h x "com/example/closemark/closemark/prices/LatestRow" "row" "Lcom/example/closemark/closemark/tape/TapeRow;" .null) ∧ (Fld Z h y "com/example/closemark/closemark/prices/LatestRow" "row" "Lcom/example/closemark/closemark/tape/TapeRow;" .null)
set_option maxRecDepth 65536 in
set_option maxHeartbeats 40000000 in
theorem rm_sqi (l : Launch) (Z : State) (a0 : Array Value) (hw : ∀ d ∈ tables_1, d.before a0 Z = true) (ws : List Jvm.Cond) (a : Addr) (h0 : Heap) (n0 : Nat) (O0 : Old Z n0 h0) (u0 : Exa Z h0 a "com/example/closemark/closemark/prices/StandingQuotes") (u1 : Fld Z h0 a "com/example/closemark/closemark/prices/StandingQuotes" "bid" "Lcom/example/closemark/closemark/prices/LatestRow;" .null) (u2 : Fld Z h0 a "com/example/closemark/closemark/prices/StandingQuotes" "ask" "Lcom/example/closemark/closemark/prices/LatestRow;" .null) (u3 : n0 ≤ a) :
    MetFree l (⟨"com/example/closemark/closemark/prices/StandingQuotes", "<init>", "()V"⟩ : MethodName) (head1 (Jvm.Cond.code (⟨"com/example/closemark/closemark/prices/StandingQuotes", "<init>", "()V"⟩ : MethodName) prog_45_method_1_code 1 none :: ws) ({ frames := 2, cells := 2, slots := 2, locals := 26 } : Room)) (fun aV U => aV = #[(.ref a)] ∧ Z.Warmed39 U.vm ∧ U.heap = h0) (fun _ _ _ _ _ => True) (fun _ U o U' => ∃ v L, o = .returned v ∧ Q_sqi Z a h0 n0 v U'.heap L ∧ FrameEnd U o U' L ({ frames := 2, cells := 2, slots := 2, locals := 26 } : Room).cells ({ frames := 2, cells := 2, slots := 2, locals := 26 } : Room).slots) := by
  refine MetFree.of_bodySF (plainFor_of_name pn_3) hisR ?_
  intro pr_ en_ st_ me_ args below meth_ co_ s₁ Bd hml0 hP hK
  obtain ⟨rfl, hZ, hh⟩ := hP
  have hx := Bd.exec
  have hby := Bd.bytes
  have hml : co_.maxLocals = 1 := hml0
  have hown : st_.vm.findClass "com/example/closemark/closemark/prices/StandingQuotes" = some me_.cls := findClass_of_methodNamed Bd.named
  have hnm := (name_of_methodNamed Bd.named Bd.method).1
  have X0 : Stand pr_ l en_ ({ frames := 2, cells := 2, slots := 2, locals := 26 } : Room) st_ me_ #[(.ref a)] below meth_ co_ s₁ [] 0 0 := Stand.of_body Bd
  have e0 : s₁.heap = h0 := by rw [← hh, Bd.state]; rfl
  have N0 := Fr.nil n0
  have K0 := Keep.refl h0 [a]
  obtain ⟨G, gv, gf, gb⟩ := own_G pr_.tables en_ below st_ (Q_sqi Z a h0 n0) ({ frames := 2, cells := 2, slots := 2, locals := 26 } : Room).cells ({ frames := 2, cells := 2, slots := 2, locals := 26 } : Room).slots
  show own_Fin pr_.tables en_ below st_ (Q_sqi Z a h0 n0) ({ frames := 2, cells := 2, slots := 2, locals := 26 } : Room).cells ({ frames := 2, cells := 2, slots := 2, locals := 26 } : Room).slots (s₁.setTop (entryFrame me_ #[(.ref a)] 1))
  refine gb _ (gv (fun tQ kQ => castTop (ef_0 me_ a) kQ) ?_)
  show G (s₁.setTop (mkF me_ 0 #[.val (.ref a)] []))
  refine gv (fun tQ kQ => XS.aloadN X0.here hx rfl (hb hby d4_0) rfl rfl kQ) ?_
  show G (s₁.setTop (mkF me_ 1 #[.val (.ref a)] [(.ref a)]))
  obtain ⟨T55, X55, e55, st55⟩ := initO X0 hx hZ hown (hw _ (List.mem_of_getElem? (i := 35) rfl)) (hw _ (List.mem_of_getElem? (i := 15) rfl)) (hw _ (List.mem_of_getElem? (i := 16) rfl)) e0 (g := (mkF me_ 1 #[.val (.ref a)] [(.ref a)])) rfl (by rw [hml]; rfl) rfl (hb hby d4_1) (by decide) (W := 0) (by show 2 * 0 + _ ≤ _; exact Nat.le_of_eq rfl) (by decide)
  refine gv st55 ?_
  show G (T55.setTop (mkF me_ 4 #[.val (.ref a)] []))
  refine gv (fun tQ kQ => XS.aloadN X55.here hx rfl (hb hby d4_4) rfl rfl kQ) ?_
  show G (T55.setTop (mkF me_ 5 #[.val (.ref a)] [(.ref a)]))
  obtain ⟨T56, h56, X56, e56, E56, A56, D56, -, st56⟩ := newO X55 hx hZ hown (hw _ (List.mem_of_getElem? (i := 36) rfl)) (hw _ (List.mem_of_getElem? (i := 37) rfl)) (hw _ (List.mem_of_getElem? (i := 38) rfl)) e55 (g := (mkF me_ 5 #[.val (.ref a)] [(.ref a)])) rfl (hb hby d4_5) (by decide) (by decide)
  obtain ⟨b56, g56⟩ : ∃ z, z = h0.size := ⟨_, rfl⟩
  rw [← g56] at A56 D56 st56
  refine gv st56 ?_
  have ne57 : a ≠ b56 := Nat.ne_of_lt (Nat.lt_of_lt_of_le u0.lt (Nat.le_of_eq g56.symm))
  have g58 : n0 ≤ b56 := Nat.le_trans (own_old O0) (Nat.le_of_eq g56.symm)
  have z59 : h0.size ≤ b56 := Nat.le_trans K0.1 (Nat.le_of_eq g56.symm)
  have f60 : Exa Z h56 a "com/example/closemark/closemark/prices/StandingQuotes" := u0.ext E56
  have f61 : Fld Z h56 a "com/example/closemark/closemark/prices/StandingQuotes" "bid" "Lcom/example/closemark/closemark/prices/LatestRow;" .null := u1.ext E56
  have f62 : Fld Z h56 a "com/example/closemark/closemark/prices/StandingQuotes" "ask" "Lcom/example/closemark/closemark/prices/LatestRow;" .null := u2.ext E56
  have O63 := O0.ext E56
  have K64 := K0.ext E56
  have f65 : Fld Z h56 b56 "com/example/closemark/closemark/prices/LatestRow" "row" "Lcom/example/closemark/closemark/tape/TapeRow;" .null := D56 (Or.inl (hw _ (List.mem_of_getElem? (i := 58) rfl))) (ty := (.object "com/example/closemark/closemark/tape/TapeRow")) (by decide)
  show G (T56.setTop (mkF me_ 8 #[.val (.ref a)] [(.ref b56), (.ref a)]))
  refine gv (fun tQ kQ => XS.dup X56.here hx rfl (hb hby d4_8) rfl rfl kQ) ?_
  show G (T56.setTop (mkF me_ 9 #[.val (.ref a)] [(.ref b56), (.ref b56), (.ref a)]))
  obtain ⟨_, _, ⟨T66, L66, k66, n66⟩, -, X66, ⟨Lc66, hQ66, l66, y66, z66⟩, st66⟩ := X56.specialBack hx (y := (⟨"com/example/closemark/closemark/prices/LatestRow", "<init>", "()V"⟩ : MethodName)) rfl hown (mvT hZ (hw _ (List.mem_of_getElem? (i := 39) rfl))) (mvT hZ (hw _ (List.mem_of_getElem? (i := 40) rfl))) (mvT hZ (hw _ (List.mem_of_getElem? (i := 41) rfl))) (by decide) (backOf (W := 2) (rm_lri l Z a0 hw [] b56 h56 n0 O63 ) hZ (hw _ (List.mem_of_getElem? (i := 41) rfl)) (hw _ (List.mem_of_getElem? (i := 38) rfl)) (by decide) (by decide)) (g := (mkF me_ 9 #[.val (.ref a)] [(.ref b56), (.ref b56), (.ref a)])) rfl (by rw [hml]; rfl) (Steps.refl _) (a := b56) (argsL := []) (rest := [(.ref b56), (.ref a)]) (lenOf pd_0 rfl) rfl (by show 2 * 0 + _ ≤ _; exact Nat.le_of_eq rfl) (hb hby d4_9) (fun _ _ => ⟨rfl, e56, (by decide : 1 + 0 ≤ _), (by decide : 1 + 0 ≤ _)⟩)
  dsimp only [Pt.U, Pt.locs, Pt.cells, Pt.slots] at X66 l66 y66 z66 st66 hQ66
  subst l66 y66 z66
  obtain ⟨rfl, Nq66, eq66⟩ := hQ66
  have N67 := Fr.app N0 Nq66
  refine gv (fun tQ kQ => st66.trans kQ) ?_
  show G (T66.setTop (mkF me_ 12 #[.val (.ref a)] [(.ref b56), (.ref a)]))
  obtain ⟨T68, h68, X68, e68, W68, st68⟩ := putF X66 hx hZ hown (host := "") (Or.inl (hw _ (List.mem_of_getElem? (i := 43) rfl))) Via.refl eq66 f61 f60 (Or.inr ⟨(hw _ (List.mem_of_getElem? (i := 44) rfl)), rfl, hnm⟩) (hw _ (List.mem_of_getElem? (i := 30) rfl)) (ty := (.object "com/example/closemark/closemark/prices/LatestRow")) (by decide) rfl rfl (g := (mkF me_ 12 #[.val (.ref a)] [(.ref b56), (.ref a)])) rfl rfl (hb hby d4_12)
  refine gv st68 ?_
  have f70 : Exa Z h68 a "com/example/closemark/closemark/prices/StandingQuotes" := f60.wr W68
  have f71 : Fld Z h68 a "com/example/closemark/closemark/prices/StandingQuotes" "ask" "Lcom/example/closemark/closemark/prices/LatestRow;" .null := f62.other W68 (Or.inr (slot_ne (Or.inr (hw _ (List.mem_of_getElem? (i := 46) rfl))) (Or.inr (hw _ (List.mem_of_getElem? (i := 44) rfl))) (by decide) (t := (.object "com/example/closemark/closemark/prices/LatestRow")) (t' := (.object "com/example/closemark/closemark/prices/LatestRow")) (by decide) (by decide)))
  have f72 : Exa Z h68 b56 "com/example/closemark/closemark/prices/LatestRow" := A56.wr W68
  have f73 : Fld Z h68 b56 "com/example/closemark/closemark/prices/LatestRow" "row" "Lcom/example/closemark/closemark/tape/TapeRow;" .null := f65.other W68 (Or.inl (Ne.symm ne57))
  have O74 := O63.wr W68 u3
  have K75 := K64.wr W68 (Or.inl (List.mem_of_getElem? (i := 0) rfl))
  have N76 := Fr.snoc X68 N67 u3
  have f69 : Fld Z h68 a "com/example/closemark/closemark/prices/StandingQuotes" "bid" "Lcom/example/closemark/closemark/prices/LatestRow;" (.ref b56) := f61.same W68
  show G (T68.setTop (mkF me_ 15 #[.val (.ref a)] []))
  refine gv (fun tQ kQ => XS.aloadN X68.here hx rfl (hb hby d4_15) rfl rfl kQ) ?_
  show G (T68.setTop (mkF me_ 16 #[.val (.ref a)] [(.ref a)]))
  obtain ⟨T77, h77, X77, e77, E77, A77, D77, -, st77⟩ := newO X68 hx hZ hown (hw _ (List.mem_of_getElem? (i := 36) rfl)) (hw _ (List.mem_of_getElem? (i := 37) rfl)) (hw _ (List.mem_of_getElem? (i := 38) rfl)) e68 (g := (mkF me_ 16 #[.val (.ref a)] [(.ref a)])) rfl (hb hby d4_16) (by decide) (by decide)
  obtain ⟨b77, g77⟩ : ∃ z, z = h68.size := ⟨_, rfl⟩
  rw [← g77] at A77 D77 st77
  refine gv st77 ?_
  have ne78 : a ≠ b77 := Nat.ne_of_lt (Nat.lt_of_lt_of_le f70.lt (Nat.le_of_eq g77.symm))
  have ne79 : b56 ≠ b77 := Nat.ne_of_lt (Nat.lt_of_lt_of_le f72.lt (Nat.le_of_eq g77.symm))
  have g80 : n0 ≤ b77 := Nat.le_trans (own_old O74) (Nat.le_of_eq g77.symm)
  have z81 : h0.size ≤ b77 := Nat.le_trans K75.1 (Nat.le_of_eq g77.symm)
  have f82 : Exa Z h77 a "com/example/closemark/closemark/prices/StandingQuotes" := f70.ext E77
  have f83 : Fld Z h77 a "com/example/closemark/closemark/prices/StandingQuotes" "bid" "Lcom/example/closemark/closemark/prices/LatestRow;" (.ref b56) := f69.ext E77
  have f84 : Fld Z h77 a "com/example/closemark/closemark/prices/StandingQuotes" "ask" "Lcom/example/closemark/closemark/prices/LatestRow;" .null := f71.ext E77
  have f85 : Exa Z h77 b56 "com/example/closemark/closemark/prices/LatestRow" := f72.ext E77
  have f86 : Fld Z h77 b56 "com/example/closemark/closemark/prices/LatestRow" "row" "Lcom/example/closemark/closemark/tape/TapeRow;" .null := f73.ext E77
  have O87 := O74.ext E77
  have K88 := K75.ext E77
  have f89 : Fld Z h77 b77 "com/example/closemark/closemark/prices/LatestRow" "row" "Lcom/example/closemark/closemark/tape/TapeRow;" .null := D77 (Or.inl (hw _ (List.mem_of_getElem? (i := 58) rfl))) (ty := (.object "com/example/closemark/closemark/tape/TapeRow")) (by decide)
  show G (T77.setTop (mkF me_ 19 #[.val (.ref a)] [(.ref b77), (.ref a)]))
  refine gv (fun tQ kQ => XS.dup X77.here hx rfl (hb hby d4_19) rfl rfl kQ) ?_
  show G (T77.setTop (mkF me_ 20 #[.val (.ref a)] [(.ref b77), (.ref b77), (.ref a)]))
  obtain ⟨_, _, ⟨T90, L90, k90, n90⟩, -, X90, ⟨Lc90, hQ90, l90, y90, z90⟩, st90⟩ := X77.specialBack hx (y := (⟨"com/example/closemark/closemark/prices/LatestRow", "<init>", "()V"⟩ : MethodName)) rfl hown (mvT hZ (hw _ (List.mem_of_getElem? (i := 39) rfl))) (mvT hZ (hw _ (List.mem_of_getElem? (i := 40) rfl))) (mvT hZ (hw _ (List.mem_of_getElem? (i := 41) rfl))) (by decide) (backOf (W := 2) (rm_lri l Z a0 hw [] b77 h77 n0 O87 ) hZ (hw _ (List.mem_of_getElem? (i := 41) rfl)) (hw _ (List.mem_of_getElem? (i := 38) rfl)) (by decide) (by decide)) (g := (mkF me_ 20 #[.val (.ref a)] [(.ref b77), (.ref b77), (.ref a)])) rfl (by rw [hml]; rfl) (Steps.refl _) (a := b77) (argsL := []) (rest := [(.ref b77), (.ref a)]) (lenOf pd_0 rfl) rfl (by show 2 * 0 + _ ≤ _; exact Nat.le_of_eq rfl) (hb hby d4_20) (fun _ _ => ⟨rfl, e77, (by decide : 2 + 0 ≤ _), (by decide : 2 + 0 ≤ _)⟩)
  dsimp only [Pt.U, Pt.locs, Pt.cells, Pt.slots] at X90 l90 y90 z90 st90 hQ90
  subst l90 y90 z90
  obtain ⟨rfl, Nq90, eq90⟩ := hQ90
  have N91 := Fr.app N76 Nq90
  refine gv (fun tQ kQ => st90.trans kQ) ?_
  show G (T90.setTop (mkF me_ 23 #[.val (.ref a)] [(.ref b77), (.ref a)]))
  obtain ⟨T92, h92, X92, e92, W92, st92⟩ := putF X90 hx hZ hown (host := "") (Or.inl (hw _ (List.mem_of_getElem? (i := 45) rfl))) Via.refl eq90 f84 f82 (Or.inr ⟨(hw _ (List.mem_of_getElem? (i := 46) rfl)), rfl, hnm⟩) (hw _ (List.mem_of_getElem? (i := 30) rfl)) (ty := (.object "com/example/closemark/closemark/prices/LatestRow")) (by decide) rfl rfl (g := (mkF me_ 23 #[.val (.ref a)] [(.ref b77), (.ref a)])) rfl rfl (hb hby d4_23)
  refine gv st92 ?_
  have f94 : Exa Z h92 a "com/example/closemark/closemark/prices/StandingQuotes" := f82.wr W92
  have f95 : Fld Z h92 a "com/example/closemark/closemark/prices/StandingQuotes" "bid" "Lcom/example/closemark/closemark/prices/LatestRow;" (.ref b56) := f83.other W92 (Or.inr (slot_ne (Or.inr (hw _ (List.mem_of_getElem? (i := 44) rfl))) (Or.inr (hw _ (List.mem_of_getElem? (i := 46) rfl))) (by decide) (t := (.object "com/example/closemark/closemark/prices/LatestRow")) (t' := (.object "com/example/closemark/closemark/prices/LatestRow")) (by decide) (by decide)))
  have f96 : Exa Z h92 b56 "com/example/closemark/closemark/prices/LatestRow" := f85.wr W92
  have f97 : Fld Z h92 b56 "com/example/closemark/closemark/prices/LatestRow" "row" "Lcom/example/closemark/closemark/tape/TapeRow;" .null := f86.other W92 (Or.inl (Ne.symm ne57))
  have f98 : Exa Z h92 b77 "com/example/closemark/closemark/prices/LatestRow" := A77.wr W92
  have f99 : Fld Z h92 b77 "com/example/closemark/closemark/prices/LatestRow" "row" "Lcom/example/closemark/closemark/tape/TapeRow;" .null := f89.other W92 (Or.inl (Ne.symm ne78))
  have O100 := O87.wr W92 u3
  have K101 := K88.wr W92 (Or.inl (List.mem_of_getElem? (i := 0) rfl))
  have N102 := Fr.snoc X92 N91 u3
  have f93 : Fld Z h92 a "com/example/closemark/closemark/prices/StandingQuotes" "ask" "Lcom/example/closemark/closemark/prices/LatestRow;" (.ref b77) := f84.same W92
  show G (T92.setTop (mkF me_ 26 #[.val (.ref a)] []))
  refine gf _ (own_ret X92 Bd.notSynchronized (v := none) (fun _ => rfl) ?_ (by decide) (by decide) (fun fs hr => X92.returnOut hx Bd.returns (hb hby d4_26) hr))
  show Q_sqi Z a h0 n0 _ T92.heap _
  rw [e92]
  exact ⟨b56, b77, rfl, N102, K101, z59, z81, ne79, f94, f95, f93, f96, f98, f97, f99⟩
theorem d7_0 : decode prog_43_method_3_code 0 = .ok (.aload_n 0, 1) := by decide +kernel
theorem d7_1 : decode prog_43_method_3_code 1 = .ok (.getfield 7, 3) := by decide +kernel
theorem d7_4 : decode prog_43_method_3_code 4 = .ok (.areturn, 1) := by decide +kernel
def Q_row0 (Z : State) (a : Addr) (h0 : Heap) (n0 : Nat) (v : Option Value) (h : Heap) (L : List Loc) : Prop := v = some .null ∧ Fr n0 L ∧ h = h0
set_option maxRecDepth 65536 in
set_option maxHeartbeats 40000000 in
theorem rm_row0 (l : Launch) (Z : State) (a0 : Array Value) (hw : ∀ d ∈ tables_1, d.before a0 Z = true) (ws : List Jvm.Cond) (a : Addr) (h0 : Heap) (n0 : Nat) (O0 : Old Z n0 h0) (u0 : Fld Z h0 a "com/example/closemark/closemark/prices/LatestRow" "row" "Lcom/example/closemark/closemark/tape/TapeRow;" .null) :
    MetFree l (⟨"com/example/closemark/closemark/prices/LatestRow", "row", "()Lcom/example/closemark/closemark/tape/TapeRow;"⟩ : MethodName) (head1 (Jvm.Cond.code (⟨"com/example/closemark/closemark/prices/LatestRow", "row", "()Lcom/example/closemark/closemark/tape/TapeRow;"⟩ : MethodName) prog_43_method_3_code 1 (some (.object "com/example/closemark/closemark/tape/TapeRow")) :: ws) ({ frames := 0, cells := 0, slots := 0, locals := 0 } : Room)) (fun aV U => aV = #[(.ref a)] ∧ Z.Warmed39 U.vm ∧ U.heap = h0) (fun _ _ _ _ _ => True) (fun _ U o U' => ∃ v L, o = .returned v ∧ Q_row0 Z a h0 n0 v U'.heap L ∧ FrameEnd U o U' L ({ frames := 0, cells := 0, slots := 0, locals := 0 } : Room).cells ({ frames := 0, cells := 0, slots := 0, locals := 0 } : Room).slots) := by
  refine MetFree.of_bodySF (plainFor_of_name pn_1) hisR ?_
  intro pr_ en_ st_ me_ args below meth_ co_ s₁ Bd hml0 hP hK
  obtain ⟨rfl, hZ, hh⟩ := hP
  have hx := Bd.exec
  have hby := Bd.bytes
  have hml : co_.maxLocals = 1 := hml0
  have hown : st_.vm.findClass "com/example/closemark/closemark/prices/LatestRow" = some me_.cls := findClass_of_methodNamed Bd.named
  have hnm := (name_of_methodNamed Bd.named Bd.method).1
  have X0 : Stand pr_ l en_ ({ frames := 0, cells := 0, slots := 0, locals := 0 } : Room) st_ me_ #[(.ref a)] below meth_ co_ s₁ [] 0 0 := Stand.of_body Bd
  have e0 : s₁.heap = h0 := by rw [← hh, Bd.state]; rfl
  have N0 := Fr.nil n0
  have K0 := Keep.refl h0 []
  obtain ⟨G, gv, gf, gb⟩ := own_G pr_.tables en_ below st_ (Q_row0 Z a h0 n0) ({ frames := 0, cells := 0, slots := 0, locals := 0 } : Room).cells ({ frames := 0, cells := 0, slots := 0, locals := 0 } : Room).slots
  show own_Fin pr_.tables en_ below st_ (Q_row0 Z a h0 n0) ({ frames := 0, cells := 0, slots := 0, locals := 0 } : Room).cells ({ frames := 0, cells := 0, slots := 0, locals := 0 } : Room).slots (s₁.setTop (entryFrame me_ #[(.ref a)] 1))
  refine gb _ (gv (fun tQ kQ => castTop (ef_0 me_ a) kQ) ?_)
  show G (s₁.setTop (mkF me_ 0 #[.val (.ref a)] []))
  refine gv (fun tQ kQ => XS.aloadN X0.here hx rfl (hb hby d7_0) rfl rfl kQ) ?_
  show G (s₁.setTop (mkF me_ 1 #[.val (.ref a)] [(.ref a)]))
  obtain ⟨T103, X103, e103, st103⟩ := getF X0 hx hZ hown (host := "") (Or.inl (hw _ (List.mem_of_getElem? (i := 57) rfl))) Via.refl e0 u0 (g := (mkF me_ 1 #[.val (.ref a)] [(.ref a)])) rfl rfl (hb hby d7_1)
  refine gv st103 ?_
  show G (T103.setTop (mkF me_ 4 #[.val (.ref a)] [.null]))
  refine gf _ (own_ret X103 Bd.notSynchronized (v := some .null) (fun h => by rw [Bd.returns] at h; cases h) ?_ (by decide) (by decide) (fun fs hr => retOut X103 hx (t := (.object "com/example/closemark/closemark/tape/TapeRow")) Bd.returns rfl (Or.inr (Or.inr (Or.inr (Or.inr ⟨rfl, rfl, rfl⟩)))) (hb hby d7_4) hr))
  show Q_row0 Z a h0 n0 _ T103.heap _
  rw [e103]
  exact ⟨rfl, N0, rfl⟩
def Q_row1 (Z : State) (a : Addr) (r : Addr) (h0 : Heap) (n0 : Nat) (v : Option Value) (h : Heap) (L : List Loc) : Prop := v = some (.ref r) ∧ Fr n0 L ∧ h = h0
set_option maxRecDepth 65536 in
set_option maxHeartbeats 40000000 in
theorem rm_row1 (l : Launch) (Z : State) (a0 : Array Value) (hw : ∀ d ∈ tables_1, d.before a0 Z = true) (ws : List Jvm.Cond) (a : Addr) (r : Addr) (h0 : Heap) (n0 : Nat) (O0 : Old Z n0 h0) (u0 : Fld Z h0 a "com/example/closemark/closemark/prices/LatestRow" "row" "Lcom/example/closemark/closemark/tape/TapeRow;" (.ref r)) :
    MetFree l (⟨"com/example/closemark/closemark/prices/LatestRow", "row", "()Lcom/example/closemark/closemark/tape/TapeRow;"⟩ : MethodName) (head1 (Jvm.Cond.code (⟨"com/example/closemark/closemark/prices/LatestRow", "row", "()Lcom/example/closemark/closemark/tape/TapeRow;"⟩ : MethodName) prog_43_method_3_code 1 (some (.object "com/example/closemark/closemark/tape/TapeRow")) :: ws) ({ frames := 0, cells := 0, slots := 0, locals := 0 } : Room)) (fun aV U => aV = #[(.ref a)] ∧ Z.Warmed39 U.vm ∧ U.heap = h0) (fun _ _ _ _ _ => True) (fun _ U o U' => ∃ v L, o = .returned v ∧ Q_row1 Z a r h0 n0 v U'.heap L ∧ FrameEnd U o U' L ({ frames := 0, cells := 0, slots := 0, locals := 0 } : Room).cells ({ frames := 0, cells := 0, slots := 0, locals := 0 } : Room).slots) := by
  refine MetFree.of_bodySF (plainFor_of_name pn_1) hisR ?_
  intro pr_ en_ st_ me_ args below meth_ co_ s₁ Bd hml0 hP hK
  obtain ⟨rfl, hZ, hh⟩ := hP
  have hx := Bd.exec
  have hby := Bd.bytes
  have hml : co_.maxLocals = 1 := hml0
  have hown : st_.vm.findClass "com/example/closemark/closemark/prices/LatestRow" = some me_.cls := findClass_of_methodNamed Bd.named
  have hnm := (name_of_methodNamed Bd.named Bd.method).1
  have X0 : Stand pr_ l en_ ({ frames := 0, cells := 0, slots := 0, locals := 0 } : Room) st_ me_ #[(.ref a)] below meth_ co_ s₁ [] 0 0 := Stand.of_body Bd
  have e0 : s₁.heap = h0 := by rw [← hh, Bd.state]; rfl
  have N0 := Fr.nil n0
  have K0 := Keep.refl h0 []
  obtain ⟨G, gv, gf, gb⟩ := own_G pr_.tables en_ below st_ (Q_row1 Z a r h0 n0) ({ frames := 0, cells := 0, slots := 0, locals := 0 } : Room).cells ({ frames := 0, cells := 0, slots := 0, locals := 0 } : Room).slots
  show own_Fin pr_.tables en_ below st_ (Q_row1 Z a r h0 n0) ({ frames := 0, cells := 0, slots := 0, locals := 0 } : Room).cells ({ frames := 0, cells := 0, slots := 0, locals := 0 } : Room).slots (s₁.setTop (entryFrame me_ #[(.ref a)] 1))
  refine gb _ (gv (fun tQ kQ => castTop (ef_0 me_ a) kQ) ?_)
  show G (s₁.setTop (mkF me_ 0 #[.val (.ref a)] []))
  refine gv (fun tQ kQ => XS.aloadN X0.here hx rfl (hb hby d7_0) rfl rfl kQ) ?_
  show G (s₁.setTop (mkF me_ 1 #[.val (.ref a)] [(.ref a)]))
  obtain ⟨T104, X104, e104, st104⟩ := getF X0 hx hZ hown (host := "") (Or.inl (hw _ (List.mem_of_getElem? (i := 57) rfl))) Via.refl e0 u0 (g := (mkF me_ 1 #[.val (.ref a)] [(.ref a)])) rfl rfl (hb hby d7_1)
  refine gv st104 ?_
  show G (T104.setTop (mkF me_ 4 #[.val (.ref a)] [(.ref r)]))
  refine gf _ (own_ret X104 Bd.notSynchronized (v := some (.ref r)) (fun h => by rw [Bd.returns] at h; cases h) ?_ (by decide) (by decide) (fun fs hr => retOut X104 hx (t := (.object "com/example/closemark/closemark/tape/TapeRow")) Bd.returns rfl (Or.inr (Or.inr (Or.inr (Or.inr ⟨rfl, rfl, rfl⟩)))) (hb hby d7_4) hr))
  show Q_row1 Z a r h0 n0 _ T104.heap _
  rw [e104]
  exact ⟨rfl, N0, rfl⟩
theorem d9_0 : decode prog_65_method_7_code 0 = .ok (.aload_n 0, 1) := by decide +kernel
theorem d9_1 : decode prog_65_method_7_code 1 = .ok (.getfield 17, 3) := by decide +kernel
theorem d9_4 : decode prog_65_method_7_code 4 = .ok (.areturn, 1) := by decide +kernel
def Q_kind (Z : State) (a : Addr) (k : Addr) (h0 : Heap) (n0 : Nat) (v : Option Value) (h : Heap) (L : List Loc) : Prop := v = some (.ref k) ∧ Fr n0 L ∧ h = h0
set_option maxRecDepth 65536 in
set_option maxHeartbeats 40000000 in
theorem rm_kind (l : Launch) (Z : State) (a0 : Array Value) (hw : ∀ d ∈ tables_1, d.before a0 Z = true) (ws : List Jvm.Cond) (a : Addr) (k : Addr) (h0 : Heap) (n0 : Nat) (O0 : Old Z n0 h0) (u0 : Fld Z h0 a "com/example/closemark/closemark/tape/TapeRow" "kind" "Lcom/example/closemark/closemark/tape/TapeRow$Kind;" (.ref k)) :
    MetFree l (⟨"com/example/closemark/closemark/tape/TapeRow", "kind", "()Lcom/example/closemark/closemark/tape/TapeRow$Kind;"⟩ : MethodName) (head1 (Jvm.Cond.code (⟨"com/example/closemark/closemark/tape/TapeRow", "kind", "()Lcom/example/closemark/closemark/tape/TapeRow$Kind;"⟩ : MethodName) prog_65_method_7_code 1 (some (.object "com/example/closemark/closemark/tape/TapeRow$Kind")) :: ws) ({ frames := 0, cells := 0, slots := 0, locals := 0 } : Room)) (fun aV U => aV = #[(.ref a)] ∧ Z.Warmed39 U.vm ∧ U.heap = h0) (fun _ _ _ _ _ => True) (fun _ U o U' => ∃ v L, o = .returned v ∧ Q_kind Z a k h0 n0 v U'.heap L ∧ FrameEnd U o U' L ({ frames := 0, cells := 0, slots := 0, locals := 0 } : Room).cells ({ frames := 0, cells := 0, slots := 0, locals := 0 } : Room).slots) := by
  refine MetFree.of_bodySF (plainFor_of_name pn_2) hisR ?_
  intro pr_ en_ st_ me_ args below meth_ co_ s₁ Bd hml0 hP hK
  obtain ⟨rfl, hZ, hh⟩ := hP
  have hx := Bd.exec
  have hby := Bd.bytes
  have hml : co_.maxLocals = 1 := hml0
  have hown : st_.vm.findClass "com/example/closemark/closemark/tape/TapeRow" = some me_.cls := findClass_of_methodNamed Bd.named
  have hnm := (name_of_methodNamed Bd.named Bd.method).1
  have X0 : Stand pr_ l en_ ({ frames := 0, cells := 0, slots := 0, locals := 0 } : Room) st_ me_ #[(.ref a)] below meth_ co_ s₁ [] 0 0 := Stand.of_body Bd
  have e0 : s₁.heap = h0 := by rw [← hh, Bd.state]; rfl
  have N0 := Fr.nil n0
  have K0 := Keep.refl h0 []
  obtain ⟨G, gv, gf, gb⟩ := own_G pr_.tables en_ below st_ (Q_kind Z a k h0 n0) ({ frames := 0, cells := 0, slots := 0, locals := 0 } : Room).cells ({ frames := 0, cells := 0, slots := 0, locals := 0 } : Room).slots
  show own_Fin pr_.tables en_ below st_ (Q_kind Z a k h0 n0) ({ frames := 0, cells := 0, slots := 0, locals := 0 } : Room).cells ({ frames := 0, cells := 0, slots := 0, locals := 0 } : Room).slots (s₁.setTop (entryFrame me_ #[(.ref a)] 1))
  refine gb _ (gv (fun tQ kQ => castTop (ef_0 me_ a) kQ) ?_)
  show G (s₁.setTop (mkF me_ 0 #[.val (.ref a)] []))
  refine gv (fun tQ kQ => XS.aloadN X0.here hx rfl (hb hby d9_0) rfl rfl kQ) ?_
  show G (s₁.setTop (mkF me_ 1 #[.val (.ref a)] [(.ref a)]))
  obtain ⟨T105, X105, e105, st105⟩ := getF X0 hx hZ hown (host := "") (Or.inl (hw _ (List.mem_of_getElem? (i := 21) rfl))) Via.refl e0 u0 (g := (mkF me_ 1 #[.val (.ref a)] [(.ref a)])) rfl rfl (hb hby d9_1)
  refine gv st105 ?_
  show G (T105.setTop (mkF me_ 4 #[.val (.ref a)] [(.ref k)]))
  refine gf _ (own_ret X105 Bd.notSynchronized (v := some (.ref k)) (fun h => by rw [Bd.returns] at h; cases h) ?_ (by decide) (by decide) (fun fs hr => retOut X105 hx (t := (.object "com/example/closemark/closemark/tape/TapeRow$Kind")) Bd.returns rfl (Or.inr (Or.inr (Or.inr (Or.inr ⟨rfl, rfl, rfl⟩)))) (hb hby d9_4) hr))
  show Q_kind Z a k h0 n0 _ T105.heap _
  rw [e105]
  exact ⟨rfl, N0, rfl⟩
theorem d6_0 : decode prog_45_method_5_code 0 = .ok (.aload_n 0, 1) := by decide +kernel
theorem d6_1 : decode prog_45_method_5_code 1 = .ok (.getfield 10, 3) := by decide +kernel
theorem d6_4 : decode prog_45_method_5_code 4 = .ok (.invokevirtual 57, 3) := by decide +kernel
theorem pd_1 : parseMethodDescriptor "()Lcom/example/closemark/closemark/tape/TapeRow;" = some ⟨[], some (.object "com/example/closemark/closemark/tape/TapeRow")⟩ := by decide +kernel
theorem d6_7 : decode prog_45_method_5_code 7 = .ok (.ifnull 17, 3) := by decide +kernel
theorem d6_24 : decode prog_45_method_5_code 24 = .ok (.iconst 0, 1) := by decide +kernel
theorem d6_25 : decode prog_45_method_5_code 25 = .ok (.ireturn, 1) := by decide +kernel
def Q_hb0 (Z : State) (a : Addr) (x : Addr) (h0 : Heap) (n0 : Nat) (v : Option Value) (h : Heap) (L : List Loc) : Prop := v = some (.int (0 : Int32)) ∧ Fr n0 L ∧ h = h0
set_option maxRecDepth 65536 in
set_option maxHeartbeats 40000000 in
theorem rm_hb0 (l : Launch) (Z : State) (a0 : Array Value) (hw : ∀ d ∈ tables_1, d.before a0 Z = true) (ws : List Jvm.Cond) (a : Addr) (x : Addr) (h0 : Heap) (n0 : Nat) (O0 : Old Z n0 h0) (u0 : Fld Z h0 a "com/example/closemark/closemark/prices/StandingQuotes" "bid" "Lcom/example/closemark/closemark/prices/LatestRow;" (.ref x)) (u1 : Exa Z h0 x "com/example/closemark/closemark/prices/LatestRow") (u2 : Fld Z h0 x "com/example/closemark/closemark/prices/LatestRow" "row" "Lcom/example/closemark/closemark/tape/TapeRow;" .null) :
    MetFree l (⟨"com/example/closemark/closemark/prices/StandingQuotes", "hasBidAndAsk", "()Z"⟩ : MethodName) (head1 (Jvm.Cond.code (⟨"com/example/closemark/closemark/prices/StandingQuotes", "hasBidAndAsk", "()Z"⟩ : MethodName) prog_45_method_5_code 1 (some .boolean) :: ws) ({ frames := 1, cells := 0, slots := 0, locals := 12 } : Room)) (fun aV U => aV = #[(.ref a)] ∧ Z.Warmed39 U.vm ∧ U.heap = h0) (fun _ _ _ _ _ => True) (fun _ U o U' => ∃ v L, o = .returned v ∧ Q_hb0 Z a x h0 n0 v U'.heap L ∧ FrameEnd U o U' L ({ frames := 1, cells := 0, slots := 0, locals := 12 } : Room).cells ({ frames := 1, cells := 0, slots := 0, locals := 12 } : Room).slots) := by
  refine MetFree.of_bodySF (plainFor_of_name pn_3) hisR ?_
  intro pr_ en_ st_ me_ args below meth_ co_ s₁ Bd hml0 hP hK
  obtain ⟨rfl, hZ, hh⟩ := hP
  have hx := Bd.exec
  have hby := Bd.bytes
  have hml : co_.maxLocals = 1 := hml0
  have hown : st_.vm.findClass "com/example/closemark/closemark/prices/StandingQuotes" = some me_.cls := findClass_of_methodNamed Bd.named
  have hnm := (name_of_methodNamed Bd.named Bd.method).1
  have X0 : Stand pr_ l en_ ({ frames := 1, cells := 0, slots := 0, locals := 12 } : Room) st_ me_ #[(.ref a)] below meth_ co_ s₁ [] 0 0 := Stand.of_body Bd
  have e0 : s₁.heap = h0 := by rw [← hh, Bd.state]; rfl
  have N0 := Fr.nil n0
  have K0 := Keep.refl h0 []
  obtain ⟨G, gv, gf, gb⟩ := own_G pr_.tables en_ below st_ (Q_hb0 Z a x h0 n0) ({ frames := 1, cells := 0, slots := 0, locals := 12 } : Room).cells ({ frames := 1, cells := 0, slots := 0, locals := 12 } : Room).slots
  show own_Fin pr_.tables en_ below st_ (Q_hb0 Z a x h0 n0) ({ frames := 1, cells := 0, slots := 0, locals := 12 } : Room).cells ({ frames := 1, cells := 0, slots := 0, locals := 12 } : Room).slots (s₁.setTop (entryFrame me_ #[(.ref a)] 1))
  refine gb _ (gv (fun tQ kQ => castTop (ef_0 me_ a) kQ) ?_)
  show G (s₁.setTop (mkF me_ 0 #[.val (.ref a)] []))
  refine gv (fun tQ kQ => XS.aloadN X0.here hx rfl (hb hby d6_0) rfl rfl kQ) ?_
  show G (s₁.setTop (mkF me_ 1 #[.val (.ref a)] [(.ref a)]))
  obtain ⟨T106, X106, e106, st106⟩ := getF X0 hx hZ hown (host := "") (Or.inl (hw _ (List.mem_of_getElem? (i := 43) rfl))) Via.refl e0 u0 (g := (mkF me_ 1 #[.val (.ref a)] [(.ref a)])) rfl rfl (hb hby d6_1)
  refine gv st106 ?_
  show G (T106.setTop (mkF me_ 4 #[.val (.ref a)] [(.ref x)]))
  obtain ⟨cq107, kq107, q107a, q107b, q107c⟩ := isOf hZ e106 u1
  obtain ⟨_, _, ⟨T107, L107, k107, n107⟩, -, X107, ⟨Lc107, hQ107, l107, y107, z107⟩, st107⟩ := X106.virtualBack hx (y := (⟨"com/example/closemark/closemark/prices/LatestRow", "row", "()Lcom/example/closemark/closemark/tape/TapeRow;"⟩ : MethodName)) (z := (⟨"com/example/closemark/closemark/prices/LatestRow", "row", "()Lcom/example/closemark/closemark/tape/TapeRow;"⟩ : MethodName)) hown (mvT hZ (hw _ (List.mem_of_getElem? (i := 52) rfl))) (mvT hZ (hw _ (List.mem_of_getElem? (i := 53) rfl))) (notFace_of_selects (args := #[]) (mvT hZ (hw _ (List.mem_of_getElem? (i := 55) rfl)))) (mvT hZ (hw _ (List.mem_of_getElem? (i := 55) rfl))) (mvT hZ (hw _ (List.mem_of_getElem? (i := 54) rfl))) (by decide) (backOf (W := 0) (rm_row0 l Z a0 hw [] x h0 n0 O0 u2) hZ (hw _ (List.mem_of_getElem? (i := 56) rfl)) (hw _ (List.mem_of_getElem? (i := 38) rfl)) (by decide) (by decide)) q107a q107c (g := (mkF me_ 4 #[.val (.ref a)] [(.ref x)])) rfl (by rw [hml]; rfl) (Steps.refl _) (argsL := []) (rest := []) (lenOf pd_1 rfl) rfl (by show 2 * 0 + _ ≤ _; exact Nat.le_of_eq rfl) (hb hby d6_4) (fun _ _ => ⟨rfl, e106, (by decide : 0 + 0 ≤ _), (by decide : 0 + 0 ≤ _)⟩)
  dsimp only [Pt.U, Pt.locs, Pt.cells, Pt.slots] at X107 l107 y107 z107 st107 hQ107
  subst l107 y107 z107
  obtain ⟨rfl, Nq107, eq107⟩ := hQ107
  have N108 := Fr.app N0 Nq107
  refine gv (fun tQ kQ => st107.trans kQ) ?_
  show G (T107.setTop (mkF me_ 7 #[.val (.ref a)] [.null]))
  refine gv (fun tQ kQ => XS.ifnullYes X107.here hx rfl (pc0 := 7) (pc' := 24) rfl (hb hby d6_7) rfl (by decide) (by decide) kQ) ?_
  show G (T107.setTop (mkF me_ 24 #[.val (.ref a)] []))
  refine gv (fun tQ kQ => XS.iconst X107.here hx rfl (hb hby d6_24) kQ) ?_
  show G (T107.setTop (mkF me_ 25 #[.val (.ref a)] [(.int (0 : Int32))]))
  refine gf _ (own_ret X107 Bd.notSynchronized (v := some (.int (0 : Int32))) (fun h => by rw [Bd.returns] at h; cases h) ?_ (by decide) (by decide) (fun fs hr => retN X107 hx (t := .boolean) Bd.returns (by simp) (hb hby d6_25) hr))
  show Q_hb0 Z a x h0 n0 _ T107.heap _
  rw [eq107]
  exact ⟨rfl, N108, rfl⟩
theorem d6_10 : decode prog_45_method_5_code 10 = .ok (.aload_n 0, 1) := by decide +kernel
theorem d6_11 : decode prog_45_method_5_code 11 = .ok (.getfield 16, 3) := by decide +kernel
theorem d6_14 : decode prog_45_method_5_code 14 = .ok (.invokevirtual 57, 3) := by decide +kernel
theorem d6_17 : decode prog_45_method_5_code 17 = .ok (.ifnull 7, 3) := by decide +kernel
def Q_hb1 (Z : State) (a : Addr) (x : Addr) (y : Addr) (r : Addr) (h0 : Heap) (n0 : Nat) (v : Option Value) (h : Heap) (L : List Loc) : Prop := v = some (.int (0 : Int32)) ∧ Fr n0 L ∧ h = h0
set_option maxRecDepth 65536 in
set_option maxHeartbeats 40000000 in
theorem rm_hb1 (l : Launch) (Z : State) (a0 : Array Value) (hw : ∀ d ∈ tables_1, d.before a0 Z = true) (ws : List Jvm.Cond) (a : Addr) (x : Addr) (y : Addr) (r : Addr) (h0 : Heap) (n0 : Nat) (O0 : Old Z n0 h0) (u0 : Fld Z h0 a "com/example/closemark/closemark/prices/StandingQuotes" "bid" "Lcom/example/closemark/closemark/prices/LatestRow;" (.ref x)) (u1 : Exa Z h0 x "com/example/closemark/closemark/prices/LatestRow") (u2 : Fld Z h0 x "com/example/closemark/closemark/prices/LatestRow" "row" "Lcom/example/closemark/closemark/tape/TapeRow;" (.ref r)) (u3 : Fld Z h0 a "com/example/closemark/closemark/prices/StandingQuotes" "ask" "Lcom/example/closemark/closemark/prices/LatestRow;" (.ref y)) (u4 : Exa Z h0 y "com/example/closemark/closemark/prices/LatestRow") (u5 : Fld Z h0 y "com/example/closemark/closemark/prices/LatestRow" "row" "Lcom/example/closemark/closemark/tape/TapeRow;" .null) :
    MetFree l (⟨"com/example/closemark/closemark/prices/StandingQuotes", "hasBidAndAsk", "()Z"⟩ : MethodName) (head1 (Jvm.Cond.code (⟨"com/example/closemark/closemark/prices/StandingQuotes", "hasBidAndAsk", "()Z"⟩ : MethodName) prog_45_method_5_code 1 (some .boolean) :: ws) ({ frames := 1, cells := 0, slots := 0, locals := 12 } : Room)) (fun aV U => aV = #[(.ref a)] ∧ Z.Warmed39 U.vm ∧ U.heap = h0) (fun _ _ _ _ _ => True) (fun _ U o U' => ∃ v L, o = .returned v ∧ Q_hb1 Z a x y r h0 n0 v U'.heap L ∧ FrameEnd U o U' L ({ frames := 1, cells := 0, slots := 0, locals := 12 } : Room).cells ({ frames := 1, cells := 0, slots := 0, locals := 12 } : Room).slots) := by
  refine MetFree.of_bodySF (plainFor_of_name pn_3) hisR ?_
  intro pr_ en_ st_ me_ args below meth_ co_ s₁ Bd hml0 hP hK
  obtain ⟨rfl, hZ, hh⟩ := hP
  have hx := Bd.exec
  have hby := Bd.bytes
  have hml : co_.maxLocals = 1 := hml0
  have hown : st_.vm.findClass "com/example/closemark/closemark/prices/StandingQuotes" = some me_.cls := findClass_of_methodNamed Bd.named
  have hnm := (name_of_methodNamed Bd.named Bd.method).1
  have X0 : Stand pr_ l en_ ({ frames := 1, cells := 0, slots := 0, locals := 12 } : Room) st_ me_ #[(.ref a)] below meth_ co_ s₁ [] 0 0 := Stand.of_body Bd
  have e0 : s₁.heap = h0 := by rw [← hh, Bd.state]; rfl
  have N0 := Fr.nil n0
  have K0 := Keep.refl h0 []
  obtain ⟨G, gv, gf, gb⟩ := own_G pr_.tables en_ below st_ (Q_hb1 Z a x y r h0 n0) ({ frames := 1, cells := 0, slots := 0, locals := 12 } : Room).cells ({ frames := 1, cells := 0, slots := 0, locals := 12 } : Room).slots
  show own_Fin pr_.tables en_ below st_ (Q_hb1 Z a x y r h0 n0) ({ frames := 1, cells := 0, slots := 0, locals := 12 } : Room).cells ({ frames := 1, cells := 0, slots := 0, locals := 12 } : Room).slots (s₁.setTop (entryFrame me_ #[(.ref a)] 1))
  refine gb _ (gv (fun tQ kQ => castTop (ef_0 me_ a) kQ) ?_)
  show G (s₁.setTop (mkF me_ 0 #[.val (.ref a)] []))
  refine gv (fun tQ kQ => XS.aloadN X0.here hx rfl (hb hby d6_0) rfl rfl kQ) ?_
  show G (s₁.setTop (mkF me_ 1 #[.val (.ref a)] [(.ref a)]))
  obtain ⟨T109, X109, e109, st109⟩ := getF X0 hx hZ hown (host := "") (Or.inl (hw _ (List.mem_of_getElem? (i := 43) rfl))) Via.refl e0 u0 (g := (mkF me_ 1 #[.val (.ref a)] [(.ref a)])) rfl rfl (hb hby d6_1)
  refine gv st109 ?_
  show G (T109.setTop (mkF me_ 4 #[.val (.ref a)] [(.ref x)]))
  obtain ⟨cq110, kq110, q110a, q110b, q110c⟩ := isOf hZ e109 u1
  obtain ⟨_, _, ⟨T110, L110, k110, n110⟩, -, X110, ⟨Lc110, hQ110, l110, y110, z110⟩, st110⟩ := X109.virtualBack hx (y := (⟨"com/example/closemark/closemark/prices/LatestRow", "row", "()Lcom/example/closemark/closemark/tape/TapeRow;"⟩ : MethodName)) (z := (⟨"com/example/closemark/closemark/prices/LatestRow", "row", "()Lcom/example/closemark/closemark/tape/TapeRow;"⟩ : MethodName)) hown (mvT hZ (hw _ (List.mem_of_getElem? (i := 52) rfl))) (mvT hZ (hw _ (List.mem_of_getElem? (i := 53) rfl))) (notFace_of_selects (args := #[]) (mvT hZ (hw _ (List.mem_of_getElem? (i := 55) rfl)))) (mvT hZ (hw _ (List.mem_of_getElem? (i := 55) rfl))) (mvT hZ (hw _ (List.mem_of_getElem? (i := 54) rfl))) (by decide) (backOf (W := 0) (rm_row1 l Z a0 hw [] x r h0 n0 O0 u2) hZ (hw _ (List.mem_of_getElem? (i := 56) rfl)) (hw _ (List.mem_of_getElem? (i := 38) rfl)) (by decide) (by decide)) q110a q110c (g := (mkF me_ 4 #[.val (.ref a)] [(.ref x)])) rfl (by rw [hml]; rfl) (Steps.refl _) (argsL := []) (rest := []) (lenOf pd_1 rfl) rfl (by show 2 * 0 + _ ≤ _; exact Nat.le_of_eq rfl) (hb hby d6_4) (fun _ _ => ⟨rfl, e109, (by decide : 0 + 0 ≤ _), (by decide : 0 + 0 ≤ _)⟩)
  dsimp only [Pt.U, Pt.locs, Pt.cells, Pt.slots] at X110 l110 y110 z110 st110 hQ110
  subst l110 y110 z110
  obtain ⟨rfl, Nq110, eq110⟩ := hQ110
  have N111 := Fr.app N0 Nq110
  refine gv (fun tQ kQ => st110.trans kQ) ?_
  show G (T110.setTop (mkF me_ 7 #[.val (.ref a)] [(.ref r)]))
  refine gv (fun tQ kQ => XS.ifnullNo X110.here hx rfl (hb hby d6_7) rfl kQ) ?_
  show G (T110.setTop (mkF me_ 10 #[.val (.ref a)] []))
  refine gv (fun tQ kQ => XS.aloadN X110.here hx rfl (hb hby d6_10) rfl rfl kQ) ?_
  show G (T110.setTop (mkF me_ 11 #[.val (.ref a)] [(.ref a)]))
  obtain ⟨T112, X112, e112, st112⟩ := getF X110 hx hZ hown (host := "") (Or.inl (hw _ (List.mem_of_getElem? (i := 45) rfl))) Via.refl eq110 u3 (g := (mkF me_ 11 #[.val (.ref a)] [(.ref a)])) rfl rfl (hb hby d6_11)
  refine gv st112 ?_
  show G (T112.setTop (mkF me_ 14 #[.val (.ref a)] [(.ref y)]))
  obtain ⟨cq113, kq113, q113a, q113b, q113c⟩ := isOf hZ e112 u4
  obtain ⟨_, _, ⟨T113, L113, k113, n113⟩, -, X113, ⟨Lc113, hQ113, l113, y113, z113⟩, st113⟩ := X112.virtualBack hx (y := (⟨"com/example/closemark/closemark/prices/LatestRow", "row", "()Lcom/example/closemark/closemark/tape/TapeRow;"⟩ : MethodName)) (z := (⟨"com/example/closemark/closemark/prices/LatestRow", "row", "()Lcom/example/closemark/closemark/tape/TapeRow;"⟩ : MethodName)) hown (mvT hZ (hw _ (List.mem_of_getElem? (i := 52) rfl))) (mvT hZ (hw _ (List.mem_of_getElem? (i := 53) rfl))) (notFace_of_selects (args := #[]) (mvT hZ (hw _ (List.mem_of_getElem? (i := 55) rfl)))) (mvT hZ (hw _ (List.mem_of_getElem? (i := 55) rfl))) (mvT hZ (hw _ (List.mem_of_getElem? (i := 54) rfl))) (by decide) (backOf (W := 0) (rm_row0 l Z a0 hw [] y h0 n0 O0 u5) hZ (hw _ (List.mem_of_getElem? (i := 56) rfl)) (hw _ (List.mem_of_getElem? (i := 38) rfl)) (by decide) (by decide)) q113a q113c (g := (mkF me_ 14 #[.val (.ref a)] [(.ref y)])) rfl (by rw [hml]; rfl) (Steps.refl _) (argsL := []) (rest := []) (lenOf pd_1 rfl) rfl (by show 2 * 0 + _ ≤ _; exact Nat.le_of_eq rfl) (hb hby d6_14) (fun _ _ => ⟨rfl, e112, (by decide : 0 + 0 ≤ _), (by decide : 0 + 0 ≤ _)⟩)
  dsimp only [Pt.U, Pt.locs, Pt.cells, Pt.slots] at X113 l113 y113 z113 st113 hQ113
  subst l113 y113 z113
  obtain ⟨rfl, Nq113, eq113⟩ := hQ113
  have N114 := Fr.app N111 Nq113
  refine gv (fun tQ kQ => st113.trans kQ) ?_
  show G (T113.setTop (mkF me_ 17 #[.val (.ref a)] [.null]))
  refine gv (fun tQ kQ => XS.ifnullYes X113.here hx rfl (pc0 := 17) (pc' := 24) rfl (hb hby d6_17) rfl (by decide) (by decide) kQ) ?_
  show G (T113.setTop (mkF me_ 24 #[.val (.ref a)] []))
  refine gv (fun tQ kQ => XS.iconst X113.here hx rfl (hb hby d6_24) kQ) ?_
  show G (T113.setTop (mkF me_ 25 #[.val (.ref a)] [(.int (0 : Int32))]))
  refine gf _ (own_ret X113 Bd.notSynchronized (v := some (.int (0 : Int32))) (fun h => by rw [Bd.returns] at h; cases h) ?_ (by decide) (by decide) (fun fs hr => retN X113 hx (t := .boolean) Bd.returns (by simp) (hb hby d6_25) hr))
  show Q_hb1 Z a x y r h0 n0 _ T113.heap _
  rw [eq113]
  exact ⟨rfl, N114, rfl⟩
theorem d6_20 : decode prog_45_method_5_code 20 = .ok (.iconst 1, 1) := by decide +kernel
theorem d6_21 : decode prog_45_method_5_code 21 = .ok (.goto 4, 3) := by decide +kernel
def Q_hb2 (Z : State) (a : Addr) (x : Addr) (y : Addr) (r : Addr) (t : Addr) (h0 : Heap) (n0 : Nat) (v : Option Value) (h : Heap) (L : List Loc) : Prop := v = some (.int (1 : Int32)) ∧ Fr n0 L ∧ h = h0
set_option maxRecDepth 65536 in
set_option maxHeartbeats 40000000 in
theorem rm_hb2 (l : Launch) (Z : State) (a0 : Array Value) (hw : ∀ d ∈ tables_1, d.before a0 Z = true) (ws : List Jvm.Cond) (a : Addr) (x : Addr) (y : Addr) (r : Addr) (t : Addr) (h0 : Heap) (n0 : Nat) (O0 : Old Z n0 h0) (u0 : Fld Z h0 a "com/example/closemark/closemark/prices/StandingQuotes" "bid" "Lcom/example/closemark/closemark/prices/LatestRow;" (.ref x)) (u1 : Exa Z h0 x "com/example/closemark/closemark/prices/LatestRow") (u2 : Fld Z h0 x "com/example/closemark/closemark/prices/LatestRow" "row" "Lcom/example/closemark/closemark/tape/TapeRow;" (.ref r)) (u3 : Fld Z h0 a "com/example/closemark/closemark/prices/StandingQuotes" "ask" "Lcom/example/closemark/closemark/prices/LatestRow;" (.ref y)) (u4 : Exa Z h0 y "com/example/closemark/closemark/prices/LatestRow") (u5 : Fld Z h0 y "com/example/closemark/closemark/prices/LatestRow" "row" "Lcom/example/closemark/closemark/tape/TapeRow;" (.ref t)) :
    MetFree l (⟨"com/example/closemark/closemark/prices/StandingQuotes", "hasBidAndAsk", "()Z"⟩ : MethodName) (head1 (Jvm.Cond.code (⟨"com/example/closemark/closemark/prices/StandingQuotes", "hasBidAndAsk", "()Z"⟩ : MethodName) prog_45_method_5_code 1 (some .boolean) :: ws) ({ frames := 1, cells := 0, slots := 0, locals := 12 } : Room)) (fun aV U => aV = #[(.ref a)] ∧ Z.Warmed39 U.vm ∧ U.heap = h0) (fun _ _ _ _ _ => True) (fun _ U o U' => ∃ v L, o = .returned v ∧ Q_hb2 Z a x y r t h0 n0 v U'.heap L ∧ FrameEnd U o U' L ({ frames := 1, cells := 0, slots := 0, locals := 12 } : Room).cells ({ frames := 1, cells := 0, slots := 0, locals := 12 } : Room).slots) := by
  refine MetFree.of_bodySF (plainFor_of_name pn_3) hisR ?_
  intro pr_ en_ st_ me_ args below meth_ co_ s₁ Bd hml0 hP hK
  obtain ⟨rfl, hZ, hh⟩ := hP
  have hx := Bd.exec
  have hby := Bd.bytes
  have hml : co_.maxLocals = 1 := hml0
  have hown : st_.vm.findClass "com/example/closemark/closemark/prices/StandingQuotes" = some me_.cls := findClass_of_methodNamed Bd.named
  have hnm := (name_of_methodNamed Bd.named Bd.method).1
  have X0 : Stand pr_ l en_ ({ frames := 1, cells := 0, slots := 0, locals := 12 } : Room) st_ me_ #[(.ref a)] below meth_ co_ s₁ [] 0 0 := Stand.of_body Bd
  have e0 : s₁.heap = h0 := by rw [← hh, Bd.state]; rfl
  have N0 := Fr.nil n0
  have K0 := Keep.refl h0 []
  obtain ⟨G, gv, gf, gb⟩ := own_G pr_.tables en_ below st_ (Q_hb2 Z a x y r t h0 n0) ({ frames := 1, cells := 0, slots := 0, locals := 12 } : Room).cells ({ frames := 1, cells := 0, slots := 0, locals := 12 } : Room).slots
  show own_Fin pr_.tables en_ below st_ (Q_hb2 Z a x y r t h0 n0) ({ frames := 1, cells := 0, slots := 0, locals := 12 } : Room).cells ({ frames := 1, cells := 0, slots := 0, locals := 12 } : Room).slots (s₁.setTop (entryFrame me_ #[(.ref a)] 1))
  refine gb _ (gv (fun tQ kQ => castTop (ef_0 me_ a) kQ) ?_)
  show G (s₁.setTop (mkF me_ 0 #[.val (.ref a)] []))
  refine gv (fun tQ kQ => XS.aloadN X0.here hx rfl (hb hby d6_0) rfl rfl kQ) ?_
  show G (s₁.setTop (mkF me_ 1 #[.val (.ref a)] [(.ref a)]))
  obtain ⟨T115, X115, e115, st115⟩ := getF X0 hx hZ hown (host := "") (Or.inl (hw _ (List.mem_of_getElem? (i := 43) rfl))) Via.refl e0 u0 (g := (mkF me_ 1 #[.val (.ref a)] [(.ref a)])) rfl rfl (hb hby d6_1)
  refine gv st115 ?_
  show G (T115.setTop (mkF me_ 4 #[.val (.ref a)] [(.ref x)]))
  obtain ⟨cq116, kq116, q116a, q116b, q116c⟩ := isOf hZ e115 u1
  obtain ⟨_, _, ⟨T116, L116, k116, n116⟩, -, X116, ⟨Lc116, hQ116, l116, y116, z116⟩, st116⟩ := X115.virtualBack hx (y := (⟨"com/example/closemark/closemark/prices/LatestRow", "row", "()Lcom/example/closemark/closemark/tape/TapeRow;"⟩ : MethodName)) (z := (⟨"com/example/closemark/closemark/prices/LatestRow", "row", "()Lcom/example/closemark/closemark/tape/TapeRow;"⟩ : MethodName)) hown (mvT hZ (hw _ (List.mem_of_getElem? (i := 52) rfl))) (mvT hZ (hw _ (List.mem_of_getElem? (i := 53) rfl))) (notFace_of_selects (args := #[]) (mvT hZ (hw _ (List.mem_of_getElem? (i := 55) rfl)))) (mvT hZ (hw _ (List.mem_of_getElem? (i := 55) rfl))) (mvT hZ (hw _ (List.mem_of_getElem? (i := 54) rfl))) (by decide) (backOf (W := 0) (rm_row1 l Z a0 hw [] x r h0 n0 O0 u2) hZ (hw _ (List.mem_of_getElem? (i := 56) rfl)) (hw _ (List.mem_of_getElem? (i := 38) rfl)) (by decide) (by decide)) q116a q116c (g := (mkF me_ 4 #[.val (.ref a)] [(.ref x)])) rfl (by rw [hml]; rfl) (Steps.refl _) (argsL := []) (rest := []) (lenOf pd_1 rfl) rfl (by show 2 * 0 + _ ≤ _; exact Nat.le_of_eq rfl) (hb hby d6_4) (fun _ _ => ⟨rfl, e115, (by decide : 0 + 0 ≤ _), (by decide : 0 + 0 ≤ _)⟩)
  dsimp only [Pt.U, Pt.locs, Pt.cells, Pt.slots] at X116 l116 y116 z116 st116 hQ116
  subst l116 y116 z116
  obtain ⟨rfl, Nq116, eq116⟩ := hQ116
  have N117 := Fr.app N0 Nq116
  refine gv (fun tQ kQ => st116.trans kQ) ?_
  show G (T116.setTop (mkF me_ 7 #[.val (.ref a)] [(.ref r)]))
  refine gv (fun tQ kQ => XS.ifnullNo X116.here hx rfl (hb hby d6_7) rfl kQ) ?_
  show G (T116.setTop (mkF me_ 10 #[.val (.ref a)] []))
  refine gv (fun tQ kQ => XS.aloadN X116.here hx rfl (hb hby d6_10) rfl rfl kQ) ?_
  show G (T116.setTop (mkF me_ 11 #[.val (.ref a)] [(.ref a)]))
  obtain ⟨T118, X118, e118, st118⟩ := getF X116 hx hZ hown (host := "") (Or.inl (hw _ (List.mem_of_getElem? (i := 45) rfl))) Via.refl eq116 u3 (g := (mkF me_ 11 #[.val (.ref a)] [(.ref a)])) rfl rfl (hb hby d6_11)
  refine gv st118 ?_
  show G (T118.setTop (mkF me_ 14 #[.val (.ref a)] [(.ref y)]))
  obtain ⟨cq119, kq119, q119a, q119b, q119c⟩ := isOf hZ e118 u4
  obtain ⟨_, _, ⟨T119, L119, k119, n119⟩, -, X119, ⟨Lc119, hQ119, l119, y119, z119⟩, st119⟩ := X118.virtualBack hx (y := (⟨"com/example/closemark/closemark/prices/LatestRow", "row", "()Lcom/example/closemark/closemark/tape/TapeRow;"⟩ : MethodName)) (z := (⟨"com/example/closemark/closemark/prices/LatestRow", "row", "()Lcom/example/closemark/closemark/tape/TapeRow;"⟩ : MethodName)) hown (mvT hZ (hw _ (List.mem_of_getElem? (i := 52) rfl))) (mvT hZ (hw _ (List.mem_of_getElem? (i := 53) rfl))) (notFace_of_selects (args := #[]) (mvT hZ (hw _ (List.mem_of_getElem? (i := 55) rfl)))) (mvT hZ (hw _ (List.mem_of_getElem? (i := 55) rfl))) (mvT hZ (hw _ (List.mem_of_getElem? (i := 54) rfl))) (by decide) (backOf (W := 0) (rm_row1 l Z a0 hw [] y t h0 n0 O0 u5) hZ (hw _ (List.mem_of_getElem? (i := 56) rfl)) (hw _ (List.mem_of_getElem? (i := 38) rfl)) (by decide) (by decide)) q119a q119c (g := (mkF me_ 14 #[.val (.ref a)] [(.ref y)])) rfl (by rw [hml]; rfl) (Steps.refl _) (argsL := []) (rest := []) (lenOf pd_1 rfl) rfl (by show 2 * 0 + _ ≤ _; exact Nat.le_of_eq rfl) (hb hby d6_14) (fun _ _ => ⟨rfl, e118, (by decide : 0 + 0 ≤ _), (by decide : 0 + 0 ≤ _)⟩)
  dsimp only [Pt.U, Pt.locs, Pt.cells, Pt.slots] at X119 l119 y119 z119 st119 hQ119
  subst l119 y119 z119
  obtain ⟨rfl, Nq119, eq119⟩ := hQ119
  have N120 := Fr.app N117 Nq119
  refine gv (fun tQ kQ => st119.trans kQ) ?_
  show G (T119.setTop (mkF me_ 17 #[.val (.ref a)] [(.ref t)]))
  refine gv (fun tQ kQ => XS.ifnullNo X119.here hx rfl (hb hby d6_17) rfl kQ) ?_
  show G (T119.setTop (mkF me_ 20 #[.val (.ref a)] []))
  refine gv (fun tQ kQ => XS.iconst X119.here hx rfl (hb hby d6_20) kQ) ?_
  show G (T119.setTop (mkF me_ 21 #[.val (.ref a)] [(.int (1 : Int32))]))
  refine gv (fun tQ kQ => XS.goto X119.here hx rfl (pc0 := 21) (pc' := 25) rfl (hb hby d6_21) (by decide) (by decide) kQ) ?_
  show G (T119.setTop (mkF me_ 25 #[.val (.ref a)] [(.int (1 : Int32))]))
  refine gf _ (own_ret X119 Bd.notSynchronized (v := some (.int (1 : Int32))) (fun h => by rw [Bd.returns] at h; cases h) ?_ (by decide) (by decide) (fun fs hr => retN X119 hx (t := .boolean) Bd.returns (by simp) (hb hby d6_25) hr))
  show Q_hb2 Z a x y r t h0 n0 _ T119.heap _
  rw [eq119]
  exact ⟨rfl, N120, rfl⟩
theorem ef_2 (m : MethodId) (x0 : Addr) (x1 : Addr)  : entryFrame m #[(.ref x0), (.ref x1)] 2 = mkF m 0 #[.val (.ref x0), .val (.ref x1)] [] := by first | (simp [entryFrame, mkF, argsToLocals, Value.category]; done) | rfl
theorem d10_0 : decode prog_43_method_2_code 0 = .ok (.aload_n 0, 1) := by decide +kernel
theorem d10_1 : decode prog_43_method_2_code 1 = .ok (.getfield 7, 3) := by decide +kernel
theorem d10_4 : decode prog_43_method_2_code 4 = .ok (.ifnull 20, 3) := by decide +kernel
theorem d10_24 : decode prog_43_method_2_code 24 = .ok (.aload_n 0, 1) := by decide +kernel
theorem d10_25 : decode prog_43_method_2_code 25 = .ok (.aload_n 1, 1) := by decide +kernel
theorem d10_26 : decode prog_43_method_2_code 26 = .ok (.putfield 7, 3) := by decide +kernel
theorem d10_29 : decode prog_43_method_2_code 29 = .ok (.return_, 1) := by decide +kernel
def Q_lra (Z : State) (a : Addr) (r : Addr) (h0 : Heap) (n0 : Nat) (v : Option Value) (h : Heap) (L : List Loc) : Prop := v = none ∧ Fr n0 L ∧ Keep h0 h [a] ∧ (Exa Z h a "com/example/closemark/closemark/prices/LatestRow") ∧ (Fld Z h a "com/example/closemark/closemark/prices/LatestRow" "row" "Lcom/example/closemark/closemark/tape/TapeRow;" (.ref r))
set_option maxRecDepth 65536 in
set_option maxHeartbeats 40000000 in
theorem rm_lra (l : Launch) (Z : State) (a0 : Array Value) (hw : ∀ d ∈ tables_1, d.before a0 Z = true) (ws : List Jvm.Cond) (a : Addr) (r : Addr) (h0 : Heap) (n0 : Nat) (O0 : Old Z n0 h0) (u0 : Exa Z h0 a "com/example/closemark/closemark/prices/LatestRow") (u1 : Fld Z h0 a "com/example/closemark/closemark/prices/LatestRow" "row" "Lcom/example/closemark/closemark/tape/TapeRow;" .null) (u2 : n0 ≤ a) :
    MetFree l (⟨"com/example/closemark/closemark/prices/LatestRow", "add", "(Lcom/example/closemark/closemark/tape/TapeRow;)V"⟩ : MethodName) (head1 (Jvm.Cond.code (⟨"com/example/closemark/closemark/prices/LatestRow", "add", "(Lcom/example/closemark/closemark/tape/TapeRow;)V"⟩ : MethodName) prog_43_method_2_code 2 none :: ws) ({ frames := 0, cells := 0, slots := 0, locals := 0 } : Room)) (fun aV U => aV = #[(.ref a), (.ref r)] ∧ Z.Warmed39 U.vm ∧ U.heap = h0) (fun _ _ _ _ _ => True) (fun _ U o U' => ∃ v L, o = .returned v ∧ Q_lra Z a r h0 n0 v U'.heap L ∧ FrameEnd U o U' L ({ frames := 0, cells := 0, slots := 0, locals := 0 } : Room).cells ({ frames := 0, cells := 0, slots := 0, locals := 0 } : Room).slots) := by
  refine MetFree.of_bodySF (plainFor_of_name pn_1) hisR ?_
  intro pr_ en_ st_ me_ args below meth_ co_ s₁ Bd hml0 hP hK
  obtain ⟨rfl, hZ, hh⟩ := hP
  have hx := Bd.exec
  have hby := Bd.bytes
  have hml : co_.maxLocals = 2 := hml0
  have hown : st_.vm.findClass "com/example/closemark/closemark/prices/LatestRow" = some me_.cls := findClass_of_methodNamed Bd.named
  have hnm := (name_of_methodNamed Bd.named Bd.method).1
  have X0 : Stand pr_ l en_ ({ frames := 0, cells := 0, slots := 0, locals := 0 } : Room) st_ me_ #[(.ref a), (.ref r)] below meth_ co_ s₁ [] 0 0 := Stand.of_body Bd
  have e0 : s₁.heap = h0 := by rw [← hh, Bd.state]; rfl
  have N0 := Fr.nil n0
  have K0 := Keep.refl h0 [a]
  obtain ⟨G, gv, gf, gb⟩ := own_G pr_.tables en_ below st_ (Q_lra Z a r h0 n0) ({ frames := 0, cells := 0, slots := 0, locals := 0 } : Room).cells ({ frames := 0, cells := 0, slots := 0, locals := 0 } : Room).slots
  show own_Fin pr_.tables en_ below st_ (Q_lra Z a r h0 n0) ({ frames := 0, cells := 0, slots := 0, locals := 0 } : Room).cells ({ frames := 0, cells := 0, slots := 0, locals := 0 } : Room).slots (s₁.setTop (entryFrame me_ #[(.ref a), (.ref r)] 2))
  refine gb _ (gv (fun tQ kQ => castTop (ef_2 me_ a r) kQ) ?_)
  show G (s₁.setTop (mkF me_ 0 #[.val (.ref a), .val (.ref r)] []))
  refine gv (fun tQ kQ => XS.aloadN X0.here hx rfl (hb hby d10_0) rfl rfl kQ) ?_
  show G (s₁.setTop (mkF me_ 1 #[.val (.ref a), .val (.ref r)] [(.ref a)]))
  obtain ⟨T121, X121, e121, st121⟩ := getF X0 hx hZ hown (host := "") (Or.inl (hw _ (List.mem_of_getElem? (i := 57) rfl))) Via.refl e0 u1 (g := (mkF me_ 1 #[.val (.ref a), .val (.ref r)] [(.ref a)])) rfl rfl (hb hby d10_1)
  refine gv st121 ?_
  show G (T121.setTop (mkF me_ 4 #[.val (.ref a), .val (.ref r)] [.null]))
  refine gv (fun tQ kQ => XS.ifnullYes X121.here hx rfl (pc0 := 4) (pc' := 24) rfl (hb hby d10_4) rfl (by decide) (by decide) kQ) ?_
  show G (T121.setTop (mkF me_ 24 #[.val (.ref a), .val (.ref r)] []))
  refine gv (fun tQ kQ => XS.aloadN X121.here hx rfl (hb hby d10_24) rfl rfl kQ) ?_
  show G (T121.setTop (mkF me_ 25 #[.val (.ref a), .val (.ref r)] [(.ref a)]))
  refine gv (fun tQ kQ => XS.aloadN X121.here hx rfl (hb hby d10_25) rfl rfl kQ) ?_
  show G (T121.setTop (mkF me_ 26 #[.val (.ref a), .val (.ref r)] [(.ref r), (.ref a)]))
  obtain ⟨T122, h122, X122, e122, W122, st122⟩ := putF X121 hx hZ hown (host := "") (Or.inl (hw _ (List.mem_of_getElem? (i := 57) rfl))) Via.refl e121 u1 u0 (Or.inl (hw _ (List.mem_of_getElem? (i := 58) rfl))) (hw _ (List.mem_of_getElem? (i := 37) rfl)) (ty := (.object "com/example/closemark/closemark/tape/TapeRow")) (by decide) rfl rfl (g := (mkF me_ 26 #[.val (.ref a), .val (.ref r)] [(.ref r), (.ref a)])) rfl rfl (hb hby d10_26)
  refine gv st122 ?_
  have f124 : Exa Z h122 a "com/example/closemark/closemark/prices/LatestRow" := u0.wr W122
  have O125 := O0.wr W122 u2
  have K126 := K0.wr W122 (Or.inl (List.mem_of_getElem? (i := 0) rfl))
  have N127 := Fr.snoc X122 N0 u2
  have f123 : Fld Z h122 a "com/example/closemark/closemark/prices/LatestRow" "row" "Lcom/example/closemark/closemark/tape/TapeRow;" (.ref r) := u1.same W122
  show G (T122.setTop (mkF me_ 29 #[.val (.ref a), .val (.ref r)] []))
  refine gf _ (own_ret X122 Bd.notSynchronized (v := none) (fun _ => rfl) ?_ (by decide) (by decide) (fun fs hr => X122.returnOut hx Bd.returns (hb hby d10_29) hr))
  show Q_lra Z a r h0 n0 _ T122.heap _
  rw [e122]
  exact ⟨rfl, N127, K126, f124, f123⟩
theorem d8_0 : decode prog_45_method_2_code 0 = .ok (.aload_n 1, 1) := by decide +kernel
theorem d8_1 : decode prog_45_method_2_code 1 = .ok (.invokevirtual 19, 3) := by decide +kernel
theorem pd_2 : parseMethodDescriptor "()Lcom/example/closemark/closemark/tape/TapeRow$Kind;" = some ⟨[], some (.object "com/example/closemark/closemark/tape/TapeRow$Kind")⟩ := by decide +kernel
theorem d8_4 : decode prog_45_method_2_code 4 = .ok (.getstatic 25, 3) := by decide +kernel
theorem d8_7 : decode prog_45_method_2_code 7 = .ok (.if_acmp .ne 14, 3) := by decide +kernel
theorem d8_10 : decode prog_45_method_2_code 10 = .ok (.aload_n 0, 1) := by decide +kernel
theorem d8_11 : decode prog_45_method_2_code 11 = .ok (.getfield 10, 3) := by decide +kernel
theorem d8_14 : decode prog_45_method_2_code 14 = .ok (.aload_n 1, 1) := by decide +kernel
theorem d8_15 : decode prog_45_method_2_code 15 = .ok (.invokevirtual 31, 3) := by decide +kernel
theorem pd_3 : parseMethodDescriptor "(Lcom/example/closemark/closemark/tape/TapeRow;)V" = some ⟨[(.object "com/example/closemark/closemark/tape/TapeRow")], none⟩ := by decide +kernel
theorem d8_18 : decode prog_45_method_2_code 18 = .ok (.goto 48, 3) := by decide +kernel
theorem d8_66 : decode prog_45_method_2_code 66 = .ok (.return_, 1) := by decide +kernel
def Q_addB (Z : State) (a : Addr) (r : Addr) (x : Addr) (A_BID : Addr) (h0 : Heap) (n0 : Nat) (v : Option Value) (h : Heap) (L : List Loc) : Prop := v = none ∧ Fr n0 L ∧ Keep h0 h [x] ∧ (Exa Z h x "com/example/closemark/closemark/prices/LatestRow") ∧ (Fld Z h x "com/example/closemark/closemark/prices/LatestRow" "row" "Lcom/example/closemark/closemark/tape/TapeRow;" (.ref r))
set_option maxRecDepth 65536 in
set_option maxHeartbeats 40000000 in
theorem rm_addB (l : Launch) (Z : State) (a0 : Array Value) (hw : ∀ d ∈ tables_1, d.before a0 Z = true) (ws : List Jvm.Cond) (a : Addr) (r : Addr) (x : Addr) (A_BID : Addr) (h0 : Heap) (n0 : Nat) (O0 : Old Z n0 h0) (u0 : Exa Z h0 r "com/example/closemark/closemark/tape/TapeRow") (u1 : Sta Z Z.heap "com/example/closemark/closemark/tape/TapeRow$Kind" "BID" "Lcom/example/closemark/closemark/tape/TapeRow$Kind;" (.ref A_BID)) (u2 : Fld Z h0 r "com/example/closemark/closemark/tape/TapeRow" "kind" "Lcom/example/closemark/closemark/tape/TapeRow$Kind;" (.ref A_BID)) (u3 : Fld Z h0 a "com/example/closemark/closemark/prices/StandingQuotes" "bid" "Lcom/example/closemark/closemark/prices/LatestRow;" (.ref x)) (u4 : Exa Z h0 x "com/example/closemark/closemark/prices/LatestRow") (u5 : Fld Z h0 x "com/example/closemark/closemark/prices/LatestRow" "row" "Lcom/example/closemark/closemark/tape/TapeRow;" .null) (u6 : n0 ≤ x) :
    MetFree l (⟨"com/example/closemark/closemark/prices/StandingQuotes", "add", "(Lcom/example/closemark/closemark/tape/TapeRow;)V"⟩ : MethodName) (head1 (Jvm.Cond.code (⟨"com/example/closemark/closemark/prices/StandingQuotes", "add", "(Lcom/example/closemark/closemark/tape/TapeRow;)V"⟩ : MethodName) prog_45_method_2_code 2 none :: ws) ({ frames := 1, cells := 0, slots := 0, locals := 13 } : Room)) (fun aV U => aV = #[(.ref a), (.ref r)] ∧ Z.Warmed39 U.vm ∧ U.heap = h0) (fun _ _ _ _ _ => True) (fun _ U o U' => ∃ v L, o = .returned v ∧ Q_addB Z a r x A_BID h0 n0 v U'.heap L ∧ FrameEnd U o U' L ({ frames := 1, cells := 0, slots := 0, locals := 13 } : Room).cells ({ frames := 1, cells := 0, slots := 0, locals := 13 } : Room).slots) := by
  refine MetFree.of_bodySF (plainFor_of_name pn_3) hisR ?_
  intro pr_ en_ st_ me_ args below meth_ co_ s₁ Bd hml0 hP hK
  obtain ⟨rfl, hZ, hh⟩ := hP
  have hx := Bd.exec
  have hby := Bd.bytes
  have hml : co_.maxLocals = 2 := hml0
  have hown : st_.vm.findClass "com/example/closemark/closemark/prices/StandingQuotes" = some me_.cls := findClass_of_methodNamed Bd.named
  have hnm := (name_of_methodNamed Bd.named Bd.method).1
  have X0 : Stand pr_ l en_ ({ frames := 1, cells := 0, slots := 0, locals := 13 } : Room) st_ me_ #[(.ref a), (.ref r)] below meth_ co_ s₁ [] 0 0 := Stand.of_body Bd
  have e0 : s₁.heap = h0 := by rw [← hh, Bd.state]; rfl
  have N0 := Fr.nil n0
  have K0 := Keep.refl h0 [x]
  obtain ⟨G, gv, gf, gb⟩ := own_G pr_.tables en_ below st_ (Q_addB Z a r x A_BID h0 n0) ({ frames := 1, cells := 0, slots := 0, locals := 13 } : Room).cells ({ frames := 1, cells := 0, slots := 0, locals := 13 } : Room).slots
  show own_Fin pr_.tables en_ below st_ (Q_addB Z a r x A_BID h0 n0) ({ frames := 1, cells := 0, slots := 0, locals := 13 } : Room).cells ({ frames := 1, cells := 0, slots := 0, locals := 13 } : Room).slots (s₁.setTop (entryFrame me_ #[(.ref a), (.ref r)] 2))
  refine gb _ (gv (fun tQ kQ => castTop (ef_2 me_ a r) kQ) ?_)
  show G (s₁.setTop (mkF me_ 0 #[.val (.ref a), .val (.ref r)] []))
  refine gv (fun tQ kQ => XS.aloadN X0.here hx rfl (hb hby d8_0) rfl rfl kQ) ?_
  show G (s₁.setTop (mkF me_ 1 #[.val (.ref a), .val (.ref r)] [(.ref r)]))
  obtain ⟨cq128, kq128, q128a, q128b, q128c⟩ := isOf hZ e0 u0
  obtain ⟨_, _, ⟨T128, L128, k128, n128⟩, -, X128, ⟨Lc128, hQ128, l128, y128, z128⟩, st128⟩ := X0.virtualBack hx (y := (⟨"com/example/closemark/closemark/tape/TapeRow", "kind", "()Lcom/example/closemark/closemark/tape/TapeRow$Kind;"⟩ : MethodName)) (z := (⟨"com/example/closemark/closemark/tape/TapeRow", "kind", "()Lcom/example/closemark/closemark/tape/TapeRow$Kind;"⟩ : MethodName)) hown (mvT hZ (hw _ (List.mem_of_getElem? (i := 64) rfl))) (mvT hZ (hw _ (List.mem_of_getElem? (i := 65) rfl))) (notFace_of_selects (args := #[]) (mvT hZ (hw _ (List.mem_of_getElem? (i := 67) rfl)))) (mvT hZ (hw _ (List.mem_of_getElem? (i := 67) rfl))) (mvT hZ (hw _ (List.mem_of_getElem? (i := 66) rfl))) (by decide) (backOf (W := 0) (rm_kind l Z a0 hw [] r A_BID h0 n0 O0 u2) hZ (hw _ (List.mem_of_getElem? (i := 68) rfl)) (hw _ (List.mem_of_getElem? (i := 2) rfl)) (by decide) (by decide)) q128a q128c (g := (mkF me_ 1 #[.val (.ref a), .val (.ref r)] [(.ref r)])) rfl (by rw [hml]; rfl) (Steps.refl _) (argsL := []) (rest := []) (lenOf pd_2 rfl) rfl (by show 2 * 0 + _ ≤ _; exact Nat.le_of_eq rfl) (hb hby d8_1) (fun _ _ => ⟨rfl, e0, (by decide : 0 + 0 ≤ _), (by decide : 0 + 0 ≤ _)⟩)
  dsimp only [Pt.U, Pt.locs, Pt.cells, Pt.slots] at X128 l128 y128 z128 st128 hQ128
  subst l128 y128 z128
  obtain ⟨rfl, Nq128, eq128⟩ := hQ128
  have N129 := Fr.app N0 Nq128
  refine gv (fun tQ kQ => st128.trans kQ) ?_
  show G (T128.setTop (mkF me_ 4 #[.val (.ref a), .val (.ref r)] [(.ref A_BID)]))
  obtain ⟨T130, X130, e130, st130⟩ := getS2 X128 hx hZ hown (host := "") (Or.inl (hw _ (List.mem_of_getElem? (i := 69) rfl))) Via.refl eq128 (u1.ext O0.2) (g := (mkF me_ 4 #[.val (.ref a), .val (.ref r)] [(.ref A_BID)])) rfl (hb hby d8_4)
  refine gv st130 ?_
  show G (T130.setTop (mkF me_ 7 #[.val (.ref a), .val (.ref r)] [(.ref A_BID), (.ref A_BID)]))
  refine gv (fun tQ kQ => Jvm.RoadKit.acmp (g := (mkF me_ 7 #[.val (.ref a), .val (.ref r)] [(.ref A_BID), (.ref A_BID)])) X130 hx rfl rfl rfl (pc0 := 7) (pc' := 10) (same := true) rfl (hb hby d8_7) rfl (decide_eq_true rfl) (by decide) (by decide) kQ) ?_
  show G (T130.setTop (mkF me_ 10 #[.val (.ref a), .val (.ref r)] []))
  refine gv (fun tQ kQ => XS.aloadN X130.here hx rfl (hb hby d8_10) rfl rfl kQ) ?_
  show G (T130.setTop (mkF me_ 11 #[.val (.ref a), .val (.ref r)] [(.ref a)]))
  obtain ⟨T131, X131, e131, st131⟩ := getF X130 hx hZ hown (host := "") (Or.inl (hw _ (List.mem_of_getElem? (i := 43) rfl))) Via.refl e130 u3 (g := (mkF me_ 11 #[.val (.ref a), .val (.ref r)] [(.ref a)])) rfl rfl (hb hby d8_11)
  refine gv st131 ?_
  show G (T131.setTop (mkF me_ 14 #[.val (.ref a), .val (.ref r)] [(.ref x)]))
  refine gv (fun tQ kQ => XS.aloadN X131.here hx rfl (hb hby d8_14) rfl rfl kQ) ?_
  show G (T131.setTop (mkF me_ 15 #[.val (.ref a), .val (.ref r)] [(.ref r), (.ref x)]))
  obtain ⟨cq132, kq132, q132a, q132b, q132c⟩ := isOf hZ e131 u4
  obtain ⟨_, _, ⟨T132, L132, k132, n132⟩, -, X132, ⟨Lc132, hQ132, l132, y132, z132⟩, st132⟩ := X131.virtualBack hx (y := (⟨"com/example/closemark/closemark/prices/LatestRow", "add", "(Lcom/example/closemark/closemark/tape/TapeRow;)V"⟩ : MethodName)) (z := (⟨"com/example/closemark/closemark/prices/LatestRow", "add", "(Lcom/example/closemark/closemark/tape/TapeRow;)V"⟩ : MethodName)) hown (mvT hZ (hw _ (List.mem_of_getElem? (i := 70) rfl))) (mvT hZ (hw _ (List.mem_of_getElem? (i := 71) rfl))) (notFace_of_selects (args := #[]) (mvT hZ (hw _ (List.mem_of_getElem? (i := 73) rfl)))) (mvT hZ (hw _ (List.mem_of_getElem? (i := 73) rfl))) (mvT hZ (hw _ (List.mem_of_getElem? (i := 72) rfl))) (by decide) (backOf (W := 0) (rm_lra l Z a0 hw [] x r h0 n0 O0 u4 u5 u6) hZ (hw _ (List.mem_of_getElem? (i := 74) rfl)) (hw _ (List.mem_of_getElem? (i := 38) rfl)) (by decide) (by decide)) q132a q132c (g := (mkF me_ 15 #[.val (.ref a), .val (.ref r)] [(.ref r), (.ref x)])) rfl (by rw [hml]; rfl) (Steps.refl _) (argsL := [(.ref r)]) (rest := []) (lenOf pd_3 rfl) rfl (by show 2 * 0 + _ ≤ _; exact Nat.le_of_eq rfl) (hb hby d8_15) (fun _ _ => ⟨rfl, e131, (by decide : 0 + 0 ≤ _), (by decide : 0 + 0 ≤ _)⟩)
  dsimp only [Pt.U, Pt.locs, Pt.cells, Pt.slots] at X132 l132 y132 z132 st132 hQ132
  subst l132 y132 z132
  obtain ⟨rfl, Nq132, Kq132, w132_0, w132_1⟩ := hQ132
  have N133 := Fr.app N129 Nq132
  obtain ⟨h132, e132⟩ : ∃ z, T132.heap = z := ⟨_, rfl⟩
  rw [e132] at Kq132 w132_0 w132_1
  have f134 : Exa Z h132 r "com/example/closemark/closemark/tape/TapeRow" := u0.keep Kq132
  have f135 : Fld Z h132 r "com/example/closemark/closemark/tape/TapeRow" "kind" "Lcom/example/closemark/closemark/tape/TapeRow$Kind;" (.ref A_BID) := u2.keep Kq132 (ninS (ne_exa u0 u4 (by decide)) nin0)
  have f136 : Exa Z h132 x "com/example/closemark/closemark/prices/LatestRow" := u4.keep Kq132
  have O137 := O0.keep Kq132 (allS u6 all0)
  have K138 := K0.trans Kq132 (allS (Or.inl (List.mem_of_getElem? (i := 0) rfl)) all0)
  refine gv (fun tQ kQ => st132.trans kQ) ?_
  show G (T132.setTop (mkF me_ 18 #[.val (.ref a), .val (.ref r)] []))
  refine gv (fun tQ kQ => XS.goto X132.here hx rfl (pc0 := 18) (pc' := 66) rfl (hb hby d8_18) (by decide) (by decide) kQ) ?_
  show G (T132.setTop (mkF me_ 66 #[.val (.ref a), .val (.ref r)] []))
  refine gf _ (own_ret X132 Bd.notSynchronized (v := none) (fun _ => rfl) ?_ (by decide) (by decide) (fun fs hr => X132.returnOut hx Bd.returns (hb hby d8_66) hr))
  show Q_addB Z a r x A_BID h0 n0 _ T132.heap _
  rw [e132]
  exact ⟨rfl, N133, K138, w132_0, w132_1⟩
theorem d8_21 : decode prog_45_method_2_code 21 = .ok (.aload_n 1, 1) := by decide +kernel
theorem d8_22 : decode prog_45_method_2_code 22 = .ok (.invokevirtual 19, 3) := by decide +kernel
theorem d8_25 : decode prog_45_method_2_code 25 = .ok (.getstatic 35, 3) := by decide +kernel
theorem d8_28 : decode prog_45_method_2_code 28 = .ok (.if_acmp .ne 14, 3) := by decide +kernel
theorem d8_31 : decode prog_45_method_2_code 31 = .ok (.aload_n 0, 1) := by decide +kernel
theorem d8_32 : decode prog_45_method_2_code 32 = .ok (.getfield 16, 3) := by decide +kernel
theorem d8_35 : decode prog_45_method_2_code 35 = .ok (.aload_n 1, 1) := by decide +kernel
theorem d8_36 : decode prog_45_method_2_code 36 = .ok (.invokevirtual 31, 3) := by decide +kernel
theorem d8_39 : decode prog_45_method_2_code 39 = .ok (.goto 27, 3) := by decide +kernel
def Q_addA (Z : State) (a : Addr) (r : Addr) (y : Addr) (A_BID : Addr) (A_ASK : Addr) (h0 : Heap) (n0 : Nat) (v : Option Value) (h : Heap) (L : List Loc) : Prop := v = none ∧ Fr n0 L ∧ Keep h0 h [y] ∧ (Exa Z h y "com/example/closemark/closemark/prices/LatestRow") ∧ (Fld Z h y "com/example/closemark/closemark/prices/LatestRow" "row" "Lcom/example/closemark/closemark/tape/TapeRow;" (.ref r))
set_option maxRecDepth 65536 in
set_option maxHeartbeats 40000000 in
theorem rm_addA (l : Launch) (Z : State) (a0 : Array Value) (hw : ∀ d ∈ tables_1, d.before a0 Z = true) (ws : List Jvm.Cond) (a : Addr) (r : Addr) (y : Addr) (A_BID : Addr) (A_ASK : Addr) (h0 : Heap) (n0 : Nat) (O0 : Old Z n0 h0) (u0 : Exa Z h0 r "com/example/closemark/closemark/tape/TapeRow") (u1 : Sta Z Z.heap "com/example/closemark/closemark/tape/TapeRow$Kind" "BID" "Lcom/example/closemark/closemark/tape/TapeRow$Kind;" (.ref A_BID)) (u2 : Sta Z Z.heap "com/example/closemark/closemark/tape/TapeRow$Kind" "ASK" "Lcom/example/closemark/closemark/tape/TapeRow$Kind;" (.ref A_ASK)) (u3 : Fld Z h0 r "com/example/closemark/closemark/tape/TapeRow" "kind" "Lcom/example/closemark/closemark/tape/TapeRow$Kind;" (.ref A_ASK)) (u4 : A_ASK ≠ A_BID) (u5 : Fld Z h0 a "com/example/closemark/closemark/prices/StandingQuotes" "ask" "Lcom/example/closemark/closemark/prices/LatestRow;" (.ref y)) (u6 : Exa Z h0 y "com/example/closemark/closemark/prices/LatestRow") (u7 : Fld Z h0 y "com/example/closemark/closemark/prices/LatestRow" "row" "Lcom/example/closemark/closemark/tape/TapeRow;" .null) (u8 : n0 ≤ y) :
    MetFree l (⟨"com/example/closemark/closemark/prices/StandingQuotes", "add", "(Lcom/example/closemark/closemark/tape/TapeRow;)V"⟩ : MethodName) (head1 (Jvm.Cond.code (⟨"com/example/closemark/closemark/prices/StandingQuotes", "add", "(Lcom/example/closemark/closemark/tape/TapeRow;)V"⟩ : MethodName) prog_45_method_2_code 2 none :: ws) ({ frames := 1, cells := 0, slots := 0, locals := 13 } : Room)) (fun aV U => aV = #[(.ref a), (.ref r)] ∧ Z.Warmed39 U.vm ∧ U.heap = h0) (fun _ _ _ _ _ => True) (fun _ U o U' => ∃ v L, o = .returned v ∧ Q_addA Z a r y A_BID A_ASK h0 n0 v U'.heap L ∧ FrameEnd U o U' L ({ frames := 1, cells := 0, slots := 0, locals := 13 } : Room).cells ({ frames := 1, cells := 0, slots := 0, locals := 13 } : Room).slots) := by
  refine MetFree.of_bodySF (plainFor_of_name pn_3) hisR ?_
  intro pr_ en_ st_ me_ args below meth_ co_ s₁ Bd hml0 hP hK
  obtain ⟨rfl, hZ, hh⟩ := hP
  have hx := Bd.exec
  have hby := Bd.bytes
  have hml : co_.maxLocals = 2 := hml0
  have hown : st_.vm.findClass "com/example/closemark/closemark/prices/StandingQuotes" = some me_.cls := findClass_of_methodNamed Bd.named
  have hnm := (name_of_methodNamed Bd.named Bd.method).1
  have X0 : Stand pr_ l en_ ({ frames := 1, cells := 0, slots := 0, locals := 13 } : Room) st_ me_ #[(.ref a), (.ref r)] below meth_ co_ s₁ [] 0 0 := Stand.of_body Bd
  have e0 : s₁.heap = h0 := by rw [← hh, Bd.state]; rfl
  have N0 := Fr.nil n0
  have K0 := Keep.refl h0 [y]
  obtain ⟨G, gv, gf, gb⟩ := own_G pr_.tables en_ below st_ (Q_addA Z a r y A_BID A_ASK h0 n0) ({ frames := 1, cells := 0, slots := 0, locals := 13 } : Room).cells ({ frames := 1, cells := 0, slots := 0, locals := 13 } : Room).slots
  show own_Fin pr_.tables en_ below st_ (Q_addA Z a r y A_BID A_ASK h0 n0) ({ frames := 1, cells := 0, slots := 0, locals := 13 } : Room).cells ({ frames := 1, cells := 0, slots := 0, locals := 13 } : Room).slots (s₁.setTop (entryFrame me_ #[(.ref a), (.ref r)] 2))
  refine gb _ (gv (fun tQ kQ => castTop (ef_2 me_ a r) kQ) ?_)
  show G (s₁.setTop (mkF me_ 0 #[.val (.ref a), .val (.ref r)] []))
  refine gv (fun tQ kQ => XS.aloadN X0.here hx rfl (hb hby d8_0) rfl rfl kQ) ?_
  show G (s₁.setTop (mkF me_ 1 #[.val (.ref a), .val (.ref r)] [(.ref r)]))
  obtain ⟨cq139, kq139, q139a, q139b, q139c⟩ := isOf hZ e0 u0
  obtain ⟨_, _, ⟨T139, L139, k139, n139⟩, -, X139, ⟨Lc139, hQ139, l139, y139, z139⟩, st139⟩ := X0.virtualBack hx (y := (⟨"com/example/closemark/closemark/tape/TapeRow", "kind", "()Lcom/example/closemark/closemark/tape/TapeRow$Kind;"⟩ : MethodName)) (z := (⟨"com/example/closemark/closemark/tape/TapeRow", "kind", "()Lcom/example/closemark/closemark/tape/TapeRow$Kind;"⟩ : MethodName)) hown (mvT hZ (hw _ (List.mem_of_getElem? (i := 64) rfl))) (mvT hZ (hw _ (List.mem_of_getElem? (i := 65) rfl))) (notFace_of_selects (args := #[]) (mvT hZ (hw _ (List.mem_of_getElem? (i := 67) rfl)))) (mvT hZ (hw _ (List.mem_of_getElem? (i := 67) rfl))) (mvT hZ (hw _ (List.mem_of_getElem? (i := 66) rfl))) (by decide) (backOf (W := 0) (rm_kind l Z a0 hw [] r A_ASK h0 n0 O0 u3) hZ (hw _ (List.mem_of_getElem? (i := 68) rfl)) (hw _ (List.mem_of_getElem? (i := 2) rfl)) (by decide) (by decide)) q139a q139c (g := (mkF me_ 1 #[.val (.ref a), .val (.ref r)] [(.ref r)])) rfl (by rw [hml]; rfl) (Steps.refl _) (argsL := []) (rest := []) (lenOf pd_2 rfl) rfl (by show 2 * 0 + _ ≤ _; exact Nat.le_of_eq rfl) (hb hby d8_1) (fun _ _ => ⟨rfl, e0, (by decide : 0 + 0 ≤ _), (by decide : 0 + 0 ≤ _)⟩)
  dsimp only [Pt.U, Pt.locs, Pt.cells, Pt.slots] at X139 l139 y139 z139 st139 hQ139
  subst l139 y139 z139
  obtain ⟨rfl, Nq139, eq139⟩ := hQ139
  have N140 := Fr.app N0 Nq139
  refine gv (fun tQ kQ => st139.trans kQ) ?_
  show G (T139.setTop (mkF me_ 4 #[.val (.ref a), .val (.ref r)] [(.ref A_ASK)]))
  obtain ⟨T141, X141, e141, st141⟩ := getS2 X139 hx hZ hown (host := "") (Or.inl (hw _ (List.mem_of_getElem? (i := 69) rfl))) Via.refl eq139 (u1.ext O0.2) (g := (mkF me_ 4 #[.val (.ref a), .val (.ref r)] [(.ref A_ASK)])) rfl (hb hby d8_4)
  refine gv st141 ?_
  show G (T141.setTop (mkF me_ 7 #[.val (.ref a), .val (.ref r)] [(.ref A_BID), (.ref A_ASK)]))
  refine gv (fun tQ kQ => Jvm.RoadKit.acmp (g := (mkF me_ 7 #[.val (.ref a), .val (.ref r)] [(.ref A_BID), (.ref A_ASK)])) X141 hx rfl rfl rfl (pc0 := 7) (pc' := 21) (same := false) rfl (hb hby d8_7) rfl (decide_eq_false fun q => u4 (Value.ref.inj q)) (by decide) (by decide) kQ) ?_
  show G (T141.setTop (mkF me_ 21 #[.val (.ref a), .val (.ref r)] []))
  refine gv (fun tQ kQ => XS.aloadN X141.here hx rfl (hb hby d8_21) rfl rfl kQ) ?_
  show G (T141.setTop (mkF me_ 22 #[.val (.ref a), .val (.ref r)] [(.ref r)]))
  obtain ⟨cq142, kq142, q142a, q142b, q142c⟩ := isOf hZ e141 u0
  obtain ⟨_, _, ⟨T142, L142, k142, n142⟩, -, X142, ⟨Lc142, hQ142, l142, y142, z142⟩, st142⟩ := X141.virtualBack hx (y := (⟨"com/example/closemark/closemark/tape/TapeRow", "kind", "()Lcom/example/closemark/closemark/tape/TapeRow$Kind;"⟩ : MethodName)) (z := (⟨"com/example/closemark/closemark/tape/TapeRow", "kind", "()Lcom/example/closemark/closemark/tape/TapeRow$Kind;"⟩ : MethodName)) hown (mvT hZ (hw _ (List.mem_of_getElem? (i := 64) rfl))) (mvT hZ (hw _ (List.mem_of_getElem? (i := 65) rfl))) (notFace_of_selects (args := #[]) (mvT hZ (hw _ (List.mem_of_getElem? (i := 67) rfl)))) (mvT hZ (hw _ (List.mem_of_getElem? (i := 67) rfl))) (mvT hZ (hw _ (List.mem_of_getElem? (i := 66) rfl))) (by decide) (backOf (W := 0) (rm_kind l Z a0 hw [] r A_ASK h0 n0 O0 u3) hZ (hw _ (List.mem_of_getElem? (i := 68) rfl)) (hw _ (List.mem_of_getElem? (i := 2) rfl)) (by decide) (by decide)) q142a q142c (g := (mkF me_ 22 #[.val (.ref a), .val (.ref r)] [(.ref r)])) rfl (by rw [hml]; rfl) (Steps.refl _) (argsL := []) (rest := []) (lenOf pd_2 rfl) rfl (by show 2 * 0 + _ ≤ _; exact Nat.le_of_eq rfl) (hb hby d8_22) (fun _ _ => ⟨rfl, e141, (by decide : 0 + 0 ≤ _), (by decide : 0 + 0 ≤ _)⟩)
  dsimp only [Pt.U, Pt.locs, Pt.cells, Pt.slots] at X142 l142 y142 z142 st142 hQ142
  subst l142 y142 z142
  obtain ⟨rfl, Nq142, eq142⟩ := hQ142
  have N143 := Fr.app N140 Nq142
  refine gv (fun tQ kQ => st142.trans kQ) ?_
  show G (T142.setTop (mkF me_ 25 #[.val (.ref a), .val (.ref r)] [(.ref A_ASK)]))
  obtain ⟨T144, X144, e144, st144⟩ := getS2 X142 hx hZ hown (host := "") (Or.inl (hw _ (List.mem_of_getElem? (i := 75) rfl))) Via.refl eq142 (u2.ext O0.2) (g := (mkF me_ 25 #[.val (.ref a), .val (.ref r)] [(.ref A_ASK)])) rfl (hb hby d8_25)
  refine gv st144 ?_
  show G (T144.setTop (mkF me_ 28 #[.val (.ref a), .val (.ref r)] [(.ref A_ASK), (.ref A_ASK)]))
  refine gv (fun tQ kQ => Jvm.RoadKit.acmp (g := (mkF me_ 28 #[.val (.ref a), .val (.ref r)] [(.ref A_ASK), (.ref A_ASK)])) X144 hx rfl rfl rfl (pc0 := 28) (pc' := 31) (same := true) rfl (hb hby d8_28) rfl (decide_eq_true rfl) (by decide) (by decide) kQ) ?_
  show G (T144.setTop (mkF me_ 31 #[.val (.ref a), .val (.ref r)] []))
  refine gv (fun tQ kQ => XS.aloadN X144.here hx rfl (hb hby d8_31) rfl rfl kQ) ?_
  show G (T144.setTop (mkF me_ 32 #[.val (.ref a), .val (.ref r)] [(.ref a)]))
  obtain ⟨T145, X145, e145, st145⟩ := getF X144 hx hZ hown (host := "") (Or.inl (hw _ (List.mem_of_getElem? (i := 45) rfl))) Via.refl e144 u5 (g := (mkF me_ 32 #[.val (.ref a), .val (.ref r)] [(.ref a)])) rfl rfl (hb hby d8_32)
  refine gv st145 ?_
  show G (T145.setTop (mkF me_ 35 #[.val (.ref a), .val (.ref r)] [(.ref y)]))
  refine gv (fun tQ kQ => XS.aloadN X145.here hx rfl (hb hby d8_35) rfl rfl kQ) ?_
  show G (T145.setTop (mkF me_ 36 #[.val (.ref a), .val (.ref r)] [(.ref r), (.ref y)]))
  obtain ⟨cq146, kq146, q146a, q146b, q146c⟩ := isOf hZ e145 u6
  obtain ⟨_, _, ⟨T146, L146, k146, n146⟩, -, X146, ⟨Lc146, hQ146, l146, y146, z146⟩, st146⟩ := X145.virtualBack hx (y := (⟨"com/example/closemark/closemark/prices/LatestRow", "add", "(Lcom/example/closemark/closemark/tape/TapeRow;)V"⟩ : MethodName)) (z := (⟨"com/example/closemark/closemark/prices/LatestRow", "add", "(Lcom/example/closemark/closemark/tape/TapeRow;)V"⟩ : MethodName)) hown (mvT hZ (hw _ (List.mem_of_getElem? (i := 70) rfl))) (mvT hZ (hw _ (List.mem_of_getElem? (i := 71) rfl))) (notFace_of_selects (args := #[]) (mvT hZ (hw _ (List.mem_of_getElem? (i := 73) rfl)))) (mvT hZ (hw _ (List.mem_of_getElem? (i := 73) rfl))) (mvT hZ (hw _ (List.mem_of_getElem? (i := 72) rfl))) (by decide) (backOf (W := 0) (rm_lra l Z a0 hw [] y r h0 n0 O0 u6 u7 u8) hZ (hw _ (List.mem_of_getElem? (i := 74) rfl)) (hw _ (List.mem_of_getElem? (i := 38) rfl)) (by decide) (by decide)) q146a q146c (g := (mkF me_ 36 #[.val (.ref a), .val (.ref r)] [(.ref r), (.ref y)])) rfl (by rw [hml]; rfl) (Steps.refl _) (argsL := [(.ref r)]) (rest := []) (lenOf pd_3 rfl) rfl (by show 2 * 0 + _ ≤ _; exact Nat.le_of_eq rfl) (hb hby d8_36) (fun _ _ => ⟨rfl, e145, (by decide : 0 + 0 ≤ _), (by decide : 0 + 0 ≤ _)⟩)
  dsimp only [Pt.U, Pt.locs, Pt.cells, Pt.slots] at X146 l146 y146 z146 st146 hQ146
  subst l146 y146 z146
  obtain ⟨rfl, Nq146, Kq146, w146_0, w146_1⟩ := hQ146
  have N147 := Fr.app N143 Nq146
  obtain ⟨h146, e146⟩ : ∃ z, T146.heap = z := ⟨_, rfl⟩
  rw [e146] at Kq146 w146_0 w146_1
  have f148 : Exa Z h146 r "com/example/closemark/closemark/tape/TapeRow" := u0.keep Kq146
  have f149 : Fld Z h146 r "com/example/closemark/closemark/tape/TapeRow" "kind" "Lcom/example/closemark/closemark/tape/TapeRow$Kind;" (.ref A_ASK) := u3.keep Kq146 (ninS (ne_exa u0 u6 (by decide)) nin0)
  have f150 : Exa Z h146 y "com/example/closemark/closemark/prices/LatestRow" := u6.keep Kq146
  have O151 := O0.keep Kq146 (allS u8 all0)
  have K152 := K0.trans Kq146 (allS (Or.inl (List.mem_of_getElem? (i := 0) rfl)) all0)
  refine gv (fun tQ kQ => st146.trans kQ) ?_
  show G (T146.setTop (mkF me_ 39 #[.val (.ref a), .val (.ref r)] []))
  refine gv (fun tQ kQ => XS.goto X146.here hx rfl (pc0 := 39) (pc' := 66) rfl (hb hby d8_39) (by decide) (by decide) kQ) ?_
  show G (T146.setTop (mkF me_ 66 #[.val (.ref a), .val (.ref r)] []))
  refine gf _ (own_ret X146 Bd.notSynchronized (v := none) (fun _ => rfl) ?_ (by decide) (by decide) (fun fs hr => X146.returnOut hx Bd.returns (hb hby d8_66) hr))
  show Q_addA Z a r y A_BID A_ASK h0 n0 _ T146.heap _
  rw [e146]
  exact ⟨rfl, N147, K152, w146_0, w146_1⟩
theorem ef_3 (m : MethodId) (x0 : Int32) (x1 : Int64)  : entryFrame m #[(.int x0), (.long x1)] maxLocals = mkF m 0 #[.val (.int x0), .val (.long x1), .second, .unset, .unset, .unset, .unset, .unset, .unset, .unset, .unset] [] := by first | (simp [entryFrame, mkF, argsToLocals, Value.category, maxLocals]; done) | rfl
theorem pn_4 : plainName "com/example/closemark/closemark/prices/StandingQuotesHasBidAndAskPinLaw" = true := by first | (simp [plainName, overriddenIn]; done) | decide +kernel
theorem pd_4 : parseMethodDescriptor "(Ljava/time/Instant;Ljava/lang/String;Lcom/example/closemark/closemark/tape/TapeRow$Kind;Ljava/math/BigDecimal;J)V" = some ⟨[(.object "java/time/Instant"), (.object "java/lang/String"), (.object "com/example/closemark/closemark/tape/TapeRow$Kind"), (.object "java/math/BigDecimal"), .long], none⟩ := by decide +kernel
theorem pd_5 : parseMethodDescriptor "()Z" = some ⟨[], some .boolean⟩ := by decide +kernel
def Q0 (Z : State) (p0 : Int32) (p1 : Int64) (A_BID : Addr) (A_ASK : Addr) (h0 : Heap) (n0 : Nat) (v : Option Value) (h : Heap) (L : List Loc) : Prop := v = some (.int (1 : Int32)) ∧ Fr n0 L
set_option maxRecDepth 65536 in
set_option maxHeartbeats 40000000 in
theorem rm0 (l : Launch) (Z : State) (a0 : Array Value) (hw : ∀ d ∈ tables_1, d.before a0 Z = true) (ws : List Jvm.Cond) (p0 : Int32) (p1 : Int64) (A_BID : Addr) (A_ASK : Addr) (h0 : Heap) (n0 : Nat) (O0 : Old Z n0 h0) (u0 : Sta Z Z.heap "com/example/closemark/closemark/tape/TapeRow$Kind" "BID" "Lcom/example/closemark/closemark/tape/TapeRow$Kind;" (.ref A_BID)) (u1 : Sta Z Z.heap "com/example/closemark/closemark/tape/TapeRow$Kind" "ASK" "Lcom/example/closemark/closemark/tape/TapeRow$Kind;" (.ref A_ASK)) (u2 : A_ASK ≠ A_BID) :
    MetFree l x (head1 (Jvm.Cond.code x code maxLocals ret :: ws) room_1) (fun aV U => aV = #[(.int p0), (.long p1)] ∧ Z.Warmed39 U.vm ∧ U.heap = h0) (fun _ _ _ _ _ => True) (fun _ U o U' => ∃ v L, o = .returned v ∧ Q0 Z p0 p1 A_BID A_ASK h0 n0 v U'.heap L ∧ FrameEnd U o U' L room_1.cells room_1.slots) := by
  refine MetFree.of_bodySF (plainFor_of_name pn_4) hisR ?_
  intro pr_ en_ st_ me_ args below meth_ co_ s₁ Bd hml0 hP hK
  obtain ⟨rfl, hZ, hh⟩ := hP
  have hx := Bd.exec
  have hby := Bd.bytes
  have hml : co_.maxLocals = 11 := hml0
  have hown : st_.vm.findClass "com/example/closemark/closemark/prices/StandingQuotesHasBidAndAskPinLaw" = some me_.cls := findClass_of_methodNamed Bd.named
  have hnm := (name_of_methodNamed Bd.named Bd.method).1
  have X0 : Stand pr_ l en_ room_1 st_ me_ #[(.int p0), (.long p1)] below meth_ co_ s₁ [] 0 0 := Stand.of_body Bd
  have e0 : s₁.heap = h0 := by rw [← hh, Bd.state]; rfl
  have N0 := Fr.nil n0
  have K0 := Keep.refl h0 []
  obtain ⟨G, gv, gf, gb⟩ := own_G pr_.tables en_ below st_ (Q0 Z p0 p1 A_BID A_ASK h0 n0) room_1.cells room_1.slots
  show own_Fin pr_.tables en_ below st_ (Q0 Z p0 p1 A_BID A_ASK h0 n0) room_1.cells room_1.slots (s₁.setTop (entryFrame me_ #[(.int p0), (.long p1)] maxLocals))
  refine gb _ (gv (fun tQ kQ => castTop (ef_3 me_ p0 p1) kQ) ?_)
  show G (s₁.setTop (mkF me_ 0 #[.val (.int p0), .val (.long p1), .second, .unset, .unset, .unset, .unset, .unset, .unset, .unset, .unset] []))
  refine gv (fun tQ kQ => XS.iloadN X0.here hx rfl (hb hby at_0) rfl kQ) ?_
  show G (s₁.setTop (mkF me_ 1 #[.val (.int p0), .val (.long p1), .second, .unset, .unset, .unset, .unset, .unset, .unset, .unset, .unset] [(.int p0)]))
  refine gv (fun tQ kQ => XS.iconst X0.here hx rfl (hb hby at_1) kQ) ?_
  show G (s₁.setTop (mkF me_ 2 #[.val (.int p0), .val (.long p1), .second, .unset, .unset, .unset, .unset, .unset, .unset, .unset, .unset] [(.int (1 : Int32)), (.int p0)]))
  refine gv (fun tQ kQ => XS.iand X0.here hx rfl (hb hby at_2) rfl kQ) ?_
  show G (s₁.setTop (mkF me_ 3 #[.val (.int p0), .val (.long p1), .second, .unset, .unset, .unset, .unset, .unset, .unset, .unset, .unset] [(.int (p0 &&& (1 : Int32)))]))
  by_cases hc153 : (p0 &&& (1 : Int32)) = (0 : Int32)
  · refine gv (fun tQ kQ => XS.ifYes X0.here hx rfl (pc0 := 3) (pc' := 10) rfl (hb hby at_3) rfl ((if0 _ _).trans (teq hc153).1) (by decide) (by decide) kQ) ?_
    show G (s₁.setTop (mkF me_ 10 #[.val (.int p0), .val (.long p1), .second, .unset, .unset, .unset, .unset, .unset, .unset, .unset, .unset] []))
    refine gv (fun tQ kQ => XS.iconst X0.here hx rfl (hb hby at_10) kQ) ?_
    show G (s₁.setTop (mkF me_ 11 #[.val (.int p0), .val (.long p1), .second, .unset, .unset, .unset, .unset, .unset, .unset, .unset, .unset] [(.int (0 : Int32))]))
    refine gv (fun tQ kQ => XS.istoreN X0.here hx rfl (hb hby at_11) rfl (l' := #[.val (.int p0), .val (.long p1), .second, .val (.int (0 : Int32)), .unset, .unset, .unset, .unset, .unset, .unset, .unset]) rfl kQ) ?_
    show G (s₁.setTop (mkF me_ 12 #[.val (.int p0), .val (.long p1), .second, .val (.int (0 : Int32)), .unset, .unset, .unset, .unset, .unset, .unset, .unset] []))
    refine gv (fun tQ kQ => XS.iloadN X0.here hx rfl (hb hby at_12) rfl kQ) ?_
    show G (s₁.setTop (mkF me_ 13 #[.val (.int p0), .val (.long p1), .second, .val (.int (0 : Int32)), .unset, .unset, .unset, .unset, .unset, .unset, .unset] [(.int p0)]))
    refine gv (fun tQ kQ => XS.iconst X0.here hx rfl (hb hby at_13) kQ) ?_
    show G (s₁.setTop (mkF me_ 14 #[.val (.int p0), .val (.long p1), .second, .val (.int (0 : Int32)), .unset, .unset, .unset, .unset, .unset, .unset, .unset] [(.int (2 : Int32)), (.int p0)]))
    refine gv (fun tQ kQ => XS.iand X0.here hx rfl (hb hby at_14) rfl kQ) ?_
    show G (s₁.setTop (mkF me_ 15 #[.val (.int p0), .val (.long p1), .second, .val (.int (0 : Int32)), .unset, .unset, .unset, .unset, .unset, .unset, .unset] [(.int (p0 &&& (2 : Int32)))]))
    by_cases hc154 : (p0 &&& (2 : Int32)) = (0 : Int32)
    · refine gv (fun tQ kQ => XS.ifYes X0.here hx rfl (pc0 := 15) (pc' := 22) rfl (hb hby at_15) rfl ((if0 _ _).trans (teq hc154).1) (by decide) (by decide) kQ) ?_
      show G (s₁.setTop (mkF me_ 22 #[.val (.int p0), .val (.long p1), .second, .val (.int (0 : Int32)), .unset, .unset, .unset, .unset, .unset, .unset, .unset] []))
      refine gv (fun tQ kQ => XS.iconst X0.here hx rfl (hb hby at_22) kQ) ?_
      show G (s₁.setTop (mkF me_ 23 #[.val (.int p0), .val (.long p1), .second, .val (.int (0 : Int32)), .unset, .unset, .unset, .unset, .unset, .unset, .unset] [(.int (0 : Int32))]))
      refine gv (fun tQ kQ => XS.istore X0.here hx rfl (hb hby at_23) rfl (l' := #[.val (.int p0), .val (.long p1), .second, .val (.int (0 : Int32)), .val (.int (0 : Int32)), .unset, .unset, .unset, .unset, .unset, .unset]) rfl kQ) ?_
      show G (s₁.setTop (mkF me_ 25 #[.val (.int p0), .val (.long p1), .second, .val (.int (0 : Int32)), .val (.int (0 : Int32)), .unset, .unset, .unset, .unset, .unset, .unset] []))
      refine gv (fun tQ kQ => XS.iloadN X0.here hx rfl (hb hby at_25) rfl kQ) ?_
      show G (s₁.setTop (mkF me_ 26 #[.val (.int p0), .val (.long p1), .second, .val (.int (0 : Int32)), .val (.int (0 : Int32)), .unset, .unset, .unset, .unset, .unset, .unset] [(.int p0)]))
      refine gv (fun tQ kQ => XS.iconst X0.here hx rfl (hb hby at_26) kQ) ?_
      show G (s₁.setTop (mkF me_ 27 #[.val (.int p0), .val (.long p1), .second, .val (.int (0 : Int32)), .val (.int (0 : Int32)), .unset, .unset, .unset, .unset, .unset, .unset] [(.int (4 : Int32)), (.int p0)]))
      refine gv (fun tQ kQ => XS.iand X0.here hx rfl (hb hby at_27) rfl kQ) ?_
      show G (s₁.setTop (mkF me_ 28 #[.val (.int p0), .val (.long p1), .second, .val (.int (0 : Int32)), .val (.int (0 : Int32)), .unset, .unset, .unset, .unset, .unset, .unset] [(.int (p0 &&& (4 : Int32)))]))
      by_cases hc155 : (p0 &&& (4 : Int32)) = (0 : Int32)
      · refine gv (fun tQ kQ => XS.ifYes X0.here hx rfl (pc0 := 28) (pc' := 35) rfl (hb hby at_28) rfl ((if0 _ _).trans (teq hc155).1) (by decide) (by decide) kQ) ?_
        show G (s₁.setTop (mkF me_ 35 #[.val (.int p0), .val (.long p1), .second, .val (.int (0 : Int32)), .val (.int (0 : Int32)), .unset, .unset, .unset, .unset, .unset, .unset] []))
        refine gv (fun tQ kQ => XS.iconst X0.here hx rfl (hb hby at_35) kQ) ?_
        show G (s₁.setTop (mkF me_ 36 #[.val (.int p0), .val (.long p1), .second, .val (.int (0 : Int32)), .val (.int (0 : Int32)), .unset, .unset, .unset, .unset, .unset, .unset] [(.int (0 : Int32))]))
        refine gv (fun tQ kQ => XS.istore X0.here hx rfl (hb hby at_36) rfl (l' := #[.val (.int p0), .val (.long p1), .second, .val (.int (0 : Int32)), .val (.int (0 : Int32)), .val (.int (0 : Int32)), .unset, .unset, .unset, .unset, .unset]) rfl kQ) ?_
        show G (s₁.setTop (mkF me_ 38 #[.val (.int p0), .val (.long p1), .second, .val (.int (0 : Int32)), .val (.int (0 : Int32)), .val (.int (0 : Int32)), .unset, .unset, .unset, .unset, .unset] []))
        obtain ⟨T156, h156, X156, e156, E156, A156, D156, -, st156⟩ := newO X0 hx hZ hown (hw _ (List.mem_of_getElem? (i := 0) rfl)) (hw _ (List.mem_of_getElem? (i := 1) rfl)) (hw _ (List.mem_of_getElem? (i := 2) rfl)) e0 (g := (mkF me_ 38 #[.val (.int p0), .val (.long p1), .second, .val (.int (0 : Int32)), .val (.int (0 : Int32)), .val (.int (0 : Int32)), .unset, .unset, .unset, .unset, .unset] [])) rfl (hb hby at_38) (by decide) (by decide)
        obtain ⟨b156, g156⟩ : ∃ z, z = h0.size := ⟨_, rfl⟩
        rw [← g156] at A156 D156 st156
        refine gv st156 ?_
        have g157 : n0 ≤ b156 := Nat.le_trans (own_old O0) (Nat.le_of_eq g156.symm)
        have O159 := O0.ext E156
        have f160 : Fld Z h156 b156 "com/example/closemark/closemark/tape/TapeRow" "time" "Ljava/time/Instant;" .null := D156 (Or.inr (hw _ (List.mem_of_getElem? (i := 18) rfl))) (ty := (.object "java/time/Instant")) (by decide)
        have f161 : Fld Z h156 b156 "com/example/closemark/closemark/tape/TapeRow" "symbol" "Ljava/lang/String;" .null := D156 (Or.inr (hw _ (List.mem_of_getElem? (i := 20) rfl))) (ty := (.object "java/lang/String")) (by decide)
        have f162 : Fld Z h156 b156 "com/example/closemark/closemark/tape/TapeRow" "kind" "Lcom/example/closemark/closemark/tape/TapeRow$Kind;" .null := D156 (Or.inr (hw _ (List.mem_of_getElem? (i := 22) rfl))) (ty := (.object "com/example/closemark/closemark/tape/TapeRow$Kind")) (by decide)
        have f163 : Fld Z h156 b156 "com/example/closemark/closemark/tape/TapeRow" "price" "Ljava/math/BigDecimal;" .null := D156 (Or.inr (hw _ (List.mem_of_getElem? (i := 24) rfl))) (ty := (.object "java/math/BigDecimal")) (by decide)
        have f164 : Fld Z h156 b156 "com/example/closemark/closemark/tape/TapeRow" "qty" "J" (.long (0 : Int64)) := D156 (Or.inr (hw _ (List.mem_of_getElem? (i := 26) rfl))) (ty := .long) (by decide)
        show G (T156.setTop (mkF me_ 41 #[.val (.int p0), .val (.long p1), .second, .val (.int (0 : Int32)), .val (.int (0 : Int32)), .val (.int (0 : Int32)), .unset, .unset, .unset, .unset, .unset] [(.ref b156)]))
        refine gv (fun tQ kQ => XS.dup X156.here hx rfl (hb hby at_41) rfl rfl kQ) ?_
        show G (T156.setTop (mkF me_ 42 #[.val (.int p0), .val (.long p1), .second, .val (.int (0 : Int32)), .val (.int (0 : Int32)), .val (.int (0 : Int32)), .unset, .unset, .unset, .unset, .unset] [(.ref b156), (.ref b156)]))
        refine gv (fun tQ kQ => XS.aconstNull X156.here hx rfl (hb hby at_42) kQ) ?_
        show G (T156.setTop (mkF me_ 43 #[.val (.int p0), .val (.long p1), .second, .val (.int (0 : Int32)), .val (.int (0 : Int32)), .val (.int (0 : Int32)), .unset, .unset, .unset, .unset, .unset] [.null, (.ref b156), (.ref b156)]))
        refine gv (fun tQ kQ => XS.aconstNull X156.here hx rfl (hb hby at_43) kQ) ?_
        show G (T156.setTop (mkF me_ 44 #[.val (.int p0), .val (.long p1), .second, .val (.int (0 : Int32)), .val (.int (0 : Int32)), .val (.int (0 : Int32)), .unset, .unset, .unset, .unset, .unset] [.null, .null, (.ref b156), (.ref b156)]))
        obtain ⟨T165, X165, e165, st165⟩ := getS2 X156 hx hZ hown (host := "") (Or.inl (hw _ (List.mem_of_getElem? (i := 3) rfl))) Via.refl e156 (u0.ext O159.2) (g := (mkF me_ 44 #[.val (.int p0), .val (.long p1), .second, .val (.int (0 : Int32)), .val (.int (0 : Int32)), .val (.int (0 : Int32)), .unset, .unset, .unset, .unset, .unset] [.null, .null, (.ref b156), (.ref b156)])) rfl (hb hby at_44)
        refine gv st165 ?_
        show G (T165.setTop (mkF me_ 47 #[.val (.int p0), .val (.long p1), .second, .val (.int (0 : Int32)), .val (.int (0 : Int32)), .val (.int (0 : Int32)), .unset, .unset, .unset, .unset, .unset] [(.ref A_BID), .null, .null, (.ref b156), (.ref b156)]))
        refine gv (fun tQ kQ => XS.aconstNull X165.here hx rfl (hb hby at_47) kQ) ?_
        show G (T165.setTop (mkF me_ 48 #[.val (.int p0), .val (.long p1), .second, .val (.int (0 : Int32)), .val (.int (0 : Int32)), .val (.int (0 : Int32)), .unset, .unset, .unset, .unset, .unset] [.null, (.ref A_BID), .null, .null, (.ref b156), (.ref b156)]))
        refine gv (fun tQ kQ => XS.lloadN X165.here hx rfl (hb hby at_48) rfl kQ) ?_
        show G (T165.setTop (mkF me_ 49 #[.val (.int p0), .val (.long p1), .second, .val (.int (0 : Int32)), .val (.int (0 : Int32)), .val (.int (0 : Int32)), .unset, .unset, .unset, .unset, .unset] [(.long p1), .null, (.ref A_BID), .null, .null, (.ref b156), (.ref b156)]))
        obtain ⟨_, _, ⟨T166, L166, k166, n166⟩, -, X166, ⟨Lc166, hQ166, l166, y166, z166⟩, st166⟩ := X165.specialBack hx (y := (⟨"com/example/closemark/closemark/tape/TapeRow", "<init>", "(Ljava/time/Instant;Ljava/lang/String;Lcom/example/closemark/closemark/tape/TapeRow$Kind;Ljava/math/BigDecimal;J)V"⟩ : MethodName)) rfl hown (mvT hZ (hw _ (List.mem_of_getElem? (i := 6) rfl))) (mvT hZ (hw _ (List.mem_of_getElem? (i := 7) rfl))) (mvT hZ (hw _ (List.mem_of_getElem? (i := 8) rfl))) (by decide) (backOf (W := 1) (rm_tri l Z a0 hw [] b156 A_BID p1 h156 n0 O159 A156 f160 f161 f162 f163 f164 g157) hZ (hw _ (List.mem_of_getElem? (i := 8) rfl)) (hw _ (List.mem_of_getElem? (i := 2) rfl)) (by decide) (by decide)) (g := (mkF me_ 49 #[.val (.int p0), .val (.long p1), .second, .val (.int (0 : Int32)), .val (.int (0 : Int32)), .val (.int (0 : Int32)), .unset, .unset, .unset, .unset, .unset] [(.long p1), .null, (.ref A_BID), .null, .null, (.ref b156), (.ref b156)])) rfl (by rw [hml]; rfl) (Steps.refl _) (a := b156) (argsL := [.null, .null, (.ref A_BID), .null, (.long p1)]) (rest := [(.ref b156)]) (lenOf pd_4 rfl) rfl (by show 2 * 0 + _ ≤ _; exact Nat.le_of_eq rfl) (hb hby at_49) (fun _ _ => ⟨rfl, e165, (by decide : 1 + 0 ≤ _), (by decide : 5 + 0 ≤ _)⟩)
        dsimp only [Pt.U, Pt.locs, Pt.cells, Pt.slots] at X166 l166 y166 z166 st166 hQ166
        subst l166 y166 z166
        obtain ⟨rfl, Nq166, Kq166, w166_0, w166_1⟩ := hQ166
        have N167 := Fr.app N0 Nq166
        obtain ⟨h166, e166⟩ : ∃ z, T166.heap = z := ⟨_, rfl⟩
        rw [e166] at Kq166 w166_0 w166_1
        have f168 : Exa Z h166 b156 "com/example/closemark/closemark/tape/TapeRow" := A156.keep Kq166
        have O169 := O159.keep Kq166 (allS g157 all0)
        refine gv (fun tQ kQ => st166.trans kQ) ?_
        show G (T166.setTop (mkF me_ 52 #[.val (.int p0), .val (.long p1), .second, .val (.int (0 : Int32)), .val (.int (0 : Int32)), .val (.int (0 : Int32)), .unset, .unset, .unset, .unset, .unset] [(.ref b156)]))
        refine gv (fun tQ kQ => XS.astore X166.here hx rfl (hb hby at_52) rfl rfl (l' := #[.val (.int p0), .val (.long p1), .second, .val (.int (0 : Int32)), .val (.int (0 : Int32)), .val (.int (0 : Int32)), .val (.ref b156), .unset, .unset, .unset, .unset]) rfl kQ) ?_
        show G (T166.setTop (mkF me_ 54 #[.val (.int p0), .val (.long p1), .second, .val (.int (0 : Int32)), .val (.int (0 : Int32)), .val (.int (0 : Int32)), .val (.ref b156), .unset, .unset, .unset, .unset] []))
        obtain ⟨T170, h170, X170, e170, E170, A170, D170, -, st170⟩ := newO X166 hx hZ hown (hw _ (List.mem_of_getElem? (i := 0) rfl)) (hw _ (List.mem_of_getElem? (i := 1) rfl)) (hw _ (List.mem_of_getElem? (i := 2) rfl)) e166 (g := (mkF me_ 54 #[.val (.int p0), .val (.long p1), .second, .val (.int (0 : Int32)), .val (.int (0 : Int32)), .val (.int (0 : Int32)), .val (.ref b156), .unset, .unset, .unset, .unset] [])) rfl (hb hby at_54) (by decide) (by decide)
        obtain ⟨b170, g170⟩ : ∃ z, z = h166.size := ⟨_, rfl⟩
        rw [← g170] at A170 D170 st170
        refine gv st170 ?_
        have ne171 : b156 ≠ b170 := Nat.ne_of_lt (Nat.lt_of_lt_of_le w166_0.lt (Nat.le_of_eq g170.symm))
        have g172 : n0 ≤ b170 := Nat.le_trans (own_old O169) (Nat.le_of_eq g170.symm)
        have f174 : Exa Z h170 b156 "com/example/closemark/closemark/tape/TapeRow" := w166_0.ext E170
        have f175 : Fld Z h170 b156 "com/example/closemark/closemark/tape/TapeRow" "kind" "Lcom/example/closemark/closemark/tape/TapeRow$Kind;" (.ref A_BID) := w166_1.ext E170
        have O176 := O169.ext E170
        have f177 : Fld Z h170 b170 "com/example/closemark/closemark/tape/TapeRow" "time" "Ljava/time/Instant;" .null := D170 (Or.inr (hw _ (List.mem_of_getElem? (i := 18) rfl))) (ty := (.object "java/time/Instant")) (by decide)
        have f178 : Fld Z h170 b170 "com/example/closemark/closemark/tape/TapeRow" "symbol" "Ljava/lang/String;" .null := D170 (Or.inr (hw _ (List.mem_of_getElem? (i := 20) rfl))) (ty := (.object "java/lang/String")) (by decide)
        have f179 : Fld Z h170 b170 "com/example/closemark/closemark/tape/TapeRow" "kind" "Lcom/example/closemark/closemark/tape/TapeRow$Kind;" .null := D170 (Or.inr (hw _ (List.mem_of_getElem? (i := 22) rfl))) (ty := (.object "com/example/closemark/closemark/tape/TapeRow$Kind")) (by decide)
        have f180 : Fld Z h170 b170 "com/example/closemark/closemark/tape/TapeRow" "price" "Ljava/math/BigDecimal;" .null := D170 (Or.inr (hw _ (List.mem_of_getElem? (i := 24) rfl))) (ty := (.object "java/math/BigDecimal")) (by decide)
        have f181 : Fld Z h170 b170 "com/example/closemark/closemark/tape/TapeRow" "qty" "J" (.long (0 : Int64)) := D170 (Or.inr (hw _ (List.mem_of_getElem? (i := 26) rfl))) (ty := .long) (by decide)
        show G (T170.setTop (mkF me_ 57 #[.val (.int p0), .val (.long p1), .second, .val (.int (0 : Int32)), .val (.int (0 : Int32)), .val (.int (0 : Int32)), .val (.ref b156), .unset, .unset, .unset, .unset] [(.ref b170)]))
        refine gv (fun tQ kQ => XS.dup X170.here hx rfl (hb hby at_57) rfl rfl kQ) ?_
        show G (T170.setTop (mkF me_ 58 #[.val (.int p0), .val (.long p1), .second, .val (.int (0 : Int32)), .val (.int (0 : Int32)), .val (.int (0 : Int32)), .val (.ref b156), .unset, .unset, .unset, .unset] [(.ref b170), (.ref b170)]))
        refine gv (fun tQ kQ => XS.aconstNull X170.here hx rfl (hb hby at_58) kQ) ?_
        show G (T170.setTop (mkF me_ 59 #[.val (.int p0), .val (.long p1), .second, .val (.int (0 : Int32)), .val (.int (0 : Int32)), .val (.int (0 : Int32)), .val (.ref b156), .unset, .unset, .unset, .unset] [.null, (.ref b170), (.ref b170)]))
        refine gv (fun tQ kQ => XS.aconstNull X170.here hx rfl (hb hby at_59) kQ) ?_
        show G (T170.setTop (mkF me_ 60 #[.val (.int p0), .val (.long p1), .second, .val (.int (0 : Int32)), .val (.int (0 : Int32)), .val (.int (0 : Int32)), .val (.ref b156), .unset, .unset, .unset, .unset] [.null, .null, (.ref b170), (.ref b170)]))
        obtain ⟨T182, X182, e182, st182⟩ := getS2 X170 hx hZ hown (host := "") (Or.inl (hw _ (List.mem_of_getElem? (i := 27) rfl))) Via.refl e170 (u1.ext O176.2) (g := (mkF me_ 60 #[.val (.int p0), .val (.long p1), .second, .val (.int (0 : Int32)), .val (.int (0 : Int32)), .val (.int (0 : Int32)), .val (.ref b156), .unset, .unset, .unset, .unset] [.null, .null, (.ref b170), (.ref b170)])) rfl (hb hby at_60)
        refine gv st182 ?_
        show G (T182.setTop (mkF me_ 63 #[.val (.int p0), .val (.long p1), .second, .val (.int (0 : Int32)), .val (.int (0 : Int32)), .val (.int (0 : Int32)), .val (.ref b156), .unset, .unset, .unset, .unset] [(.ref A_ASK), .null, .null, (.ref b170), (.ref b170)]))
        refine gv (fun tQ kQ => XS.aconstNull X182.here hx rfl (hb hby at_63) kQ) ?_
        show G (T182.setTop (mkF me_ 64 #[.val (.int p0), .val (.long p1), .second, .val (.int (0 : Int32)), .val (.int (0 : Int32)), .val (.int (0 : Int32)), .val (.ref b156), .unset, .unset, .unset, .unset] [.null, (.ref A_ASK), .null, .null, (.ref b170), (.ref b170)]))
        refine gv (fun tQ kQ => XS.lloadN X182.here hx rfl (hb hby at_64) rfl kQ) ?_
        show G (T182.setTop (mkF me_ 65 #[.val (.int p0), .val (.long p1), .second, .val (.int (0 : Int32)), .val (.int (0 : Int32)), .val (.int (0 : Int32)), .val (.ref b156), .unset, .unset, .unset, .unset] [(.long p1), .null, (.ref A_ASK), .null, .null, (.ref b170), (.ref b170)]))
        obtain ⟨_, _, ⟨T183, L183, k183, n183⟩, -, X183, ⟨Lc183, hQ183, l183, y183, z183⟩, st183⟩ := X182.specialBack hx (y := (⟨"com/example/closemark/closemark/tape/TapeRow", "<init>", "(Ljava/time/Instant;Ljava/lang/String;Lcom/example/closemark/closemark/tape/TapeRow$Kind;Ljava/math/BigDecimal;J)V"⟩ : MethodName)) rfl hown (mvT hZ (hw _ (List.mem_of_getElem? (i := 6) rfl))) (mvT hZ (hw _ (List.mem_of_getElem? (i := 7) rfl))) (mvT hZ (hw _ (List.mem_of_getElem? (i := 8) rfl))) (by decide) (backOf (W := 1) (rm_tri l Z a0 hw [] b170 A_ASK p1 h170 n0 O176 A170 f177 f178 f179 f180 f181 g172) hZ (hw _ (List.mem_of_getElem? (i := 8) rfl)) (hw _ (List.mem_of_getElem? (i := 2) rfl)) (by decide) (by decide)) (g := (mkF me_ 65 #[.val (.int p0), .val (.long p1), .second, .val (.int (0 : Int32)), .val (.int (0 : Int32)), .val (.int (0 : Int32)), .val (.ref b156), .unset, .unset, .unset, .unset] [(.long p1), .null, (.ref A_ASK), .null, .null, (.ref b170), (.ref b170)])) rfl (by rw [hml]; rfl) (Steps.refl _) (a := b170) (argsL := [.null, .null, (.ref A_ASK), .null, (.long p1)]) (rest := [(.ref b170)]) (lenOf pd_4 rfl) rfl (by show 2 * 0 + _ ≤ _; exact Nat.le_of_eq rfl) (hb hby at_65) (fun _ _ => ⟨rfl, e182, (by decide : 2 + 0 ≤ _), (by decide : 10 + 0 ≤ _)⟩)
        dsimp only [Pt.U, Pt.locs, Pt.cells, Pt.slots] at X183 l183 y183 z183 st183 hQ183
        subst l183 y183 z183
        obtain ⟨rfl, Nq183, Kq183, w183_0, w183_1⟩ := hQ183
        have N184 := Fr.app N167 Nq183
        obtain ⟨h183, e183⟩ : ∃ z, T183.heap = z := ⟨_, rfl⟩
        rw [e183] at Kq183 w183_0 w183_1
        have f185 : Exa Z h183 b156 "com/example/closemark/closemark/tape/TapeRow" := f174.keep Kq183
        have f186 : Fld Z h183 b156 "com/example/closemark/closemark/tape/TapeRow" "kind" "Lcom/example/closemark/closemark/tape/TapeRow$Kind;" (.ref A_BID) := f175.keep Kq183 (ninS ne171 nin0)
        have f187 : Exa Z h183 b170 "com/example/closemark/closemark/tape/TapeRow" := A170.keep Kq183
        have O188 := O176.keep Kq183 (allS g172 all0)
        refine gv (fun tQ kQ => st183.trans kQ) ?_
        show G (T183.setTop (mkF me_ 68 #[.val (.int p0), .val (.long p1), .second, .val (.int (0 : Int32)), .val (.int (0 : Int32)), .val (.int (0 : Int32)), .val (.ref b156), .unset, .unset, .unset, .unset] [(.ref b170)]))
        refine gv (fun tQ kQ => XS.astore X183.here hx rfl (hb hby at_68) rfl rfl (l' := #[.val (.int p0), .val (.long p1), .second, .val (.int (0 : Int32)), .val (.int (0 : Int32)), .val (.int (0 : Int32)), .val (.ref b156), .val (.ref b170), .unset, .unset, .unset]) rfl kQ) ?_
        show G (T183.setTop (mkF me_ 70 #[.val (.int p0), .val (.long p1), .second, .val (.int (0 : Int32)), .val (.int (0 : Int32)), .val (.int (0 : Int32)), .val (.ref b156), .val (.ref b170), .unset, .unset, .unset] []))
        obtain ⟨T189, h189, X189, e189, E189, A189, D189, -, st189⟩ := newO X183 hx hZ hown (hw _ (List.mem_of_getElem? (i := 29) rfl)) (hw _ (List.mem_of_getElem? (i := 30) rfl)) (hw _ (List.mem_of_getElem? (i := 31) rfl)) e183 (g := (mkF me_ 70 #[.val (.int p0), .val (.long p1), .second, .val (.int (0 : Int32)), .val (.int (0 : Int32)), .val (.int (0 : Int32)), .val (.ref b156), .val (.ref b170), .unset, .unset, .unset] [])) rfl (hb hby at_70) (by decide) (by decide)
        obtain ⟨b189, g189⟩ : ∃ z, z = h183.size := ⟨_, rfl⟩
        rw [← g189] at A189 D189 st189
        refine gv st189 ?_
        have ne190 : b156 ≠ b189 := Nat.ne_of_lt (Nat.lt_of_lt_of_le f185.lt (Nat.le_of_eq g189.symm))
        have ne191 : b170 ≠ b189 := Nat.ne_of_lt (Nat.lt_of_lt_of_le w183_0.lt (Nat.le_of_eq g189.symm))
        have g192 : n0 ≤ b189 := Nat.le_trans (own_old O188) (Nat.le_of_eq g189.symm)
        have f194 : Exa Z h189 b156 "com/example/closemark/closemark/tape/TapeRow" := f185.ext E189
        have f195 : Fld Z h189 b156 "com/example/closemark/closemark/tape/TapeRow" "kind" "Lcom/example/closemark/closemark/tape/TapeRow$Kind;" (.ref A_BID) := f186.ext E189
        have f196 : Exa Z h189 b170 "com/example/closemark/closemark/tape/TapeRow" := w183_0.ext E189
        have f197 : Fld Z h189 b170 "com/example/closemark/closemark/tape/TapeRow" "kind" "Lcom/example/closemark/closemark/tape/TapeRow$Kind;" (.ref A_ASK) := w183_1.ext E189
        have O198 := O188.ext E189
        have f199 : Fld Z h189 b189 "com/example/closemark/closemark/prices/StandingQuotes" "bid" "Lcom/example/closemark/closemark/prices/LatestRow;" .null := D189 (Or.inr (hw _ (List.mem_of_getElem? (i := 44) rfl))) (ty := (.object "com/example/closemark/closemark/prices/LatestRow")) (by decide)
        have f200 : Fld Z h189 b189 "com/example/closemark/closemark/prices/StandingQuotes" "ask" "Lcom/example/closemark/closemark/prices/LatestRow;" .null := D189 (Or.inr (hw _ (List.mem_of_getElem? (i := 46) rfl))) (ty := (.object "com/example/closemark/closemark/prices/LatestRow")) (by decide)
        show G (T189.setTop (mkF me_ 73 #[.val (.int p0), .val (.long p1), .second, .val (.int (0 : Int32)), .val (.int (0 : Int32)), .val (.int (0 : Int32)), .val (.ref b156), .val (.ref b170), .unset, .unset, .unset] [(.ref b189)]))
        refine gv (fun tQ kQ => XS.dup X189.here hx rfl (hb hby at_73) rfl rfl kQ) ?_
        show G (T189.setTop (mkF me_ 74 #[.val (.int p0), .val (.long p1), .second, .val (.int (0 : Int32)), .val (.int (0 : Int32)), .val (.int (0 : Int32)), .val (.ref b156), .val (.ref b170), .unset, .unset, .unset] [(.ref b189), (.ref b189)]))
        obtain ⟨_, _, ⟨T201, L201, k201, n201⟩, -, X201, ⟨Lc201, hQ201, l201, y201, z201⟩, st201⟩ := X189.specialBack hx (y := (⟨"com/example/closemark/closemark/prices/StandingQuotes", "<init>", "()V"⟩ : MethodName)) rfl hown (mvT hZ (hw _ (List.mem_of_getElem? (i := 32) rfl))) (mvT hZ (hw _ (List.mem_of_getElem? (i := 33) rfl))) (mvT hZ (hw _ (List.mem_of_getElem? (i := 34) rfl))) (by decide) (backOf (W := 1) (rm_sqi l Z a0 hw [] b189 h189 n0 O198 A189 f199 f200 g192) hZ (hw _ (List.mem_of_getElem? (i := 34) rfl)) (hw _ (List.mem_of_getElem? (i := 31) rfl)) (by decide) (by decide)) (g := (mkF me_ 74 #[.val (.int p0), .val (.long p1), .second, .val (.int (0 : Int32)), .val (.int (0 : Int32)), .val (.int (0 : Int32)), .val (.ref b156), .val (.ref b170), .unset, .unset, .unset] [(.ref b189), (.ref b189)])) rfl (by rw [hml]; rfl) (Steps.refl _) (a := b189) (argsL := []) (rest := [(.ref b189)]) (lenOf pd_0 rfl) rfl (by show 2 * 0 + _ ≤ _; exact Nat.le_of_eq rfl) (hb hby at_74) (fun _ _ => ⟨rfl, e189, (by decide : 3 + 2 ≤ _), (by decide : 12 + 2 ≤ _)⟩)
        dsimp only [Pt.U, Pt.locs, Pt.cells, Pt.slots] at X201 l201 y201 z201 st201 hQ201
        subst l201 y201 z201
        obtain ⟨x_201, y_201, rfl, Nq201, Kq201, w201_0, w201_1, w201_2, w201_3, w201_4, w201_5, w201_6, w201_7, w201_8, w201_9⟩ := hQ201
        have N202 := Fr.app N184 Nq201
        obtain ⟨h201, e201⟩ : ∃ z, T201.heap = z := ⟨_, rfl⟩
        rw [e201] at Kq201 w201_3 w201_4 w201_5 w201_6 w201_7 w201_8 w201_9
        have ne203 : b156 ≠ x_201 := Nat.ne_of_lt (Nat.lt_of_lt_of_le f194.lt w201_0)
        have ne204 : b170 ≠ x_201 := Nat.ne_of_lt (Nat.lt_of_lt_of_le f196.lt w201_0)
        have ne205 : b189 ≠ x_201 := Nat.ne_of_lt (Nat.lt_of_lt_of_le A189.lt w201_0)
        have g206 : n0 ≤ x_201 := Nat.le_trans (own_old O198) w201_0
        have ne208 : b156 ≠ y_201 := Nat.ne_of_lt (Nat.lt_of_lt_of_le f194.lt w201_1)
        have ne209 : b170 ≠ y_201 := Nat.ne_of_lt (Nat.lt_of_lt_of_le f196.lt w201_1)
        have ne210 : b189 ≠ y_201 := Nat.ne_of_lt (Nat.lt_of_lt_of_le A189.lt w201_1)
        have g211 : n0 ≤ y_201 := Nat.le_trans (own_old O198) w201_1
        have f213 : Exa Z h201 b156 "com/example/closemark/closemark/tape/TapeRow" := f194.keep Kq201
        have f214 : Fld Z h201 b156 "com/example/closemark/closemark/tape/TapeRow" "kind" "Lcom/example/closemark/closemark/tape/TapeRow$Kind;" (.ref A_BID) := f195.keep Kq201 (ninS ne190 nin0)
        have f215 : Exa Z h201 b170 "com/example/closemark/closemark/tape/TapeRow" := f196.keep Kq201
        have f216 : Fld Z h201 b170 "com/example/closemark/closemark/tape/TapeRow" "kind" "Lcom/example/closemark/closemark/tape/TapeRow$Kind;" (.ref A_ASK) := f197.keep Kq201 (ninS ne191 nin0)
        have f217 : Exa Z h201 b189 "com/example/closemark/closemark/prices/StandingQuotes" := A189.keep Kq201
        have O218 := O198.keep Kq201 (allS g192 all0)
        refine gv (fun tQ kQ => st201.trans kQ) ?_
        show G (T201.setTop (mkF me_ 77 #[.val (.int p0), .val (.long p1), .second, .val (.int (0 : Int32)), .val (.int (0 : Int32)), .val (.int (0 : Int32)), .val (.ref b156), .val (.ref b170), .unset, .unset, .unset] [(.ref b189)]))
        refine gv (fun tQ kQ => XS.astore X201.here hx rfl (hb hby at_77) rfl rfl (l' := #[.val (.int p0), .val (.long p1), .second, .val (.int (0 : Int32)), .val (.int (0 : Int32)), .val (.int (0 : Int32)), .val (.ref b156), .val (.ref b170), .val (.ref b189), .unset, .unset]) rfl kQ) ?_
        show G (T201.setTop (mkF me_ 79 #[.val (.int p0), .val (.long p1), .second, .val (.int (0 : Int32)), .val (.int (0 : Int32)), .val (.int (0 : Int32)), .val (.ref b156), .val (.ref b170), .val (.ref b189), .unset, .unset] []))
        refine gv (fun tQ kQ => XS.aload X201.here hx rfl (hb hby at_79) rfl rfl kQ) ?_
        show G (T201.setTop (mkF me_ 81 #[.val (.int p0), .val (.long p1), .second, .val (.int (0 : Int32)), .val (.int (0 : Int32)), .val (.int (0 : Int32)), .val (.ref b156), .val (.ref b170), .val (.ref b189), .unset, .unset] [(.ref b189)]))
        obtain ⟨cq219, kq219, q219a, q219b, q219c⟩ := isOf hZ e201 w201_3
        obtain ⟨_, _, ⟨T219, L219, k219, n219⟩, -, X219, ⟨Lc219, hQ219, l219, y219, z219⟩, st219⟩ := X201.virtualBack hx (y := (⟨"com/example/closemark/closemark/prices/StandingQuotes", "hasBidAndAsk", "()Z"⟩ : MethodName)) (z := (⟨"com/example/closemark/closemark/prices/StandingQuotes", "hasBidAndAsk", "()Z"⟩ : MethodName)) hown (mvT hZ (hw _ (List.mem_of_getElem? (i := 47) rfl))) (mvT hZ (hw _ (List.mem_of_getElem? (i := 48) rfl))) (notFace_of_selects (args := #[]) (mvT hZ (hw _ (List.mem_of_getElem? (i := 50) rfl)))) (mvT hZ (hw _ (List.mem_of_getElem? (i := 50) rfl))) (mvT hZ (hw _ (List.mem_of_getElem? (i := 49) rfl))) (by decide) (backOf (W := 0) (rm_hb0 l Z a0 hw [] b189 x_201 h201 n0 O218 w201_4 w201_6 w201_8) hZ (hw _ (List.mem_of_getElem? (i := 51) rfl)) (hw _ (List.mem_of_getElem? (i := 31) rfl)) (by decide) (by decide)) q219a q219c (g := (mkF me_ 81 #[.val (.int p0), .val (.long p1), .second, .val (.int (0 : Int32)), .val (.int (0 : Int32)), .val (.int (0 : Int32)), .val (.ref b156), .val (.ref b170), .val (.ref b189), .unset, .unset] [(.ref b189)])) rfl (by rw [hml]; rfl) (Steps.refl _) (argsL := []) (rest := []) (lenOf pd_5 rfl) rfl (by show 2 * 0 + _ ≤ _; exact Nat.le_of_eq rfl) (hb hby at_81) (fun _ _ => ⟨rfl, e201, (by decide : 5 + 0 ≤ _), (by decide : 14 + 0 ≤ _)⟩)
        dsimp only [Pt.U, Pt.locs, Pt.cells, Pt.slots] at X219 l219 y219 z219 st219 hQ219
        subst l219 y219 z219
        obtain ⟨rfl, Nq219, eq219⟩ := hQ219
        have N220 := Fr.app N202 Nq219
        refine gv (fun tQ kQ => st219.trans kQ) ?_
        show G (T219.setTop (mkF me_ 84 #[.val (.int p0), .val (.long p1), .second, .val (.int (0 : Int32)), .val (.int (0 : Int32)), .val (.int (0 : Int32)), .val (.ref b156), .val (.ref b170), .val (.ref b189), .unset, .unset] [(.int (0 : Int32))]))
        refine gv (fun tQ kQ => XS.ifNo X219.here hx rfl (hb hby at_84) rfl ((if0 _ _).trans (teq (by decide : (0 : Int32) = (0 : Int32))).2) kQ) ?_
        show G (T219.setTop (mkF me_ 87 #[.val (.int p0), .val (.long p1), .second, .val (.int (0 : Int32)), .val (.int (0 : Int32)), .val (.int (0 : Int32)), .val (.ref b156), .val (.ref b170), .val (.ref b189), .unset, .unset] []))
        refine gv (fun tQ kQ => XS.iconst X219.here hx rfl (hb hby at_87) kQ) ?_
        show G (T219.setTop (mkF me_ 88 #[.val (.int p0), .val (.long p1), .second, .val (.int (0 : Int32)), .val (.int (0 : Int32)), .val (.int (0 : Int32)), .val (.ref b156), .val (.ref b170), .val (.ref b189), .unset, .unset] [(.int (1 : Int32))]))
        refine gv (fun tQ kQ => XS.goto X219.here hx rfl (pc0 := 88) (pc' := 92) rfl (hb hby at_88) (by decide) (by decide) kQ) ?_
        show G (T219.setTop (mkF me_ 92 #[.val (.int p0), .val (.long p1), .second, .val (.int (0 : Int32)), .val (.int (0 : Int32)), .val (.int (0 : Int32)), .val (.ref b156), .val (.ref b170), .val (.ref b189), .unset, .unset] [(.int (1 : Int32))]))
        refine gv (fun tQ kQ => XS.istore X219.here hx rfl (hb hby at_92) rfl (l' := #[.val (.int p0), .val (.long p1), .second, .val (.int (0 : Int32)), .val (.int (0 : Int32)), .val (.int (0 : Int32)), .val (.ref b156), .val (.ref b170), .val (.ref b189), .val (.int (1 : Int32)), .unset]) rfl kQ) ?_
        show G (T219.setTop (mkF me_ 94 #[.val (.int p0), .val (.long p1), .second, .val (.int (0 : Int32)), .val (.int (0 : Int32)), .val (.int (0 : Int32)), .val (.ref b156), .val (.ref b170), .val (.ref b189), .val (.int (1 : Int32)), .unset] []))
        refine gv (fun tQ kQ => XS.iload X219.here hx rfl (hb hby at_94) rfl kQ) ?_
        show G (T219.setTop (mkF me_ 96 #[.val (.int p0), .val (.long p1), .second, .val (.int (0 : Int32)), .val (.int (0 : Int32)), .val (.int (0 : Int32)), .val (.ref b156), .val (.ref b170), .val (.ref b189), .val (.int (1 : Int32)), .unset] [(.int (0 : Int32))]))
        refine gv (fun tQ kQ => XS.ifYes X219.here hx rfl (pc0 := 96) (pc' := 145) rfl (hb hby at_96) rfl ((if0 _ _).trans (teq (by decide : (0 : Int32) = (0 : Int32))).1) (by decide) (by decide) kQ) ?_
        show G (T219.setTop (mkF me_ 145 #[.val (.int p0), .val (.long p1), .second, .val (.int (0 : Int32)), .val (.int (0 : Int32)), .val (.int (0 : Int32)), .val (.ref b156), .val (.ref b170), .val (.ref b189), .val (.int (1 : Int32)), .unset] []))
        refine gv (fun tQ kQ => XS.iloadN X219.here hx rfl (hb hby at_145) rfl kQ) ?_
        show G (T219.setTop (mkF me_ 146 #[.val (.int p0), .val (.long p1), .second, .val (.int (0 : Int32)), .val (.int (0 : Int32)), .val (.int (0 : Int32)), .val (.ref b156), .val (.ref b170), .val (.ref b189), .val (.int (1 : Int32)), .unset] [(.int (0 : Int32))]))
        refine gv (fun tQ kQ => XS.ifYes X219.here hx rfl (pc0 := 146) (pc' := 156) rfl (hb hby at_146) rfl ((if0 _ _).trans (teq (by decide : (0 : Int32) = (0 : Int32))).1) (by decide) (by decide) kQ) ?_
        show G (T219.setTop (mkF me_ 156 #[.val (.int p0), .val (.long p1), .second, .val (.int (0 : Int32)), .val (.int (0 : Int32)), .val (.int (0 : Int32)), .val (.ref b156), .val (.ref b170), .val (.ref b189), .val (.int (1 : Int32)), .unset] []))
        refine gv (fun tQ kQ => XS.iload X219.here hx rfl (hb hby at_156) rfl kQ) ?_
        show G (T219.setTop (mkF me_ 158 #[.val (.int p0), .val (.long p1), .second, .val (.int (0 : Int32)), .val (.int (0 : Int32)), .val (.int (0 : Int32)), .val (.ref b156), .val (.ref b170), .val (.ref b189), .val (.int (1 : Int32)), .unset] [(.int (1 : Int32))]))
        refine gv (fun tQ kQ => XS.ifNo X219.here hx rfl (hb hby at_158) rfl ((if0 _ _).trans (feq (by decide : ¬ ((1 : Int32) = (0 : Int32)))).1) kQ) ?_
        show G (T219.setTop (mkF me_ 161 #[.val (.int p0), .val (.long p1), .second, .val (.int (0 : Int32)), .val (.int (0 : Int32)), .val (.int (0 : Int32)), .val (.ref b156), .val (.ref b170), .val (.ref b189), .val (.int (1 : Int32)), .unset] []))
        refine gv (fun tQ kQ => XS.aload X219.here hx rfl (hb hby at_161) rfl rfl kQ) ?_
        show G (T219.setTop (mkF me_ 163 #[.val (.int p0), .val (.long p1), .second, .val (.int (0 : Int32)), .val (.int (0 : Int32)), .val (.int (0 : Int32)), .val (.ref b156), .val (.ref b170), .val (.ref b189), .val (.int (1 : Int32)), .unset] [(.ref b189)]))
        obtain ⟨cq221, kq221, q221a, q221b, q221c⟩ := isOf hZ eq219 w201_3
        obtain ⟨_, _, ⟨T221, L221, k221, n221⟩, -, X221, ⟨Lc221, hQ221, l221, y221, z221⟩, st221⟩ := X219.virtualBack hx (y := (⟨"com/example/closemark/closemark/prices/StandingQuotes", "hasBidAndAsk", "()Z"⟩ : MethodName)) (z := (⟨"com/example/closemark/closemark/prices/StandingQuotes", "hasBidAndAsk", "()Z"⟩ : MethodName)) hown (mvT hZ (hw _ (List.mem_of_getElem? (i := 47) rfl))) (mvT hZ (hw _ (List.mem_of_getElem? (i := 48) rfl))) (notFace_of_selects (args := #[]) (mvT hZ (hw _ (List.mem_of_getElem? (i := 50) rfl)))) (mvT hZ (hw _ (List.mem_of_getElem? (i := 50) rfl))) (mvT hZ (hw _ (List.mem_of_getElem? (i := 49) rfl))) (by decide) (backOf (W := 0) (rm_hb0 l Z a0 hw [] b189 x_201 h201 n0 O218 w201_4 w201_6 w201_8) hZ (hw _ (List.mem_of_getElem? (i := 51) rfl)) (hw _ (List.mem_of_getElem? (i := 31) rfl)) (by decide) (by decide)) q221a q221c (g := (mkF me_ 163 #[.val (.int p0), .val (.long p1), .second, .val (.int (0 : Int32)), .val (.int (0 : Int32)), .val (.int (0 : Int32)), .val (.ref b156), .val (.ref b170), .val (.ref b189), .val (.int (1 : Int32)), .unset] [(.ref b189)])) rfl (by rw [hml]; rfl) (Steps.refl _) (argsL := []) (rest := []) (lenOf pd_5 rfl) rfl (by show 2 * 0 + _ ≤ _; exact Nat.le_of_eq rfl) (hb hby at_163) (fun _ _ => ⟨rfl, eq219, (by decide : 5 + 0 ≤ _), (by decide : 14 + 0 ≤ _)⟩)
        dsimp only [Pt.U, Pt.locs, Pt.cells, Pt.slots] at X221 l221 y221 z221 st221 hQ221
        subst l221 y221 z221
        obtain ⟨rfl, Nq221, eq221⟩ := hQ221
        have N222 := Fr.app N220 Nq221
        refine gv (fun tQ kQ => st221.trans kQ) ?_
        show G (T221.setTop (mkF me_ 166 #[.val (.int p0), .val (.long p1), .second, .val (.int (0 : Int32)), .val (.int (0 : Int32)), .val (.int (0 : Int32)), .val (.ref b156), .val (.ref b170), .val (.ref b189), .val (.int (1 : Int32)), .unset] [(.int (0 : Int32))]))
        refine gv (fun tQ kQ => XS.ifNo X221.here hx rfl (hb hby at_166) rfl ((if0 _ _).trans (teq (by decide : (0 : Int32) = (0 : Int32))).2) kQ) ?_
        show G (T221.setTop (mkF me_ 169 #[.val (.int p0), .val (.long p1), .second, .val (.int (0 : Int32)), .val (.int (0 : Int32)), .val (.int (0 : Int32)), .val (.ref b156), .val (.ref b170), .val (.ref b189), .val (.int (1 : Int32)), .unset] []))
        refine gv (fun tQ kQ => XS.iconst X221.here hx rfl (hb hby at_169) kQ) ?_
        show G (T221.setTop (mkF me_ 170 #[.val (.int p0), .val (.long p1), .second, .val (.int (0 : Int32)), .val (.int (0 : Int32)), .val (.int (0 : Int32)), .val (.ref b156), .val (.ref b170), .val (.ref b189), .val (.int (1 : Int32)), .unset] [(.int (1 : Int32))]))
        refine gv (fun tQ kQ => XS.goto X221.here hx rfl (pc0 := 170) (pc' := 174) rfl (hb hby at_170) (by decide) (by decide) kQ) ?_
        show G (T221.setTop (mkF me_ 174 #[.val (.int p0), .val (.long p1), .second, .val (.int (0 : Int32)), .val (.int (0 : Int32)), .val (.int (0 : Int32)), .val (.ref b156), .val (.ref b170), .val (.ref b189), .val (.int (1 : Int32)), .unset] [(.int (1 : Int32))]))
        refine gv (fun tQ kQ => XS.istore X221.here hx rfl (hb hby at_174) rfl (l' := #[.val (.int p0), .val (.long p1), .second, .val (.int (0 : Int32)), .val (.int (0 : Int32)), .val (.int (0 : Int32)), .val (.ref b156), .val (.ref b170), .val (.ref b189), .val (.int (1 : Int32)), .unset]) rfl kQ) ?_
        show G (T221.setTop (mkF me_ 176 #[.val (.int p0), .val (.long p1), .second, .val (.int (0 : Int32)), .val (.int (0 : Int32)), .val (.int (0 : Int32)), .val (.ref b156), .val (.ref b170), .val (.ref b189), .val (.int (1 : Int32)), .unset] []))
        refine gv (fun tQ kQ => XS.iload X221.here hx rfl (hb hby at_176) rfl kQ) ?_
        show G (T221.setTop (mkF me_ 178 #[.val (.int p0), .val (.long p1), .second, .val (.int (0 : Int32)), .val (.int (0 : Int32)), .val (.int (0 : Int32)), .val (.ref b156), .val (.ref b170), .val (.ref b189), .val (.int (1 : Int32)), .unset] [(.int (0 : Int32))]))
        refine gv (fun tQ kQ => XS.ifYes X221.here hx rfl (pc0 := 178) (pc' := 188) rfl (hb hby at_178) rfl ((if0 _ _).trans (teq (by decide : (0 : Int32) = (0 : Int32))).1) (by decide) (by decide) kQ) ?_
        show G (T221.setTop (mkF me_ 188 #[.val (.int p0), .val (.long p1), .second, .val (.int (0 : Int32)), .val (.int (0 : Int32)), .val (.int (0 : Int32)), .val (.ref b156), .val (.ref b170), .val (.ref b189), .val (.int (1 : Int32)), .unset] []))
        refine gv (fun tQ kQ => XS.iloadN X221.here hx rfl (hb hby at_188) rfl kQ) ?_
        show G (T221.setTop (mkF me_ 189 #[.val (.int p0), .val (.long p1), .second, .val (.int (0 : Int32)), .val (.int (0 : Int32)), .val (.int (0 : Int32)), .val (.ref b156), .val (.ref b170), .val (.ref b189), .val (.int (1 : Int32)), .unset] [(.int (0 : Int32))]))
        refine gv (fun tQ kQ => XS.ifYes X221.here hx rfl (pc0 := 189) (pc' := 201) rfl (hb hby at_189) rfl ((if0 _ _).trans (teq (by decide : (0 : Int32) = (0 : Int32))).1) (by decide) (by decide) kQ) ?_
        show G (T221.setTop (mkF me_ 201 #[.val (.int p0), .val (.long p1), .second, .val (.int (0 : Int32)), .val (.int (0 : Int32)), .val (.int (0 : Int32)), .val (.ref b156), .val (.ref b170), .val (.ref b189), .val (.int (1 : Int32)), .unset] []))
        refine gv (fun tQ kQ => XS.iconst X221.here hx rfl (hb hby at_201) kQ) ?_
        show G (T221.setTop (mkF me_ 202 #[.val (.int p0), .val (.long p1), .second, .val (.int (0 : Int32)), .val (.int (0 : Int32)), .val (.int (0 : Int32)), .val (.ref b156), .val (.ref b170), .val (.ref b189), .val (.int (1 : Int32)), .unset] [(.int (0 : Int32))]))
        refine gv (fun tQ kQ => XS.istore X221.here hx rfl (hb hby at_202) rfl (l' := #[.val (.int p0), .val (.long p1), .second, .val (.int (0 : Int32)), .val (.int (0 : Int32)), .val (.int (0 : Int32)), .val (.ref b156), .val (.ref b170), .val (.ref b189), .val (.int (1 : Int32)), .val (.int (0 : Int32))]) rfl kQ) ?_
        show G (T221.setTop (mkF me_ 204 #[.val (.int p0), .val (.long p1), .second, .val (.int (0 : Int32)), .val (.int (0 : Int32)), .val (.int (0 : Int32)), .val (.ref b156), .val (.ref b170), .val (.ref b189), .val (.int (1 : Int32)), .val (.int (0 : Int32))] []))
        refine gv (fun tQ kQ => XS.iload X221.here hx rfl (hb hby at_204) rfl kQ) ?_
        show G (T221.setTop (mkF me_ 206 #[.val (.int p0), .val (.long p1), .second, .val (.int (0 : Int32)), .val (.int (0 : Int32)), .val (.int (0 : Int32)), .val (.ref b156), .val (.ref b170), .val (.ref b189), .val (.int (1 : Int32)), .val (.int (0 : Int32))] [(.int (1 : Int32))]))
        refine gv (fun tQ kQ => XS.ifNo X221.here hx rfl (hb hby at_206) rfl ((if0 _ _).trans (feq (by decide : ¬ ((1 : Int32) = (0 : Int32)))).1) kQ) ?_
        show G (T221.setTop (mkF me_ 209 #[.val (.int p0), .val (.long p1), .second, .val (.int (0 : Int32)), .val (.int (0 : Int32)), .val (.int (0 : Int32)), .val (.ref b156), .val (.ref b170), .val (.ref b189), .val (.int (1 : Int32)), .val (.int (0 : Int32))] []))
        refine gv (fun tQ kQ => XS.aload X221.here hx rfl (hb hby at_209) rfl rfl kQ) ?_
        show G (T221.setTop (mkF me_ 211 #[.val (.int p0), .val (.long p1), .second, .val (.int (0 : Int32)), .val (.int (0 : Int32)), .val (.int (0 : Int32)), .val (.ref b156), .val (.ref b170), .val (.ref b189), .val (.int (1 : Int32)), .val (.int (0 : Int32))] [(.ref b189)]))
        obtain ⟨cq223, kq223, q223a, q223b, q223c⟩ := isOf hZ eq221 w201_3
        obtain ⟨_, _, ⟨T223, L223, k223, n223⟩, -, X223, ⟨Lc223, hQ223, l223, y223, z223⟩, st223⟩ := X221.virtualBack hx (y := (⟨"com/example/closemark/closemark/prices/StandingQuotes", "hasBidAndAsk", "()Z"⟩ : MethodName)) (z := (⟨"com/example/closemark/closemark/prices/StandingQuotes", "hasBidAndAsk", "()Z"⟩ : MethodName)) hown (mvT hZ (hw _ (List.mem_of_getElem? (i := 47) rfl))) (mvT hZ (hw _ (List.mem_of_getElem? (i := 48) rfl))) (notFace_of_selects (args := #[]) (mvT hZ (hw _ (List.mem_of_getElem? (i := 50) rfl)))) (mvT hZ (hw _ (List.mem_of_getElem? (i := 50) rfl))) (mvT hZ (hw _ (List.mem_of_getElem? (i := 49) rfl))) (by decide) (backOf (W := 0) (rm_hb0 l Z a0 hw [] b189 x_201 h201 n0 O218 w201_4 w201_6 w201_8) hZ (hw _ (List.mem_of_getElem? (i := 51) rfl)) (hw _ (List.mem_of_getElem? (i := 31) rfl)) (by decide) (by decide)) q223a q223c (g := (mkF me_ 211 #[.val (.int p0), .val (.long p1), .second, .val (.int (0 : Int32)), .val (.int (0 : Int32)), .val (.int (0 : Int32)), .val (.ref b156), .val (.ref b170), .val (.ref b189), .val (.int (1 : Int32)), .val (.int (0 : Int32))] [(.ref b189)])) rfl (by rw [hml]; rfl) (Steps.refl _) (argsL := []) (rest := []) (lenOf pd_5 rfl) rfl (by show 2 * 0 + _ ≤ _; exact Nat.le_of_eq rfl) (hb hby at_211) (fun _ _ => ⟨rfl, eq221, (by decide : 5 + 0 ≤ _), (by decide : 14 + 0 ≤ _)⟩)
        dsimp only [Pt.U, Pt.locs, Pt.cells, Pt.slots] at X223 l223 y223 z223 st223 hQ223
        subst l223 y223 z223
        obtain ⟨rfl, Nq223, eq223⟩ := hQ223
        have N224 := Fr.app N222 Nq223
        refine gv (fun tQ kQ => st223.trans kQ) ?_
        show G (T223.setTop (mkF me_ 214 #[.val (.int p0), .val (.long p1), .second, .val (.int (0 : Int32)), .val (.int (0 : Int32)), .val (.int (0 : Int32)), .val (.ref b156), .val (.ref b170), .val (.ref b189), .val (.int (1 : Int32)), .val (.int (0 : Int32))] [(.int (0 : Int32))]))
        refine gv (fun tQ kQ => XS.iload X223.here hx rfl (hb hby at_214) rfl kQ) ?_
        show G (T223.setTop (mkF me_ 216 #[.val (.int p0), .val (.long p1), .second, .val (.int (0 : Int32)), .val (.int (0 : Int32)), .val (.int (0 : Int32)), .val (.ref b156), .val (.ref b170), .val (.ref b189), .val (.int (1 : Int32)), .val (.int (0 : Int32))] [(.int (0 : Int32)), (.int (0 : Int32))]))
        refine gv (fun tQ kQ => XS.icmpNo X223.here hx rfl (hb hby at_216) rfl (teq (by decide : (0 : Int32) = (0 : Int32))).2 kQ) ?_
        show G (T223.setTop (mkF me_ 219 #[.val (.int p0), .val (.long p1), .second, .val (.int (0 : Int32)), .val (.int (0 : Int32)), .val (.int (0 : Int32)), .val (.ref b156), .val (.ref b170), .val (.ref b189), .val (.int (1 : Int32)), .val (.int (0 : Int32))] []))
        refine gv (fun tQ kQ => XS.iconst X223.here hx rfl (hb hby at_219) kQ) ?_
        show G (T223.setTop (mkF me_ 220 #[.val (.int p0), .val (.long p1), .second, .val (.int (0 : Int32)), .val (.int (0 : Int32)), .val (.int (0 : Int32)), .val (.ref b156), .val (.ref b170), .val (.ref b189), .val (.int (1 : Int32)), .val (.int (0 : Int32))] [(.int (1 : Int32))]))
        refine gv (fun tQ kQ => XS.goto X223.here hx rfl (pc0 := 220) (pc' := 224) rfl (hb hby at_220) (by decide) (by decide) kQ) ?_
        show G (T223.setTop (mkF me_ 224 #[.val (.int p0), .val (.long p1), .second, .val (.int (0 : Int32)), .val (.int (0 : Int32)), .val (.int (0 : Int32)), .val (.ref b156), .val (.ref b170), .val (.ref b189), .val (.int (1 : Int32)), .val (.int (0 : Int32))] [(.int (1 : Int32))]))
        refine gf _ (own_ret X223 Bd.notSynchronized (v := some (.int (1 : Int32))) (fun h => by rw [Bd.returns] at h; cases h) ?_ (by decide) (by decide) (fun fs hr => retN X223 hx (t := .boolean) Bd.returns (by simp) (hb hby at_224) hr))
        show Q0 Z p0 p1 A_BID A_ASK h0 n0 _ T223.heap _
        rw [eq223]
        exact ⟨rfl, N224⟩
      · refine gv (fun tQ kQ => XS.ifNo X0.here hx rfl (hb hby at_28) rfl ((if0 _ _).trans (feq hc155).1) kQ) ?_
        show G (s₁.setTop (mkF me_ 31 #[.val (.int p0), .val (.long p1), .second, .val (.int (0 : Int32)), .val (.int (0 : Int32)), .unset, .unset, .unset, .unset, .unset, .unset] []))
        refine gv (fun tQ kQ => XS.iconst X0.here hx rfl (hb hby at_31) kQ) ?_
        show G (s₁.setTop (mkF me_ 32 #[.val (.int p0), .val (.long p1), .second, .val (.int (0 : Int32)), .val (.int (0 : Int32)), .unset, .unset, .unset, .unset, .unset, .unset] [(.int (1 : Int32))]))
        refine gv (fun tQ kQ => XS.goto X0.here hx rfl (pc0 := 32) (pc' := 36) rfl (hb hby at_32) (by decide) (by decide) kQ) ?_
        show G (s₁.setTop (mkF me_ 36 #[.val (.int p0), .val (.long p1), .second, .val (.int (0 : Int32)), .val (.int (0 : Int32)), .unset, .unset, .unset, .unset, .unset, .unset] [(.int (1 : Int32))]))
        refine gv (fun tQ kQ => XS.istore X0.here hx rfl (hb hby at_36) rfl (l' := #[.val (.int p0), .val (.long p1), .second, .val (.int (0 : Int32)), .val (.int (0 : Int32)), .val (.int (1 : Int32)), .unset, .unset, .unset, .unset, .unset]) rfl kQ) ?_
        show G (s₁.setTop (mkF me_ 38 #[.val (.int p0), .val (.long p1), .second, .val (.int (0 : Int32)), .val (.int (0 : Int32)), .val (.int (1 : Int32)), .unset, .unset, .unset, .unset, .unset] []))
        obtain ⟨T225, h225, X225, e225, E225, A225, D225, -, st225⟩ := newO X0 hx hZ hown (hw _ (List.mem_of_getElem? (i := 0) rfl)) (hw _ (List.mem_of_getElem? (i := 1) rfl)) (hw _ (List.mem_of_getElem? (i := 2) rfl)) e0 (g := (mkF me_ 38 #[.val (.int p0), .val (.long p1), .second, .val (.int (0 : Int32)), .val (.int (0 : Int32)), .val (.int (1 : Int32)), .unset, .unset, .unset, .unset, .unset] [])) rfl (hb hby at_38) (by decide) (by decide)
        obtain ⟨b225, g225⟩ : ∃ z, z = h0.size := ⟨_, rfl⟩
        rw [← g225] at A225 D225 st225
        refine gv st225 ?_
        have g226 : n0 ≤ b225 := Nat.le_trans (own_old O0) (Nat.le_of_eq g225.symm)
        have O228 := O0.ext E225
        have f229 : Fld Z h225 b225 "com/example/closemark/closemark/tape/TapeRow" "time" "Ljava/time/Instant;" .null := D225 (Or.inr (hw _ (List.mem_of_getElem? (i := 18) rfl))) (ty := (.object "java/time/Instant")) (by decide)
        have f230 : Fld Z h225 b225 "com/example/closemark/closemark/tape/TapeRow" "symbol" "Ljava/lang/String;" .null := D225 (Or.inr (hw _ (List.mem_of_getElem? (i := 20) rfl))) (ty := (.object "java/lang/String")) (by decide)
        have f231 : Fld Z h225 b225 "com/example/closemark/closemark/tape/TapeRow" "kind" "Lcom/example/closemark/closemark/tape/TapeRow$Kind;" .null := D225 (Or.inr (hw _ (List.mem_of_getElem? (i := 22) rfl))) (ty := (.object "com/example/closemark/closemark/tape/TapeRow$Kind")) (by decide)
        have f232 : Fld Z h225 b225 "com/example/closemark/closemark/tape/TapeRow" "price" "Ljava/math/BigDecimal;" .null := D225 (Or.inr (hw _ (List.mem_of_getElem? (i := 24) rfl))) (ty := (.object "java/math/BigDecimal")) (by decide)
        have f233 : Fld Z h225 b225 "com/example/closemark/closemark/tape/TapeRow" "qty" "J" (.long (0 : Int64)) := D225 (Or.inr (hw _ (List.mem_of_getElem? (i := 26) rfl))) (ty := .long) (by decide)
        show G (T225.setTop (mkF me_ 41 #[.val (.int p0), .val (.long p1), .second, .val (.int (0 : Int32)), .val (.int (0 : Int32)), .val (.int (1 : Int32)), .unset, .unset, .unset, .unset, .unset] [(.ref b225)]))
        refine gv (fun tQ kQ => XS.dup X225.here hx rfl (hb hby at_41) rfl rfl kQ) ?_
        show G (T225.setTop (mkF me_ 42 #[.val (.int p0), .val (.long p1), .second, .val (.int (0 : Int32)), .val (.int (0 : Int32)), .val (.int (1 : Int32)), .unset, .unset, .unset, .unset, .unset] [(.ref b225), (.ref b225)]))
        refine gv (fun tQ kQ => XS.aconstNull X225.here hx rfl (hb hby at_42) kQ) ?_
        show G (T225.setTop (mkF me_ 43 #[.val (.int p0), .val (.long p1), .second, .val (.int (0 : Int32)), .val (.int (0 : Int32)), .val (.int (1 : Int32)), .unset, .unset, .unset, .unset, .unset] [.null, (.ref b225), (.ref b225)]))
        refine gv (fun tQ kQ => XS.aconstNull X225.here hx rfl (hb hby at_43) kQ) ?_
        show G (T225.setTop (mkF me_ 44 #[.val (.int p0), .val (.long p1), .second, .val (.int (0 : Int32)), .val (.int (0 : Int32)), .val (.int (1 : Int32)), .unset, .unset, .unset, .unset, .unset] [.null, .null, (.ref b225), (.ref b225)]))
        obtain ⟨T234, X234, e234, st234⟩ := getS2 X225 hx hZ hown (host := "") (Or.inl (hw _ (List.mem_of_getElem? (i := 3) rfl))) Via.refl e225 (u0.ext O228.2) (g := (mkF me_ 44 #[.val (.int p0), .val (.long p1), .second, .val (.int (0 : Int32)), .val (.int (0 : Int32)), .val (.int (1 : Int32)), .unset, .unset, .unset, .unset, .unset] [.null, .null, (.ref b225), (.ref b225)])) rfl (hb hby at_44)
        refine gv st234 ?_
        show G (T234.setTop (mkF me_ 47 #[.val (.int p0), .val (.long p1), .second, .val (.int (0 : Int32)), .val (.int (0 : Int32)), .val (.int (1 : Int32)), .unset, .unset, .unset, .unset, .unset] [(.ref A_BID), .null, .null, (.ref b225), (.ref b225)]))
        refine gv (fun tQ kQ => XS.aconstNull X234.here hx rfl (hb hby at_47) kQ) ?_
        show G (T234.setTop (mkF me_ 48 #[.val (.int p0), .val (.long p1), .second, .val (.int (0 : Int32)), .val (.int (0 : Int32)), .val (.int (1 : Int32)), .unset, .unset, .unset, .unset, .unset] [.null, (.ref A_BID), .null, .null, (.ref b225), (.ref b225)]))
        refine gv (fun tQ kQ => XS.lloadN X234.here hx rfl (hb hby at_48) rfl kQ) ?_
        show G (T234.setTop (mkF me_ 49 #[.val (.int p0), .val (.long p1), .second, .val (.int (0 : Int32)), .val (.int (0 : Int32)), .val (.int (1 : Int32)), .unset, .unset, .unset, .unset, .unset] [(.long p1), .null, (.ref A_BID), .null, .null, (.ref b225), (.ref b225)]))
        obtain ⟨_, _, ⟨T235, L235, k235, n235⟩, -, X235, ⟨Lc235, hQ235, l235, y235, z235⟩, st235⟩ := X234.specialBack hx (y := (⟨"com/example/closemark/closemark/tape/TapeRow", "<init>", "(Ljava/time/Instant;Ljava/lang/String;Lcom/example/closemark/closemark/tape/TapeRow$Kind;Ljava/math/BigDecimal;J)V"⟩ : MethodName)) rfl hown (mvT hZ (hw _ (List.mem_of_getElem? (i := 6) rfl))) (mvT hZ (hw _ (List.mem_of_getElem? (i := 7) rfl))) (mvT hZ (hw _ (List.mem_of_getElem? (i := 8) rfl))) (by decide) (backOf (W := 1) (rm_tri l Z a0 hw [] b225 A_BID p1 h225 n0 O228 A225 f229 f230 f231 f232 f233 g226) hZ (hw _ (List.mem_of_getElem? (i := 8) rfl)) (hw _ (List.mem_of_getElem? (i := 2) rfl)) (by decide) (by decide)) (g := (mkF me_ 49 #[.val (.int p0), .val (.long p1), .second, .val (.int (0 : Int32)), .val (.int (0 : Int32)), .val (.int (1 : Int32)), .unset, .unset, .unset, .unset, .unset] [(.long p1), .null, (.ref A_BID), .null, .null, (.ref b225), (.ref b225)])) rfl (by rw [hml]; rfl) (Steps.refl _) (a := b225) (argsL := [.null, .null, (.ref A_BID), .null, (.long p1)]) (rest := [(.ref b225)]) (lenOf pd_4 rfl) rfl (by show 2 * 0 + _ ≤ _; exact Nat.le_of_eq rfl) (hb hby at_49) (fun _ _ => ⟨rfl, e234, (by decide : 1 + 0 ≤ _), (by decide : 5 + 0 ≤ _)⟩)
        dsimp only [Pt.U, Pt.locs, Pt.cells, Pt.slots] at X235 l235 y235 z235 st235 hQ235
        subst l235 y235 z235
        obtain ⟨rfl, Nq235, Kq235, w235_0, w235_1⟩ := hQ235
        have N236 := Fr.app N0 Nq235
        obtain ⟨h235, e235⟩ : ∃ z, T235.heap = z := ⟨_, rfl⟩
        rw [e235] at Kq235 w235_0 w235_1
        have f237 : Exa Z h235 b225 "com/example/closemark/closemark/tape/TapeRow" := A225.keep Kq235
        have O238 := O228.keep Kq235 (allS g226 all0)
        refine gv (fun tQ kQ => st235.trans kQ) ?_
        show G (T235.setTop (mkF me_ 52 #[.val (.int p0), .val (.long p1), .second, .val (.int (0 : Int32)), .val (.int (0 : Int32)), .val (.int (1 : Int32)), .unset, .unset, .unset, .unset, .unset] [(.ref b225)]))
        refine gv (fun tQ kQ => XS.astore X235.here hx rfl (hb hby at_52) rfl rfl (l' := #[.val (.int p0), .val (.long p1), .second, .val (.int (0 : Int32)), .val (.int (0 : Int32)), .val (.int (1 : Int32)), .val (.ref b225), .unset, .unset, .unset, .unset]) rfl kQ) ?_
        show G (T235.setTop (mkF me_ 54 #[.val (.int p0), .val (.long p1), .second, .val (.int (0 : Int32)), .val (.int (0 : Int32)), .val (.int (1 : Int32)), .val (.ref b225), .unset, .unset, .unset, .unset] []))
        obtain ⟨T239, h239, X239, e239, E239, A239, D239, -, st239⟩ := newO X235 hx hZ hown (hw _ (List.mem_of_getElem? (i := 0) rfl)) (hw _ (List.mem_of_getElem? (i := 1) rfl)) (hw _ (List.mem_of_getElem? (i := 2) rfl)) e235 (g := (mkF me_ 54 #[.val (.int p0), .val (.long p1), .second, .val (.int (0 : Int32)), .val (.int (0 : Int32)), .val (.int (1 : Int32)), .val (.ref b225), .unset, .unset, .unset, .unset] [])) rfl (hb hby at_54) (by decide) (by decide)
        obtain ⟨b239, g239⟩ : ∃ z, z = h235.size := ⟨_, rfl⟩
        rw [← g239] at A239 D239 st239
        refine gv st239 ?_
        have ne240 : b225 ≠ b239 := Nat.ne_of_lt (Nat.lt_of_lt_of_le w235_0.lt (Nat.le_of_eq g239.symm))
        have g241 : n0 ≤ b239 := Nat.le_trans (own_old O238) (Nat.le_of_eq g239.symm)
        have f243 : Exa Z h239 b225 "com/example/closemark/closemark/tape/TapeRow" := w235_0.ext E239
        have f244 : Fld Z h239 b225 "com/example/closemark/closemark/tape/TapeRow" "kind" "Lcom/example/closemark/closemark/tape/TapeRow$Kind;" (.ref A_BID) := w235_1.ext E239
        have O245 := O238.ext E239
        have f246 : Fld Z h239 b239 "com/example/closemark/closemark/tape/TapeRow" "time" "Ljava/time/Instant;" .null := D239 (Or.inr (hw _ (List.mem_of_getElem? (i := 18) rfl))) (ty := (.object "java/time/Instant")) (by decide)
        have f247 : Fld Z h239 b239 "com/example/closemark/closemark/tape/TapeRow" "symbol" "Ljava/lang/String;" .null := D239 (Or.inr (hw _ (List.mem_of_getElem? (i := 20) rfl))) (ty := (.object "java/lang/String")) (by decide)
        have f248 : Fld Z h239 b239 "com/example/closemark/closemark/tape/TapeRow" "kind" "Lcom/example/closemark/closemark/tape/TapeRow$Kind;" .null := D239 (Or.inr (hw _ (List.mem_of_getElem? (i := 22) rfl))) (ty := (.object "com/example/closemark/closemark/tape/TapeRow$Kind")) (by decide)
        have f249 : Fld Z h239 b239 "com/example/closemark/closemark/tape/TapeRow" "price" "Ljava/math/BigDecimal;" .null := D239 (Or.inr (hw _ (List.mem_of_getElem? (i := 24) rfl))) (ty := (.object "java/math/BigDecimal")) (by decide)
        have f250 : Fld Z h239 b239 "com/example/closemark/closemark/tape/TapeRow" "qty" "J" (.long (0 : Int64)) := D239 (Or.inr (hw _ (List.mem_of_getElem? (i := 26) rfl))) (ty := .long) (by decide)
        show G (T239.setTop (mkF me_ 57 #[.val (.int p0), .val (.long p1), .second, .val (.int (0 : Int32)), .val (.int (0 : Int32)), .val (.int (1 : Int32)), .val (.ref b225), .unset, .unset, .unset, .unset] [(.ref b239)]))
        refine gv (fun tQ kQ => XS.dup X239.here hx rfl (hb hby at_57) rfl rfl kQ) ?_
        show G (T239.setTop (mkF me_ 58 #[.val (.int p0), .val (.long p1), .second, .val (.int (0 : Int32)), .val (.int (0 : Int32)), .val (.int (1 : Int32)), .val (.ref b225), .unset, .unset, .unset, .unset] [(.ref b239), (.ref b239)]))
        refine gv (fun tQ kQ => XS.aconstNull X239.here hx rfl (hb hby at_58) kQ) ?_
        show G (T239.setTop (mkF me_ 59 #[.val (.int p0), .val (.long p1), .second, .val (.int (0 : Int32)), .val (.int (0 : Int32)), .val (.int (1 : Int32)), .val (.ref b225), .unset, .unset, .unset, .unset] [.null, (.ref b239), (.ref b239)]))
        refine gv (fun tQ kQ => XS.aconstNull X239.here hx rfl (hb hby at_59) kQ) ?_
        show G (T239.setTop (mkF me_ 60 #[.val (.int p0), .val (.long p1), .second, .val (.int (0 : Int32)), .val (.int (0 : Int32)), .val (.int (1 : Int32)), .val (.ref b225), .unset, .unset, .unset, .unset] [.null, .null, (.ref b239), (.ref b239)]))
        obtain ⟨T251, X251, e251, st251⟩ := getS2 X239 hx hZ hown (host := "") (Or.inl (hw _ (List.mem_of_getElem? (i := 27) rfl))) Via.refl e239 (u1.ext O245.2) (g := (mkF me_ 60 #[.val (.int p0), .val (.long p1), .second, .val (.int (0 : Int32)), .val (.int (0 : Int32)), .val (.int (1 : Int32)), .val (.ref b225), .unset, .unset, .unset, .unset] [.null, .null, (.ref b239), (.ref b239)])) rfl (hb hby at_60)
        refine gv st251 ?_
        show G (T251.setTop (mkF me_ 63 #[.val (.int p0), .val (.long p1), .second, .val (.int (0 : Int32)), .val (.int (0 : Int32)), .val (.int (1 : Int32)), .val (.ref b225), .unset, .unset, .unset, .unset] [(.ref A_ASK), .null, .null, (.ref b239), (.ref b239)]))
        refine gv (fun tQ kQ => XS.aconstNull X251.here hx rfl (hb hby at_63) kQ) ?_
        show G (T251.setTop (mkF me_ 64 #[.val (.int p0), .val (.long p1), .second, .val (.int (0 : Int32)), .val (.int (0 : Int32)), .val (.int (1 : Int32)), .val (.ref b225), .unset, .unset, .unset, .unset] [.null, (.ref A_ASK), .null, .null, (.ref b239), (.ref b239)]))
        refine gv (fun tQ kQ => XS.lloadN X251.here hx rfl (hb hby at_64) rfl kQ) ?_
        show G (T251.setTop (mkF me_ 65 #[.val (.int p0), .val (.long p1), .second, .val (.int (0 : Int32)), .val (.int (0 : Int32)), .val (.int (1 : Int32)), .val (.ref b225), .unset, .unset, .unset, .unset] [(.long p1), .null, (.ref A_ASK), .null, .null, (.ref b239), (.ref b239)]))
        obtain ⟨_, _, ⟨T252, L252, k252, n252⟩, -, X252, ⟨Lc252, hQ252, l252, y252, z252⟩, st252⟩ := X251.specialBack hx (y := (⟨"com/example/closemark/closemark/tape/TapeRow", "<init>", "(Ljava/time/Instant;Ljava/lang/String;Lcom/example/closemark/closemark/tape/TapeRow$Kind;Ljava/math/BigDecimal;J)V"⟩ : MethodName)) rfl hown (mvT hZ (hw _ (List.mem_of_getElem? (i := 6) rfl))) (mvT hZ (hw _ (List.mem_of_getElem? (i := 7) rfl))) (mvT hZ (hw _ (List.mem_of_getElem? (i := 8) rfl))) (by decide) (backOf (W := 1) (rm_tri l Z a0 hw [] b239 A_ASK p1 h239 n0 O245 A239 f246 f247 f248 f249 f250 g241) hZ (hw _ (List.mem_of_getElem? (i := 8) rfl)) (hw _ (List.mem_of_getElem? (i := 2) rfl)) (by decide) (by decide)) (g := (mkF me_ 65 #[.val (.int p0), .val (.long p1), .second, .val (.int (0 : Int32)), .val (.int (0 : Int32)), .val (.int (1 : Int32)), .val (.ref b225), .unset, .unset, .unset, .unset] [(.long p1), .null, (.ref A_ASK), .null, .null, (.ref b239), (.ref b239)])) rfl (by rw [hml]; rfl) (Steps.refl _) (a := b239) (argsL := [.null, .null, (.ref A_ASK), .null, (.long p1)]) (rest := [(.ref b239)]) (lenOf pd_4 rfl) rfl (by show 2 * 0 + _ ≤ _; exact Nat.le_of_eq rfl) (hb hby at_65) (fun _ _ => ⟨rfl, e251, (by decide : 2 + 0 ≤ _), (by decide : 10 + 0 ≤ _)⟩)
        dsimp only [Pt.U, Pt.locs, Pt.cells, Pt.slots] at X252 l252 y252 z252 st252 hQ252
        subst l252 y252 z252
        obtain ⟨rfl, Nq252, Kq252, w252_0, w252_1⟩ := hQ252
        have N253 := Fr.app N236 Nq252
        obtain ⟨h252, e252⟩ : ∃ z, T252.heap = z := ⟨_, rfl⟩
        rw [e252] at Kq252 w252_0 w252_1
        have f254 : Exa Z h252 b225 "com/example/closemark/closemark/tape/TapeRow" := f243.keep Kq252
        have f255 : Fld Z h252 b225 "com/example/closemark/closemark/tape/TapeRow" "kind" "Lcom/example/closemark/closemark/tape/TapeRow$Kind;" (.ref A_BID) := f244.keep Kq252 (ninS ne240 nin0)
        have f256 : Exa Z h252 b239 "com/example/closemark/closemark/tape/TapeRow" := A239.keep Kq252
        have O257 := O245.keep Kq252 (allS g241 all0)
        refine gv (fun tQ kQ => st252.trans kQ) ?_
        show G (T252.setTop (mkF me_ 68 #[.val (.int p0), .val (.long p1), .second, .val (.int (0 : Int32)), .val (.int (0 : Int32)), .val (.int (1 : Int32)), .val (.ref b225), .unset, .unset, .unset, .unset] [(.ref b239)]))
        refine gv (fun tQ kQ => XS.astore X252.here hx rfl (hb hby at_68) rfl rfl (l' := #[.val (.int p0), .val (.long p1), .second, .val (.int (0 : Int32)), .val (.int (0 : Int32)), .val (.int (1 : Int32)), .val (.ref b225), .val (.ref b239), .unset, .unset, .unset]) rfl kQ) ?_
        show G (T252.setTop (mkF me_ 70 #[.val (.int p0), .val (.long p1), .second, .val (.int (0 : Int32)), .val (.int (0 : Int32)), .val (.int (1 : Int32)), .val (.ref b225), .val (.ref b239), .unset, .unset, .unset] []))
        obtain ⟨T258, h258, X258, e258, E258, A258, D258, -, st258⟩ := newO X252 hx hZ hown (hw _ (List.mem_of_getElem? (i := 29) rfl)) (hw _ (List.mem_of_getElem? (i := 30) rfl)) (hw _ (List.mem_of_getElem? (i := 31) rfl)) e252 (g := (mkF me_ 70 #[.val (.int p0), .val (.long p1), .second, .val (.int (0 : Int32)), .val (.int (0 : Int32)), .val (.int (1 : Int32)), .val (.ref b225), .val (.ref b239), .unset, .unset, .unset] [])) rfl (hb hby at_70) (by decide) (by decide)
        obtain ⟨b258, g258⟩ : ∃ z, z = h252.size := ⟨_, rfl⟩
        rw [← g258] at A258 D258 st258
        refine gv st258 ?_
        have ne259 : b225 ≠ b258 := Nat.ne_of_lt (Nat.lt_of_lt_of_le f254.lt (Nat.le_of_eq g258.symm))
        have ne260 : b239 ≠ b258 := Nat.ne_of_lt (Nat.lt_of_lt_of_le w252_0.lt (Nat.le_of_eq g258.symm))
        have g261 : n0 ≤ b258 := Nat.le_trans (own_old O257) (Nat.le_of_eq g258.symm)
        have f263 : Exa Z h258 b225 "com/example/closemark/closemark/tape/TapeRow" := f254.ext E258
        have f264 : Fld Z h258 b225 "com/example/closemark/closemark/tape/TapeRow" "kind" "Lcom/example/closemark/closemark/tape/TapeRow$Kind;" (.ref A_BID) := f255.ext E258
        have f265 : Exa Z h258 b239 "com/example/closemark/closemark/tape/TapeRow" := w252_0.ext E258
        have f266 : Fld Z h258 b239 "com/example/closemark/closemark/tape/TapeRow" "kind" "Lcom/example/closemark/closemark/tape/TapeRow$Kind;" (.ref A_ASK) := w252_1.ext E258
        have O267 := O257.ext E258
        have f268 : Fld Z h258 b258 "com/example/closemark/closemark/prices/StandingQuotes" "bid" "Lcom/example/closemark/closemark/prices/LatestRow;" .null := D258 (Or.inr (hw _ (List.mem_of_getElem? (i := 44) rfl))) (ty := (.object "com/example/closemark/closemark/prices/LatestRow")) (by decide)
        have f269 : Fld Z h258 b258 "com/example/closemark/closemark/prices/StandingQuotes" "ask" "Lcom/example/closemark/closemark/prices/LatestRow;" .null := D258 (Or.inr (hw _ (List.mem_of_getElem? (i := 46) rfl))) (ty := (.object "com/example/closemark/closemark/prices/LatestRow")) (by decide)
        show G (T258.setTop (mkF me_ 73 #[.val (.int p0), .val (.long p1), .second, .val (.int (0 : Int32)), .val (.int (0 : Int32)), .val (.int (1 : Int32)), .val (.ref b225), .val (.ref b239), .unset, .unset, .unset] [(.ref b258)]))
        refine gv (fun tQ kQ => XS.dup X258.here hx rfl (hb hby at_73) rfl rfl kQ) ?_
        show G (T258.setTop (mkF me_ 74 #[.val (.int p0), .val (.long p1), .second, .val (.int (0 : Int32)), .val (.int (0 : Int32)), .val (.int (1 : Int32)), .val (.ref b225), .val (.ref b239), .unset, .unset, .unset] [(.ref b258), (.ref b258)]))
        obtain ⟨_, _, ⟨T270, L270, k270, n270⟩, -, X270, ⟨Lc270, hQ270, l270, y270, z270⟩, st270⟩ := X258.specialBack hx (y := (⟨"com/example/closemark/closemark/prices/StandingQuotes", "<init>", "()V"⟩ : MethodName)) rfl hown (mvT hZ (hw _ (List.mem_of_getElem? (i := 32) rfl))) (mvT hZ (hw _ (List.mem_of_getElem? (i := 33) rfl))) (mvT hZ (hw _ (List.mem_of_getElem? (i := 34) rfl))) (by decide) (backOf (W := 1) (rm_sqi l Z a0 hw [] b258 h258 n0 O267 A258 f268 f269 g261) hZ (hw _ (List.mem_of_getElem? (i := 34) rfl)) (hw _ (List.mem_of_getElem? (i := 31) rfl)) (by decide) (by decide)) (g := (mkF me_ 74 #[.val (.int p0), .val (.long p1), .second, .val (.int (0 : Int32)), .val (.int (0 : Int32)), .val (.int (1 : Int32)), .val (.ref b225), .val (.ref b239), .unset, .unset, .unset] [(.ref b258), (.ref b258)])) rfl (by rw [hml]; rfl) (Steps.refl _) (a := b258) (argsL := []) (rest := [(.ref b258)]) (lenOf pd_0 rfl) rfl (by show 2 * 0 + _ ≤ _; exact Nat.le_of_eq rfl) (hb hby at_74) (fun _ _ => ⟨rfl, e258, (by decide : 3 + 2 ≤ _), (by decide : 12 + 2 ≤ _)⟩)
        dsimp only [Pt.U, Pt.locs, Pt.cells, Pt.slots] at X270 l270 y270 z270 st270 hQ270
        subst l270 y270 z270
        obtain ⟨x_270, y_270, rfl, Nq270, Kq270, w270_0, w270_1, w270_2, w270_3, w270_4, w270_5, w270_6, w270_7, w270_8, w270_9⟩ := hQ270
        have N271 := Fr.app N253 Nq270
        obtain ⟨h270, e270⟩ : ∃ z, T270.heap = z := ⟨_, rfl⟩
        rw [e270] at Kq270 w270_3 w270_4 w270_5 w270_6 w270_7 w270_8 w270_9
        have ne272 : b225 ≠ x_270 := Nat.ne_of_lt (Nat.lt_of_lt_of_le f263.lt w270_0)
        have ne273 : b239 ≠ x_270 := Nat.ne_of_lt (Nat.lt_of_lt_of_le f265.lt w270_0)
        have ne274 : b258 ≠ x_270 := Nat.ne_of_lt (Nat.lt_of_lt_of_le A258.lt w270_0)
        have g275 : n0 ≤ x_270 := Nat.le_trans (own_old O267) w270_0
        have ne277 : b225 ≠ y_270 := Nat.ne_of_lt (Nat.lt_of_lt_of_le f263.lt w270_1)
        have ne278 : b239 ≠ y_270 := Nat.ne_of_lt (Nat.lt_of_lt_of_le f265.lt w270_1)
        have ne279 : b258 ≠ y_270 := Nat.ne_of_lt (Nat.lt_of_lt_of_le A258.lt w270_1)
        have g280 : n0 ≤ y_270 := Nat.le_trans (own_old O267) w270_1
        have f282 : Exa Z h270 b225 "com/example/closemark/closemark/tape/TapeRow" := f263.keep Kq270
        have f283 : Fld Z h270 b225 "com/example/closemark/closemark/tape/TapeRow" "kind" "Lcom/example/closemark/closemark/tape/TapeRow$Kind;" (.ref A_BID) := f264.keep Kq270 (ninS ne259 nin0)
        have f284 : Exa Z h270 b239 "com/example/closemark/closemark/tape/TapeRow" := f265.keep Kq270
        have f285 : Fld Z h270 b239 "com/example/closemark/closemark/tape/TapeRow" "kind" "Lcom/example/closemark/closemark/tape/TapeRow$Kind;" (.ref A_ASK) := f266.keep Kq270 (ninS ne260 nin0)
        have f286 : Exa Z h270 b258 "com/example/closemark/closemark/prices/StandingQuotes" := A258.keep Kq270
        have O287 := O267.keep Kq270 (allS g261 all0)
        refine gv (fun tQ kQ => st270.trans kQ) ?_
        show G (T270.setTop (mkF me_ 77 #[.val (.int p0), .val (.long p1), .second, .val (.int (0 : Int32)), .val (.int (0 : Int32)), .val (.int (1 : Int32)), .val (.ref b225), .val (.ref b239), .unset, .unset, .unset] [(.ref b258)]))
        refine gv (fun tQ kQ => XS.astore X270.here hx rfl (hb hby at_77) rfl rfl (l' := #[.val (.int p0), .val (.long p1), .second, .val (.int (0 : Int32)), .val (.int (0 : Int32)), .val (.int (1 : Int32)), .val (.ref b225), .val (.ref b239), .val (.ref b258), .unset, .unset]) rfl kQ) ?_
        show G (T270.setTop (mkF me_ 79 #[.val (.int p0), .val (.long p1), .second, .val (.int (0 : Int32)), .val (.int (0 : Int32)), .val (.int (1 : Int32)), .val (.ref b225), .val (.ref b239), .val (.ref b258), .unset, .unset] []))
        refine gv (fun tQ kQ => XS.aload X270.here hx rfl (hb hby at_79) rfl rfl kQ) ?_
        show G (T270.setTop (mkF me_ 81 #[.val (.int p0), .val (.long p1), .second, .val (.int (0 : Int32)), .val (.int (0 : Int32)), .val (.int (1 : Int32)), .val (.ref b225), .val (.ref b239), .val (.ref b258), .unset, .unset] [(.ref b258)]))
        obtain ⟨cq288, kq288, q288a, q288b, q288c⟩ := isOf hZ e270 w270_3
        obtain ⟨_, _, ⟨T288, L288, k288, n288⟩, -, X288, ⟨Lc288, hQ288, l288, y288, z288⟩, st288⟩ := X270.virtualBack hx (y := (⟨"com/example/closemark/closemark/prices/StandingQuotes", "hasBidAndAsk", "()Z"⟩ : MethodName)) (z := (⟨"com/example/closemark/closemark/prices/StandingQuotes", "hasBidAndAsk", "()Z"⟩ : MethodName)) hown (mvT hZ (hw _ (List.mem_of_getElem? (i := 47) rfl))) (mvT hZ (hw _ (List.mem_of_getElem? (i := 48) rfl))) (notFace_of_selects (args := #[]) (mvT hZ (hw _ (List.mem_of_getElem? (i := 50) rfl)))) (mvT hZ (hw _ (List.mem_of_getElem? (i := 50) rfl))) (mvT hZ (hw _ (List.mem_of_getElem? (i := 49) rfl))) (by decide) (backOf (W := 0) (rm_hb0 l Z a0 hw [] b258 x_270 h270 n0 O287 w270_4 w270_6 w270_8) hZ (hw _ (List.mem_of_getElem? (i := 51) rfl)) (hw _ (List.mem_of_getElem? (i := 31) rfl)) (by decide) (by decide)) q288a q288c (g := (mkF me_ 81 #[.val (.int p0), .val (.long p1), .second, .val (.int (0 : Int32)), .val (.int (0 : Int32)), .val (.int (1 : Int32)), .val (.ref b225), .val (.ref b239), .val (.ref b258), .unset, .unset] [(.ref b258)])) rfl (by rw [hml]; rfl) (Steps.refl _) (argsL := []) (rest := []) (lenOf pd_5 rfl) rfl (by show 2 * 0 + _ ≤ _; exact Nat.le_of_eq rfl) (hb hby at_81) (fun _ _ => ⟨rfl, e270, (by decide : 5 + 0 ≤ _), (by decide : 14 + 0 ≤ _)⟩)
        dsimp only [Pt.U, Pt.locs, Pt.cells, Pt.slots] at X288 l288 y288 z288 st288 hQ288
        subst l288 y288 z288
        obtain ⟨rfl, Nq288, eq288⟩ := hQ288
        have N289 := Fr.app N271 Nq288
        refine gv (fun tQ kQ => st288.trans kQ) ?_
        show G (T288.setTop (mkF me_ 84 #[.val (.int p0), .val (.long p1), .second, .val (.int (0 : Int32)), .val (.int (0 : Int32)), .val (.int (1 : Int32)), .val (.ref b225), .val (.ref b239), .val (.ref b258), .unset, .unset] [(.int (0 : Int32))]))
        refine gv (fun tQ kQ => XS.ifNo X288.here hx rfl (hb hby at_84) rfl ((if0 _ _).trans (teq (by decide : (0 : Int32) = (0 : Int32))).2) kQ) ?_
        show G (T288.setTop (mkF me_ 87 #[.val (.int p0), .val (.long p1), .second, .val (.int (0 : Int32)), .val (.int (0 : Int32)), .val (.int (1 : Int32)), .val (.ref b225), .val (.ref b239), .val (.ref b258), .unset, .unset] []))
        refine gv (fun tQ kQ => XS.iconst X288.here hx rfl (hb hby at_87) kQ) ?_
        show G (T288.setTop (mkF me_ 88 #[.val (.int p0), .val (.long p1), .second, .val (.int (0 : Int32)), .val (.int (0 : Int32)), .val (.int (1 : Int32)), .val (.ref b225), .val (.ref b239), .val (.ref b258), .unset, .unset] [(.int (1 : Int32))]))
        refine gv (fun tQ kQ => XS.goto X288.here hx rfl (pc0 := 88) (pc' := 92) rfl (hb hby at_88) (by decide) (by decide) kQ) ?_
        show G (T288.setTop (mkF me_ 92 #[.val (.int p0), .val (.long p1), .second, .val (.int (0 : Int32)), .val (.int (0 : Int32)), .val (.int (1 : Int32)), .val (.ref b225), .val (.ref b239), .val (.ref b258), .unset, .unset] [(.int (1 : Int32))]))
        refine gv (fun tQ kQ => XS.istore X288.here hx rfl (hb hby at_92) rfl (l' := #[.val (.int p0), .val (.long p1), .second, .val (.int (0 : Int32)), .val (.int (0 : Int32)), .val (.int (1 : Int32)), .val (.ref b225), .val (.ref b239), .val (.ref b258), .val (.int (1 : Int32)), .unset]) rfl kQ) ?_
        show G (T288.setTop (mkF me_ 94 #[.val (.int p0), .val (.long p1), .second, .val (.int (0 : Int32)), .val (.int (0 : Int32)), .val (.int (1 : Int32)), .val (.ref b225), .val (.ref b239), .val (.ref b258), .val (.int (1 : Int32)), .unset] []))
        refine gv (fun tQ kQ => XS.iload X288.here hx rfl (hb hby at_94) rfl kQ) ?_
        show G (T288.setTop (mkF me_ 96 #[.val (.int p0), .val (.long p1), .second, .val (.int (0 : Int32)), .val (.int (0 : Int32)), .val (.int (1 : Int32)), .val (.ref b225), .val (.ref b239), .val (.ref b258), .val (.int (1 : Int32)), .unset] [(.int (1 : Int32))]))
        refine gv (fun tQ kQ => XS.ifNo X288.here hx rfl (hb hby at_96) rfl ((if0 _ _).trans (feq (by decide : ¬ ((1 : Int32) = (0 : Int32)))).1) kQ) ?_
        show G (T288.setTop (mkF me_ 99 #[.val (.int p0), .val (.long p1), .second, .val (.int (0 : Int32)), .val (.int (0 : Int32)), .val (.int (1 : Int32)), .val (.ref b225), .val (.ref b239), .val (.ref b258), .val (.int (1 : Int32)), .unset] []))
        refine gv (fun tQ kQ => XS.iload X288.here hx rfl (hb hby at_99) rfl kQ) ?_
        show G (T288.setTop (mkF me_ 101 #[.val (.int p0), .val (.long p1), .second, .val (.int (0 : Int32)), .val (.int (0 : Int32)), .val (.int (1 : Int32)), .val (.ref b225), .val (.ref b239), .val (.ref b258), .val (.int (1 : Int32)), .unset] [(.int (0 : Int32))]))
        refine gv (fun tQ kQ => XS.ifYes X288.here hx rfl (pc0 := 101) (pc' := 111) rfl (hb hby at_101) rfl ((if0 _ _).trans (teq (by decide : (0 : Int32) = (0 : Int32))).1) (by decide) (by decide) kQ) ?_
        show G (T288.setTop (mkF me_ 111 #[.val (.int p0), .val (.long p1), .second, .val (.int (0 : Int32)), .val (.int (0 : Int32)), .val (.int (1 : Int32)), .val (.ref b225), .val (.ref b239), .val (.ref b258), .val (.int (1 : Int32)), .unset] []))
        refine gv (fun tQ kQ => XS.iload X288.here hx rfl (hb hby at_111) rfl kQ) ?_
        show G (T288.setTop (mkF me_ 113 #[.val (.int p0), .val (.long p1), .second, .val (.int (0 : Int32)), .val (.int (0 : Int32)), .val (.int (1 : Int32)), .val (.ref b225), .val (.ref b239), .val (.ref b258), .val (.int (1 : Int32)), .unset] [(.int (1 : Int32))]))
        refine gv (fun tQ kQ => XS.ifNo X288.here hx rfl (hb hby at_113) rfl ((if0 _ _).trans (feq (by decide : ¬ ((1 : Int32) = (0 : Int32)))).1) kQ) ?_
        show G (T288.setTop (mkF me_ 116 #[.val (.int p0), .val (.long p1), .second, .val (.int (0 : Int32)), .val (.int (0 : Int32)), .val (.int (1 : Int32)), .val (.ref b225), .val (.ref b239), .val (.ref b258), .val (.int (1 : Int32)), .unset] []))
        refine gv (fun tQ kQ => XS.aload X288.here hx rfl (hb hby at_116) rfl rfl kQ) ?_
        show G (T288.setTop (mkF me_ 118 #[.val (.int p0), .val (.long p1), .second, .val (.int (0 : Int32)), .val (.int (0 : Int32)), .val (.int (1 : Int32)), .val (.ref b225), .val (.ref b239), .val (.ref b258), .val (.int (1 : Int32)), .unset] [(.ref b258)]))
        obtain ⟨cq290, kq290, q290a, q290b, q290c⟩ := isOf hZ eq288 w270_3
        obtain ⟨_, _, ⟨T290, L290, k290, n290⟩, -, X290, ⟨Lc290, hQ290, l290, y290, z290⟩, st290⟩ := X288.virtualBack hx (y := (⟨"com/example/closemark/closemark/prices/StandingQuotes", "hasBidAndAsk", "()Z"⟩ : MethodName)) (z := (⟨"com/example/closemark/closemark/prices/StandingQuotes", "hasBidAndAsk", "()Z"⟩ : MethodName)) hown (mvT hZ (hw _ (List.mem_of_getElem? (i := 47) rfl))) (mvT hZ (hw _ (List.mem_of_getElem? (i := 48) rfl))) (notFace_of_selects (args := #[]) (mvT hZ (hw _ (List.mem_of_getElem? (i := 50) rfl)))) (mvT hZ (hw _ (List.mem_of_getElem? (i := 50) rfl))) (mvT hZ (hw _ (List.mem_of_getElem? (i := 49) rfl))) (by decide) (backOf (W := 0) (rm_hb0 l Z a0 hw [] b258 x_270 h270 n0 O287 w270_4 w270_6 w270_8) hZ (hw _ (List.mem_of_getElem? (i := 51) rfl)) (hw _ (List.mem_of_getElem? (i := 31) rfl)) (by decide) (by decide)) q290a q290c (g := (mkF me_ 118 #[.val (.int p0), .val (.long p1), .second, .val (.int (0 : Int32)), .val (.int (0 : Int32)), .val (.int (1 : Int32)), .val (.ref b225), .val (.ref b239), .val (.ref b258), .val (.int (1 : Int32)), .unset] [(.ref b258)])) rfl (by rw [hml]; rfl) (Steps.refl _) (argsL := []) (rest := []) (lenOf pd_5 rfl) rfl (by show 2 * 0 + _ ≤ _; exact Nat.le_of_eq rfl) (hb hby at_118) (fun _ _ => ⟨rfl, eq288, (by decide : 5 + 0 ≤ _), (by decide : 14 + 0 ≤ _)⟩)
        dsimp only [Pt.U, Pt.locs, Pt.cells, Pt.slots] at X290 l290 y290 z290 st290 hQ290
        subst l290 y290 z290
        obtain ⟨rfl, Nq290, eq290⟩ := hQ290
        have N291 := Fr.app N289 Nq290
        refine gv (fun tQ kQ => st290.trans kQ) ?_
        show G (T290.setTop (mkF me_ 121 #[.val (.int p0), .val (.long p1), .second, .val (.int (0 : Int32)), .val (.int (0 : Int32)), .val (.int (1 : Int32)), .val (.ref b225), .val (.ref b239), .val (.ref b258), .val (.int (1 : Int32)), .unset] [(.int (0 : Int32))]))
        refine gv (fun tQ kQ => XS.ifNo X290.here hx rfl (hb hby at_121) rfl ((if0 _ _).trans (teq (by decide : (0 : Int32) = (0 : Int32))).2) kQ) ?_
        show G (T290.setTop (mkF me_ 124 #[.val (.int p0), .val (.long p1), .second, .val (.int (0 : Int32)), .val (.int (0 : Int32)), .val (.int (1 : Int32)), .val (.ref b225), .val (.ref b239), .val (.ref b258), .val (.int (1 : Int32)), .unset] []))
        refine gv (fun tQ kQ => XS.iconst X290.here hx rfl (hb hby at_124) kQ) ?_
        show G (T290.setTop (mkF me_ 125 #[.val (.int p0), .val (.long p1), .second, .val (.int (0 : Int32)), .val (.int (0 : Int32)), .val (.int (1 : Int32)), .val (.ref b225), .val (.ref b239), .val (.ref b258), .val (.int (1 : Int32)), .unset] [(.int (1 : Int32))]))
        refine gv (fun tQ kQ => XS.goto X290.here hx rfl (pc0 := 125) (pc' := 129) rfl (hb hby at_125) (by decide) (by decide) kQ) ?_
        show G (T290.setTop (mkF me_ 129 #[.val (.int p0), .val (.long p1), .second, .val (.int (0 : Int32)), .val (.int (0 : Int32)), .val (.int (1 : Int32)), .val (.ref b225), .val (.ref b239), .val (.ref b258), .val (.int (1 : Int32)), .unset] [(.int (1 : Int32))]))
        refine gv (fun tQ kQ => XS.istore X290.here hx rfl (hb hby at_129) rfl (l' := #[.val (.int p0), .val (.long p1), .second, .val (.int (0 : Int32)), .val (.int (0 : Int32)), .val (.int (1 : Int32)), .val (.ref b225), .val (.ref b239), .val (.ref b258), .val (.int (1 : Int32)), .unset]) rfl kQ) ?_
        show G (T290.setTop (mkF me_ 131 #[.val (.int p0), .val (.long p1), .second, .val (.int (0 : Int32)), .val (.int (0 : Int32)), .val (.int (1 : Int32)), .val (.ref b225), .val (.ref b239), .val (.ref b258), .val (.int (1 : Int32)), .unset] []))
        refine gv (fun tQ kQ => XS.iloadN X290.here hx rfl (hb hby at_131) rfl kQ) ?_
        show G (T290.setTop (mkF me_ 132 #[.val (.int p0), .val (.long p1), .second, .val (.int (0 : Int32)), .val (.int (0 : Int32)), .val (.int (1 : Int32)), .val (.ref b225), .val (.ref b239), .val (.ref b258), .val (.int (1 : Int32)), .unset] [(.int (0 : Int32))]))
        refine gv (fun tQ kQ => XS.ifYes X290.here hx rfl (pc0 := 132) (pc' := 188) rfl (hb hby at_132) rfl ((if0 _ _).trans (teq (by decide : (0 : Int32) = (0 : Int32))).1) (by decide) (by decide) kQ) ?_
        show G (T290.setTop (mkF me_ 188 #[.val (.int p0), .val (.long p1), .second, .val (.int (0 : Int32)), .val (.int (0 : Int32)), .val (.int (1 : Int32)), .val (.ref b225), .val (.ref b239), .val (.ref b258), .val (.int (1 : Int32)), .unset] []))
        refine gv (fun tQ kQ => XS.iloadN X290.here hx rfl (hb hby at_188) rfl kQ) ?_
        show G (T290.setTop (mkF me_ 189 #[.val (.int p0), .val (.long p1), .second, .val (.int (0 : Int32)), .val (.int (0 : Int32)), .val (.int (1 : Int32)), .val (.ref b225), .val (.ref b239), .val (.ref b258), .val (.int (1 : Int32)), .unset] [(.int (0 : Int32))]))
        refine gv (fun tQ kQ => XS.ifYes X290.here hx rfl (pc0 := 189) (pc' := 201) rfl (hb hby at_189) rfl ((if0 _ _).trans (teq (by decide : (0 : Int32) = (0 : Int32))).1) (by decide) (by decide) kQ) ?_
        show G (T290.setTop (mkF me_ 201 #[.val (.int p0), .val (.long p1), .second, .val (.int (0 : Int32)), .val (.int (0 : Int32)), .val (.int (1 : Int32)), .val (.ref b225), .val (.ref b239), .val (.ref b258), .val (.int (1 : Int32)), .unset] []))
        refine gv (fun tQ kQ => XS.iconst X290.here hx rfl (hb hby at_201) kQ) ?_
        show G (T290.setTop (mkF me_ 202 #[.val (.int p0), .val (.long p1), .second, .val (.int (0 : Int32)), .val (.int (0 : Int32)), .val (.int (1 : Int32)), .val (.ref b225), .val (.ref b239), .val (.ref b258), .val (.int (1 : Int32)), .unset] [(.int (0 : Int32))]))
        refine gv (fun tQ kQ => XS.istore X290.here hx rfl (hb hby at_202) rfl (l' := #[.val (.int p0), .val (.long p1), .second, .val (.int (0 : Int32)), .val (.int (0 : Int32)), .val (.int (1 : Int32)), .val (.ref b225), .val (.ref b239), .val (.ref b258), .val (.int (1 : Int32)), .val (.int (0 : Int32))]) rfl kQ) ?_
        show G (T290.setTop (mkF me_ 204 #[.val (.int p0), .val (.long p1), .second, .val (.int (0 : Int32)), .val (.int (0 : Int32)), .val (.int (1 : Int32)), .val (.ref b225), .val (.ref b239), .val (.ref b258), .val (.int (1 : Int32)), .val (.int (0 : Int32))] []))
        refine gv (fun tQ kQ => XS.iload X290.here hx rfl (hb hby at_204) rfl kQ) ?_
        show G (T290.setTop (mkF me_ 206 #[.val (.int p0), .val (.long p1), .second, .val (.int (0 : Int32)), .val (.int (0 : Int32)), .val (.int (1 : Int32)), .val (.ref b225), .val (.ref b239), .val (.ref b258), .val (.int (1 : Int32)), .val (.int (0 : Int32))] [(.int (1 : Int32))]))
        refine gv (fun tQ kQ => XS.ifNo X290.here hx rfl (hb hby at_206) rfl ((if0 _ _).trans (feq (by decide : ¬ ((1 : Int32) = (0 : Int32)))).1) kQ) ?_
        show G (T290.setTop (mkF me_ 209 #[.val (.int p0), .val (.long p1), .second, .val (.int (0 : Int32)), .val (.int (0 : Int32)), .val (.int (1 : Int32)), .val (.ref b225), .val (.ref b239), .val (.ref b258), .val (.int (1 : Int32)), .val (.int (0 : Int32))] []))
        refine gv (fun tQ kQ => XS.aload X290.here hx rfl (hb hby at_209) rfl rfl kQ) ?_
        show G (T290.setTop (mkF me_ 211 #[.val (.int p0), .val (.long p1), .second, .val (.int (0 : Int32)), .val (.int (0 : Int32)), .val (.int (1 : Int32)), .val (.ref b225), .val (.ref b239), .val (.ref b258), .val (.int (1 : Int32)), .val (.int (0 : Int32))] [(.ref b258)]))
        obtain ⟨cq292, kq292, q292a, q292b, q292c⟩ := isOf hZ eq290 w270_3
        obtain ⟨_, _, ⟨T292, L292, k292, n292⟩, -, X292, ⟨Lc292, hQ292, l292, y292, z292⟩, st292⟩ := X290.virtualBack hx (y := (⟨"com/example/closemark/closemark/prices/StandingQuotes", "hasBidAndAsk", "()Z"⟩ : MethodName)) (z := (⟨"com/example/closemark/closemark/prices/StandingQuotes", "hasBidAndAsk", "()Z"⟩ : MethodName)) hown (mvT hZ (hw _ (List.mem_of_getElem? (i := 47) rfl))) (mvT hZ (hw _ (List.mem_of_getElem? (i := 48) rfl))) (notFace_of_selects (args := #[]) (mvT hZ (hw _ (List.mem_of_getElem? (i := 50) rfl)))) (mvT hZ (hw _ (List.mem_of_getElem? (i := 50) rfl))) (mvT hZ (hw _ (List.mem_of_getElem? (i := 49) rfl))) (by decide) (backOf (W := 0) (rm_hb0 l Z a0 hw [] b258 x_270 h270 n0 O287 w270_4 w270_6 w270_8) hZ (hw _ (List.mem_of_getElem? (i := 51) rfl)) (hw _ (List.mem_of_getElem? (i := 31) rfl)) (by decide) (by decide)) q292a q292c (g := (mkF me_ 211 #[.val (.int p0), .val (.long p1), .second, .val (.int (0 : Int32)), .val (.int (0 : Int32)), .val (.int (1 : Int32)), .val (.ref b225), .val (.ref b239), .val (.ref b258), .val (.int (1 : Int32)), .val (.int (0 : Int32))] [(.ref b258)])) rfl (by rw [hml]; rfl) (Steps.refl _) (argsL := []) (rest := []) (lenOf pd_5 rfl) rfl (by show 2 * 0 + _ ≤ _; exact Nat.le_of_eq rfl) (hb hby at_211) (fun _ _ => ⟨rfl, eq290, (by decide : 5 + 0 ≤ _), (by decide : 14 + 0 ≤ _)⟩)
        dsimp only [Pt.U, Pt.locs, Pt.cells, Pt.slots] at X292 l292 y292 z292 st292 hQ292
        subst l292 y292 z292
        obtain ⟨rfl, Nq292, eq292⟩ := hQ292
        have N293 := Fr.app N291 Nq292
        refine gv (fun tQ kQ => st292.trans kQ) ?_
        show G (T292.setTop (mkF me_ 214 #[.val (.int p0), .val (.long p1), .second, .val (.int (0 : Int32)), .val (.int (0 : Int32)), .val (.int (1 : Int32)), .val (.ref b225), .val (.ref b239), .val (.ref b258), .val (.int (1 : Int32)), .val (.int (0 : Int32))] [(.int (0 : Int32))]))
        refine gv (fun tQ kQ => XS.iload X292.here hx rfl (hb hby at_214) rfl kQ) ?_
        show G (T292.setTop (mkF me_ 216 #[.val (.int p0), .val (.long p1), .second, .val (.int (0 : Int32)), .val (.int (0 : Int32)), .val (.int (1 : Int32)), .val (.ref b225), .val (.ref b239), .val (.ref b258), .val (.int (1 : Int32)), .val (.int (0 : Int32))] [(.int (0 : Int32)), (.int (0 : Int32))]))
        refine gv (fun tQ kQ => XS.icmpNo X292.here hx rfl (hb hby at_216) rfl (teq (by decide : (0 : Int32) = (0 : Int32))).2 kQ) ?_
        show G (T292.setTop (mkF me_ 219 #[.val (.int p0), .val (.long p1), .second, .val (.int (0 : Int32)), .val (.int (0 : Int32)), .val (.int (1 : Int32)), .val (.ref b225), .val (.ref b239), .val (.ref b258), .val (.int (1 : Int32)), .val (.int (0 : Int32))] []))
        refine gv (fun tQ kQ => XS.iconst X292.here hx rfl (hb hby at_219) kQ) ?_
        show G (T292.setTop (mkF me_ 220 #[.val (.int p0), .val (.long p1), .second, .val (.int (0 : Int32)), .val (.int (0 : Int32)), .val (.int (1 : Int32)), .val (.ref b225), .val (.ref b239), .val (.ref b258), .val (.int (1 : Int32)), .val (.int (0 : Int32))] [(.int (1 : Int32))]))
        refine gv (fun tQ kQ => XS.goto X292.here hx rfl (pc0 := 220) (pc' := 224) rfl (hb hby at_220) (by decide) (by decide) kQ) ?_
        show G (T292.setTop (mkF me_ 224 #[.val (.int p0), .val (.long p1), .second, .val (.int (0 : Int32)), .val (.int (0 : Int32)), .val (.int (1 : Int32)), .val (.ref b225), .val (.ref b239), .val (.ref b258), .val (.int (1 : Int32)), .val (.int (0 : Int32))] [(.int (1 : Int32))]))
        refine gf _ (own_ret X292 Bd.notSynchronized (v := some (.int (1 : Int32))) (fun h => by rw [Bd.returns] at h; cases h) ?_ (by decide) (by decide) (fun fs hr => retN X292 hx (t := .boolean) Bd.returns (by simp) (hb hby at_224) hr))
        show Q0 Z p0 p1 A_BID A_ASK h0 n0 _ T292.heap _
        rw [eq292]
        exact ⟨rfl, N293⟩
    · refine gv (fun tQ kQ => XS.ifNo X0.here hx rfl (hb hby at_15) rfl ((if0 _ _).trans (feq hc154).1) kQ) ?_
      show G (s₁.setTop (mkF me_ 18 #[.val (.int p0), .val (.long p1), .second, .val (.int (0 : Int32)), .unset, .unset, .unset, .unset, .unset, .unset, .unset] []))
      refine gv (fun tQ kQ => XS.iconst X0.here hx rfl (hb hby at_18) kQ) ?_
      show G (s₁.setTop (mkF me_ 19 #[.val (.int p0), .val (.long p1), .second, .val (.int (0 : Int32)), .unset, .unset, .unset, .unset, .unset, .unset, .unset] [(.int (1 : Int32))]))
      refine gv (fun tQ kQ => XS.goto X0.here hx rfl (pc0 := 19) (pc' := 23) rfl (hb hby at_19) (by decide) (by decide) kQ) ?_
      show G (s₁.setTop (mkF me_ 23 #[.val (.int p0), .val (.long p1), .second, .val (.int (0 : Int32)), .unset, .unset, .unset, .unset, .unset, .unset, .unset] [(.int (1 : Int32))]))
      refine gv (fun tQ kQ => XS.istore X0.here hx rfl (hb hby at_23) rfl (l' := #[.val (.int p0), .val (.long p1), .second, .val (.int (0 : Int32)), .val (.int (1 : Int32)), .unset, .unset, .unset, .unset, .unset, .unset]) rfl kQ) ?_
      show G (s₁.setTop (mkF me_ 25 #[.val (.int p0), .val (.long p1), .second, .val (.int (0 : Int32)), .val (.int (1 : Int32)), .unset, .unset, .unset, .unset, .unset, .unset] []))
      refine gv (fun tQ kQ => XS.iloadN X0.here hx rfl (hb hby at_25) rfl kQ) ?_
      show G (s₁.setTop (mkF me_ 26 #[.val (.int p0), .val (.long p1), .second, .val (.int (0 : Int32)), .val (.int (1 : Int32)), .unset, .unset, .unset, .unset, .unset, .unset] [(.int p0)]))
      refine gv (fun tQ kQ => XS.iconst X0.here hx rfl (hb hby at_26) kQ) ?_
      show G (s₁.setTop (mkF me_ 27 #[.val (.int p0), .val (.long p1), .second, .val (.int (0 : Int32)), .val (.int (1 : Int32)), .unset, .unset, .unset, .unset, .unset, .unset] [(.int (4 : Int32)), (.int p0)]))
      refine gv (fun tQ kQ => XS.iand X0.here hx rfl (hb hby at_27) rfl kQ) ?_
      show G (s₁.setTop (mkF me_ 28 #[.val (.int p0), .val (.long p1), .second, .val (.int (0 : Int32)), .val (.int (1 : Int32)), .unset, .unset, .unset, .unset, .unset, .unset] [(.int (p0 &&& (4 : Int32)))]))
      by_cases hc294 : (p0 &&& (4 : Int32)) = (0 : Int32)
      · refine gv (fun tQ kQ => XS.ifYes X0.here hx rfl (pc0 := 28) (pc' := 35) rfl (hb hby at_28) rfl ((if0 _ _).trans (teq hc294).1) (by decide) (by decide) kQ) ?_
        show G (s₁.setTop (mkF me_ 35 #[.val (.int p0), .val (.long p1), .second, .val (.int (0 : Int32)), .val (.int (1 : Int32)), .unset, .unset, .unset, .unset, .unset, .unset] []))
        refine gv (fun tQ kQ => XS.iconst X0.here hx rfl (hb hby at_35) kQ) ?_
        show G (s₁.setTop (mkF me_ 36 #[.val (.int p0), .val (.long p1), .second, .val (.int (0 : Int32)), .val (.int (1 : Int32)), .unset, .unset, .unset, .unset, .unset, .unset] [(.int (0 : Int32))]))
        refine gv (fun tQ kQ => XS.istore X0.here hx rfl (hb hby at_36) rfl (l' := #[.val (.int p0), .val (.long p1), .second, .val (.int (0 : Int32)), .val (.int (1 : Int32)), .val (.int (0 : Int32)), .unset, .unset, .unset, .unset, .unset]) rfl kQ) ?_
        show G (s₁.setTop (mkF me_ 38 #[.val (.int p0), .val (.long p1), .second, .val (.int (0 : Int32)), .val (.int (1 : Int32)), .val (.int (0 : Int32)), .unset, .unset, .unset, .unset, .unset] []))
        obtain ⟨T295, h295, X295, e295, E295, A295, D295, -, st295⟩ := newO X0 hx hZ hown (hw _ (List.mem_of_getElem? (i := 0) rfl)) (hw _ (List.mem_of_getElem? (i := 1) rfl)) (hw _ (List.mem_of_getElem? (i := 2) rfl)) e0 (g := (mkF me_ 38 #[.val (.int p0), .val (.long p1), .second, .val (.int (0 : Int32)), .val (.int (1 : Int32)), .val (.int (0 : Int32)), .unset, .unset, .unset, .unset, .unset] [])) rfl (hb hby at_38) (by decide) (by decide)
        obtain ⟨b295, g295⟩ : ∃ z, z = h0.size := ⟨_, rfl⟩
        rw [← g295] at A295 D295 st295
        refine gv st295 ?_
        have g296 : n0 ≤ b295 := Nat.le_trans (own_old O0) (Nat.le_of_eq g295.symm)
        have O298 := O0.ext E295
        have f299 : Fld Z h295 b295 "com/example/closemark/closemark/tape/TapeRow" "time" "Ljava/time/Instant;" .null := D295 (Or.inr (hw _ (List.mem_of_getElem? (i := 18) rfl))) (ty := (.object "java/time/Instant")) (by decide)
        have f300 : Fld Z h295 b295 "com/example/closemark/closemark/tape/TapeRow" "symbol" "Ljava/lang/String;" .null := D295 (Or.inr (hw _ (List.mem_of_getElem? (i := 20) rfl))) (ty := (.object "java/lang/String")) (by decide)
        have f301 : Fld Z h295 b295 "com/example/closemark/closemark/tape/TapeRow" "kind" "Lcom/example/closemark/closemark/tape/TapeRow$Kind;" .null := D295 (Or.inr (hw _ (List.mem_of_getElem? (i := 22) rfl))) (ty := (.object "com/example/closemark/closemark/tape/TapeRow$Kind")) (by decide)
        have f302 : Fld Z h295 b295 "com/example/closemark/closemark/tape/TapeRow" "price" "Ljava/math/BigDecimal;" .null := D295 (Or.inr (hw _ (List.mem_of_getElem? (i := 24) rfl))) (ty := (.object "java/math/BigDecimal")) (by decide)
        have f303 : Fld Z h295 b295 "com/example/closemark/closemark/tape/TapeRow" "qty" "J" (.long (0 : Int64)) := D295 (Or.inr (hw _ (List.mem_of_getElem? (i := 26) rfl))) (ty := .long) (by decide)
        show G (T295.setTop (mkF me_ 41 #[.val (.int p0), .val (.long p1), .second, .val (.int (0 : Int32)), .val (.int (1 : Int32)), .val (.int (0 : Int32)), .unset, .unset, .unset, .unset, .unset] [(.ref b295)]))
        refine gv (fun tQ kQ => XS.dup X295.here hx rfl (hb hby at_41) rfl rfl kQ) ?_
        show G (T295.setTop (mkF me_ 42 #[.val (.int p0), .val (.long p1), .second, .val (.int (0 : Int32)), .val (.int (1 : Int32)), .val (.int (0 : Int32)), .unset, .unset, .unset, .unset, .unset] [(.ref b295), (.ref b295)]))
        refine gv (fun tQ kQ => XS.aconstNull X295.here hx rfl (hb hby at_42) kQ) ?_
        show G (T295.setTop (mkF me_ 43 #[.val (.int p0), .val (.long p1), .second, .val (.int (0 : Int32)), .val (.int (1 : Int32)), .val (.int (0 : Int32)), .unset, .unset, .unset, .unset, .unset] [.null, (.ref b295), (.ref b295)]))
        refine gv (fun tQ kQ => XS.aconstNull X295.here hx rfl (hb hby at_43) kQ) ?_
        show G (T295.setTop (mkF me_ 44 #[.val (.int p0), .val (.long p1), .second, .val (.int (0 : Int32)), .val (.int (1 : Int32)), .val (.int (0 : Int32)), .unset, .unset, .unset, .unset, .unset] [.null, .null, (.ref b295), (.ref b295)]))
        obtain ⟨T304, X304, e304, st304⟩ := getS2 X295 hx hZ hown (host := "") (Or.inl (hw _ (List.mem_of_getElem? (i := 3) rfl))) Via.refl e295 (u0.ext O298.2) (g := (mkF me_ 44 #[.val (.int p0), .val (.long p1), .second, .val (.int (0 : Int32)), .val (.int (1 : Int32)), .val (.int (0 : Int32)), .unset, .unset, .unset, .unset, .unset] [.null, .null, (.ref b295), (.ref b295)])) rfl (hb hby at_44)
        refine gv st304 ?_
        show G (T304.setTop (mkF me_ 47 #[.val (.int p0), .val (.long p1), .second, .val (.int (0 : Int32)), .val (.int (1 : Int32)), .val (.int (0 : Int32)), .unset, .unset, .unset, .unset, .unset] [(.ref A_BID), .null, .null, (.ref b295), (.ref b295)]))
        refine gv (fun tQ kQ => XS.aconstNull X304.here hx rfl (hb hby at_47) kQ) ?_
        show G (T304.setTop (mkF me_ 48 #[.val (.int p0), .val (.long p1), .second, .val (.int (0 : Int32)), .val (.int (1 : Int32)), .val (.int (0 : Int32)), .unset, .unset, .unset, .unset, .unset] [.null, (.ref A_BID), .null, .null, (.ref b295), (.ref b295)]))
        refine gv (fun tQ kQ => XS.lloadN X304.here hx rfl (hb hby at_48) rfl kQ) ?_
        show G (T304.setTop (mkF me_ 49 #[.val (.int p0), .val (.long p1), .second, .val (.int (0 : Int32)), .val (.int (1 : Int32)), .val (.int (0 : Int32)), .unset, .unset, .unset, .unset, .unset] [(.long p1), .null, (.ref A_BID), .null, .null, (.ref b295), (.ref b295)]))
        obtain ⟨_, _, ⟨T305, L305, k305, n305⟩, -, X305, ⟨Lc305, hQ305, l305, y305, z305⟩, st305⟩ := X304.specialBack hx (y := (⟨"com/example/closemark/closemark/tape/TapeRow", "<init>", "(Ljava/time/Instant;Ljava/lang/String;Lcom/example/closemark/closemark/tape/TapeRow$Kind;Ljava/math/BigDecimal;J)V"⟩ : MethodName)) rfl hown (mvT hZ (hw _ (List.mem_of_getElem? (i := 6) rfl))) (mvT hZ (hw _ (List.mem_of_getElem? (i := 7) rfl))) (mvT hZ (hw _ (List.mem_of_getElem? (i := 8) rfl))) (by decide) (backOf (W := 1) (rm_tri l Z a0 hw [] b295 A_BID p1 h295 n0 O298 A295 f299 f300 f301 f302 f303 g296) hZ (hw _ (List.mem_of_getElem? (i := 8) rfl)) (hw _ (List.mem_of_getElem? (i := 2) rfl)) (by decide) (by decide)) (g := (mkF me_ 49 #[.val (.int p0), .val (.long p1), .second, .val (.int (0 : Int32)), .val (.int (1 : Int32)), .val (.int (0 : Int32)), .unset, .unset, .unset, .unset, .unset] [(.long p1), .null, (.ref A_BID), .null, .null, (.ref b295), (.ref b295)])) rfl (by rw [hml]; rfl) (Steps.refl _) (a := b295) (argsL := [.null, .null, (.ref A_BID), .null, (.long p1)]) (rest := [(.ref b295)]) (lenOf pd_4 rfl) rfl (by show 2 * 0 + _ ≤ _; exact Nat.le_of_eq rfl) (hb hby at_49) (fun _ _ => ⟨rfl, e304, (by decide : 1 + 0 ≤ _), (by decide : 5 + 0 ≤ _)⟩)
        dsimp only [Pt.U, Pt.locs, Pt.cells, Pt.slots] at X305 l305 y305 z305 st305 hQ305
        subst l305 y305 z305
        obtain ⟨rfl, Nq305, Kq305, w305_0, w305_1⟩ := hQ305
        have N306 := Fr.app N0 Nq305
        obtain ⟨h305, e305⟩ : ∃ z, T305.heap = z := ⟨_, rfl⟩
        rw [e305] at Kq305 w305_0 w305_1
        have f307 : Exa Z h305 b295 "com/example/closemark/closemark/tape/TapeRow" := A295.keep Kq305
        have O308 := O298.keep Kq305 (allS g296 all0)
        refine gv (fun tQ kQ => st305.trans kQ) ?_
        show G (T305.setTop (mkF me_ 52 #[.val (.int p0), .val (.long p1), .second, .val (.int (0 : Int32)), .val (.int (1 : Int32)), .val (.int (0 : Int32)), .unset, .unset, .unset, .unset, .unset] [(.ref b295)]))
        refine gv (fun tQ kQ => XS.astore X305.here hx rfl (hb hby at_52) rfl rfl (l' := #[.val (.int p0), .val (.long p1), .second, .val (.int (0 : Int32)), .val (.int (1 : Int32)), .val (.int (0 : Int32)), .val (.ref b295), .unset, .unset, .unset, .unset]) rfl kQ) ?_
        show G (T305.setTop (mkF me_ 54 #[.val (.int p0), .val (.long p1), .second, .val (.int (0 : Int32)), .val (.int (1 : Int32)), .val (.int (0 : Int32)), .val (.ref b295), .unset, .unset, .unset, .unset] []))
        obtain ⟨T309, h309, X309, e309, E309, A309, D309, -, st309⟩ := newO X305 hx hZ hown (hw _ (List.mem_of_getElem? (i := 0) rfl)) (hw _ (List.mem_of_getElem? (i := 1) rfl)) (hw _ (List.mem_of_getElem? (i := 2) rfl)) e305 (g := (mkF me_ 54 #[.val (.int p0), .val (.long p1), .second, .val (.int (0 : Int32)), .val (.int (1 : Int32)), .val (.int (0 : Int32)), .val (.ref b295), .unset, .unset, .unset, .unset] [])) rfl (hb hby at_54) (by decide) (by decide)
        obtain ⟨b309, g309⟩ : ∃ z, z = h305.size := ⟨_, rfl⟩
        rw [← g309] at A309 D309 st309
        refine gv st309 ?_
        have ne310 : b295 ≠ b309 := Nat.ne_of_lt (Nat.lt_of_lt_of_le w305_0.lt (Nat.le_of_eq g309.symm))
        have g311 : n0 ≤ b309 := Nat.le_trans (own_old O308) (Nat.le_of_eq g309.symm)
        have f313 : Exa Z h309 b295 "com/example/closemark/closemark/tape/TapeRow" := w305_0.ext E309
        have f314 : Fld Z h309 b295 "com/example/closemark/closemark/tape/TapeRow" "kind" "Lcom/example/closemark/closemark/tape/TapeRow$Kind;" (.ref A_BID) := w305_1.ext E309
        have O315 := O308.ext E309
        have f316 : Fld Z h309 b309 "com/example/closemark/closemark/tape/TapeRow" "time" "Ljava/time/Instant;" .null := D309 (Or.inr (hw _ (List.mem_of_getElem? (i := 18) rfl))) (ty := (.object "java/time/Instant")) (by decide)
        have f317 : Fld Z h309 b309 "com/example/closemark/closemark/tape/TapeRow" "symbol" "Ljava/lang/String;" .null := D309 (Or.inr (hw _ (List.mem_of_getElem? (i := 20) rfl))) (ty := (.object "java/lang/String")) (by decide)
        have f318 : Fld Z h309 b309 "com/example/closemark/closemark/tape/TapeRow" "kind" "Lcom/example/closemark/closemark/tape/TapeRow$Kind;" .null := D309 (Or.inr (hw _ (List.mem_of_getElem? (i := 22) rfl))) (ty := (.object "com/example/closemark/closemark/tape/TapeRow$Kind")) (by decide)
        have f319 : Fld Z h309 b309 "com/example/closemark/closemark/tape/TapeRow" "price" "Ljava/math/BigDecimal;" .null := D309 (Or.inr (hw _ (List.mem_of_getElem? (i := 24) rfl))) (ty := (.object "java/math/BigDecimal")) (by decide)
        have f320 : Fld Z h309 b309 "com/example/closemark/closemark/tape/TapeRow" "qty" "J" (.long (0 : Int64)) := D309 (Or.inr (hw _ (List.mem_of_getElem? (i := 26) rfl))) (ty := .long) (by decide)
        show G (T309.setTop (mkF me_ 57 #[.val (.int p0), .val (.long p1), .second, .val (.int (0 : Int32)), .val (.int (1 : Int32)), .val (.int (0 : Int32)), .val (.ref b295), .unset, .unset, .unset, .unset] [(.ref b309)]))
        refine gv (fun tQ kQ => XS.dup X309.here hx rfl (hb hby at_57) rfl rfl kQ) ?_
        show G (T309.setTop (mkF me_ 58 #[.val (.int p0), .val (.long p1), .second, .val (.int (0 : Int32)), .val (.int (1 : Int32)), .val (.int (0 : Int32)), .val (.ref b295), .unset, .unset, .unset, .unset] [(.ref b309), (.ref b309)]))
        refine gv (fun tQ kQ => XS.aconstNull X309.here hx rfl (hb hby at_58) kQ) ?_
        show G (T309.setTop (mkF me_ 59 #[.val (.int p0), .val (.long p1), .second, .val (.int (0 : Int32)), .val (.int (1 : Int32)), .val (.int (0 : Int32)), .val (.ref b295), .unset, .unset, .unset, .unset] [.null, (.ref b309), (.ref b309)]))
        refine gv (fun tQ kQ => XS.aconstNull X309.here hx rfl (hb hby at_59) kQ) ?_
        show G (T309.setTop (mkF me_ 60 #[.val (.int p0), .val (.long p1), .second, .val (.int (0 : Int32)), .val (.int (1 : Int32)), .val (.int (0 : Int32)), .val (.ref b295), .unset, .unset, .unset, .unset] [.null, .null, (.ref b309), (.ref b309)]))
        obtain ⟨T321, X321, e321, st321⟩ := getS2 X309 hx hZ hown (host := "") (Or.inl (hw _ (List.mem_of_getElem? (i := 27) rfl))) Via.refl e309 (u1.ext O315.2) (g := (mkF me_ 60 #[.val (.int p0), .val (.long p1), .second, .val (.int (0 : Int32)), .val (.int (1 : Int32)), .val (.int (0 : Int32)), .val (.ref b295), .unset, .unset, .unset, .unset] [.null, .null, (.ref b309), (.ref b309)])) rfl (hb hby at_60)
        refine gv st321 ?_
        show G (T321.setTop (mkF me_ 63 #[.val (.int p0), .val (.long p1), .second, .val (.int (0 : Int32)), .val (.int (1 : Int32)), .val (.int (0 : Int32)), .val (.ref b295), .unset, .unset, .unset, .unset] [(.ref A_ASK), .null, .null, (.ref b309), (.ref b309)]))
        refine gv (fun tQ kQ => XS.aconstNull X321.here hx rfl (hb hby at_63) kQ) ?_
        show G (T321.setTop (mkF me_ 64 #[.val (.int p0), .val (.long p1), .second, .val (.int (0 : Int32)), .val (.int (1 : Int32)), .val (.int (0 : Int32)), .val (.ref b295), .unset, .unset, .unset, .unset] [.null, (.ref A_ASK), .null, .null, (.ref b309), (.ref b309)]))
        refine gv (fun tQ kQ => XS.lloadN X321.here hx rfl (hb hby at_64) rfl kQ) ?_
        show G (T321.setTop (mkF me_ 65 #[.val (.int p0), .val (.long p1), .second, .val (.int (0 : Int32)), .val (.int (1 : Int32)), .val (.int (0 : Int32)), .val (.ref b295), .unset, .unset, .unset, .unset] [(.long p1), .null, (.ref A_ASK), .null, .null, (.ref b309), (.ref b309)]))
        obtain ⟨_, _, ⟨T322, L322, k322, n322⟩, -, X322, ⟨Lc322, hQ322, l322, y322, z322⟩, st322⟩ := X321.specialBack hx (y := (⟨"com/example/closemark/closemark/tape/TapeRow", "<init>", "(Ljava/time/Instant;Ljava/lang/String;Lcom/example/closemark/closemark/tape/TapeRow$Kind;Ljava/math/BigDecimal;J)V"⟩ : MethodName)) rfl hown (mvT hZ (hw _ (List.mem_of_getElem? (i := 6) rfl))) (mvT hZ (hw _ (List.mem_of_getElem? (i := 7) rfl))) (mvT hZ (hw _ (List.mem_of_getElem? (i := 8) rfl))) (by decide) (backOf (W := 1) (rm_tri l Z a0 hw [] b309 A_ASK p1 h309 n0 O315 A309 f316 f317 f318 f319 f320 g311) hZ (hw _ (List.mem_of_getElem? (i := 8) rfl)) (hw _ (List.mem_of_getElem? (i := 2) rfl)) (by decide) (by decide)) (g := (mkF me_ 65 #[.val (.int p0), .val (.long p1), .second, .val (.int (0 : Int32)), .val (.int (1 : Int32)), .val (.int (0 : Int32)), .val (.ref b295), .unset, .unset, .unset, .unset] [(.long p1), .null, (.ref A_ASK), .null, .null, (.ref b309), (.ref b309)])) rfl (by rw [hml]; rfl) (Steps.refl _) (a := b309) (argsL := [.null, .null, (.ref A_ASK), .null, (.long p1)]) (rest := [(.ref b309)]) (lenOf pd_4 rfl) rfl (by show 2 * 0 + _ ≤ _; exact Nat.le_of_eq rfl) (hb hby at_65) (fun _ _ => ⟨rfl, e321, (by decide : 2 + 0 ≤ _), (by decide : 10 + 0 ≤ _)⟩)
        dsimp only [Pt.U, Pt.locs, Pt.cells, Pt.slots] at X322 l322 y322 z322 st322 hQ322
        subst l322 y322 z322
        obtain ⟨rfl, Nq322, Kq322, w322_0, w322_1⟩ := hQ322
        have N323 := Fr.app N306 Nq322
        obtain ⟨h322, e322⟩ : ∃ z, T322.heap = z := ⟨_, rfl⟩
        rw [e322] at Kq322 w322_0 w322_1
        have f324 : Exa Z h322 b295 "com/example/closemark/closemark/tape/TapeRow" := f313.keep Kq322
        have f325 : Fld Z h322 b295 "com/example/closemark/closemark/tape/TapeRow" "kind" "Lcom/example/closemark/closemark/tape/TapeRow$Kind;" (.ref A_BID) := f314.keep Kq322 (ninS ne310 nin0)
        have f326 : Exa Z h322 b309 "com/example/closemark/closemark/tape/TapeRow" := A309.keep Kq322
        have O327 := O315.keep Kq322 (allS g311 all0)
        refine gv (fun tQ kQ => st322.trans kQ) ?_
        show G (T322.setTop (mkF me_ 68 #[.val (.int p0), .val (.long p1), .second, .val (.int (0 : Int32)), .val (.int (1 : Int32)), .val (.int (0 : Int32)), .val (.ref b295), .unset, .unset, .unset, .unset] [(.ref b309)]))
        refine gv (fun tQ kQ => XS.astore X322.here hx rfl (hb hby at_68) rfl rfl (l' := #[.val (.int p0), .val (.long p1), .second, .val (.int (0 : Int32)), .val (.int (1 : Int32)), .val (.int (0 : Int32)), .val (.ref b295), .val (.ref b309), .unset, .unset, .unset]) rfl kQ) ?_
        show G (T322.setTop (mkF me_ 70 #[.val (.int p0), .val (.long p1), .second, .val (.int (0 : Int32)), .val (.int (1 : Int32)), .val (.int (0 : Int32)), .val (.ref b295), .val (.ref b309), .unset, .unset, .unset] []))
        obtain ⟨T328, h328, X328, e328, E328, A328, D328, -, st328⟩ := newO X322 hx hZ hown (hw _ (List.mem_of_getElem? (i := 29) rfl)) (hw _ (List.mem_of_getElem? (i := 30) rfl)) (hw _ (List.mem_of_getElem? (i := 31) rfl)) e322 (g := (mkF me_ 70 #[.val (.int p0), .val (.long p1), .second, .val (.int (0 : Int32)), .val (.int (1 : Int32)), .val (.int (0 : Int32)), .val (.ref b295), .val (.ref b309), .unset, .unset, .unset] [])) rfl (hb hby at_70) (by decide) (by decide)
        obtain ⟨b328, g328⟩ : ∃ z, z = h322.size := ⟨_, rfl⟩
        rw [← g328] at A328 D328 st328
        refine gv st328 ?_
        have ne329 : b295 ≠ b328 := Nat.ne_of_lt (Nat.lt_of_lt_of_le f324.lt (Nat.le_of_eq g328.symm))
        have ne330 : b309 ≠ b328 := Nat.ne_of_lt (Nat.lt_of_lt_of_le w322_0.lt (Nat.le_of_eq g328.symm))
        have g331 : n0 ≤ b328 := Nat.le_trans (own_old O327) (Nat.le_of_eq g328.symm)
        have f333 : Exa Z h328 b295 "com/example/closemark/closemark/tape/TapeRow" := f324.ext E328
        have f334 : Fld Z h328 b295 "com/example/closemark/closemark/tape/TapeRow" "kind" "Lcom/example/closemark/closemark/tape/TapeRow$Kind;" (.ref A_BID) := f325.ext E328
        have f335 : Exa Z h328 b309 "com/example/closemark/closemark/tape/TapeRow" := w322_0.ext E328
        have f336 : Fld Z h328 b309 "com/example/closemark/closemark/tape/TapeRow" "kind" "Lcom/example/closemark/closemark/tape/TapeRow$Kind;" (.ref A_ASK) := w322_1.ext E328
        have O337 := O327.ext E328
        have f338 : Fld Z h328 b328 "com/example/closemark/closemark/prices/StandingQuotes" "bid" "Lcom/example/closemark/closemark/prices/LatestRow;" .null := D328 (Or.inr (hw _ (List.mem_of_getElem? (i := 44) rfl))) (ty := (.object "com/example/closemark/closemark/prices/LatestRow")) (by decide)
        have f339 : Fld Z h328 b328 "com/example/closemark/closemark/prices/StandingQuotes" "ask" "Lcom/example/closemark/closemark/prices/LatestRow;" .null := D328 (Or.inr (hw _ (List.mem_of_getElem? (i := 46) rfl))) (ty := (.object "com/example/closemark/closemark/prices/LatestRow")) (by decide)
        show G (T328.setTop (mkF me_ 73 #[.val (.int p0), .val (.long p1), .second, .val (.int (0 : Int32)), .val (.int (1 : Int32)), .val (.int (0 : Int32)), .val (.ref b295), .val (.ref b309), .unset, .unset, .unset] [(.ref b328)]))
        refine gv (fun tQ kQ => XS.dup X328.here hx rfl (hb hby at_73) rfl rfl kQ) ?_
        show G (T328.setTop (mkF me_ 74 #[.val (.int p0), .val (.long p1), .second, .val (.int (0 : Int32)), .val (.int (1 : Int32)), .val (.int (0 : Int32)), .val (.ref b295), .val (.ref b309), .unset, .unset, .unset] [(.ref b328), (.ref b328)]))
        obtain ⟨_, _, ⟨T340, L340, k340, n340⟩, -, X340, ⟨Lc340, hQ340, l340, y340, z340⟩, st340⟩ := X328.specialBack hx (y := (⟨"com/example/closemark/closemark/prices/StandingQuotes", "<init>", "()V"⟩ : MethodName)) rfl hown (mvT hZ (hw _ (List.mem_of_getElem? (i := 32) rfl))) (mvT hZ (hw _ (List.mem_of_getElem? (i := 33) rfl))) (mvT hZ (hw _ (List.mem_of_getElem? (i := 34) rfl))) (by decide) (backOf (W := 1) (rm_sqi l Z a0 hw [] b328 h328 n0 O337 A328 f338 f339 g331) hZ (hw _ (List.mem_of_getElem? (i := 34) rfl)) (hw _ (List.mem_of_getElem? (i := 31) rfl)) (by decide) (by decide)) (g := (mkF me_ 74 #[.val (.int p0), .val (.long p1), .second, .val (.int (0 : Int32)), .val (.int (1 : Int32)), .val (.int (0 : Int32)), .val (.ref b295), .val (.ref b309), .unset, .unset, .unset] [(.ref b328), (.ref b328)])) rfl (by rw [hml]; rfl) (Steps.refl _) (a := b328) (argsL := []) (rest := [(.ref b328)]) (lenOf pd_0 rfl) rfl (by show 2 * 0 + _ ≤ _; exact Nat.le_of_eq rfl) (hb hby at_74) (fun _ _ => ⟨rfl, e328, (by decide : 3 + 2 ≤ _), (by decide : 12 + 2 ≤ _)⟩)
        dsimp only [Pt.U, Pt.locs, Pt.cells, Pt.slots] at X340 l340 y340 z340 st340 hQ340
        subst l340 y340 z340
        obtain ⟨x_340, y_340, rfl, Nq340, Kq340, w340_0, w340_1, w340_2, w340_3, w340_4, w340_5, w340_6, w340_7, w340_8, w340_9⟩ := hQ340
        have N341 := Fr.app N323 Nq340
        obtain ⟨h340, e340⟩ : ∃ z, T340.heap = z := ⟨_, rfl⟩
        rw [e340] at Kq340 w340_3 w340_4 w340_5 w340_6 w340_7 w340_8 w340_9
        have ne342 : b295 ≠ x_340 := Nat.ne_of_lt (Nat.lt_of_lt_of_le f333.lt w340_0)
        have ne343 : b309 ≠ x_340 := Nat.ne_of_lt (Nat.lt_of_lt_of_le f335.lt w340_0)
        have ne344 : b328 ≠ x_340 := Nat.ne_of_lt (Nat.lt_of_lt_of_le A328.lt w340_0)
        have g345 : n0 ≤ x_340 := Nat.le_trans (own_old O337) w340_0
        have ne347 : b295 ≠ y_340 := Nat.ne_of_lt (Nat.lt_of_lt_of_le f333.lt w340_1)
        have ne348 : b309 ≠ y_340 := Nat.ne_of_lt (Nat.lt_of_lt_of_le f335.lt w340_1)
        have ne349 : b328 ≠ y_340 := Nat.ne_of_lt (Nat.lt_of_lt_of_le A328.lt w340_1)
        have g350 : n0 ≤ y_340 := Nat.le_trans (own_old O337) w340_1
        have f352 : Exa Z h340 b295 "com/example/closemark/closemark/tape/TapeRow" := f333.keep Kq340
        have f353 : Fld Z h340 b295 "com/example/closemark/closemark/tape/TapeRow" "kind" "Lcom/example/closemark/closemark/tape/TapeRow$Kind;" (.ref A_BID) := f334.keep Kq340 (ninS ne329 nin0)
        have f354 : Exa Z h340 b309 "com/example/closemark/closemark/tape/TapeRow" := f335.keep Kq340
        have f355 : Fld Z h340 b309 "com/example/closemark/closemark/tape/TapeRow" "kind" "Lcom/example/closemark/closemark/tape/TapeRow$Kind;" (.ref A_ASK) := f336.keep Kq340 (ninS ne330 nin0)
        have f356 : Exa Z h340 b328 "com/example/closemark/closemark/prices/StandingQuotes" := A328.keep Kq340
        have O357 := O337.keep Kq340 (allS g331 all0)
        refine gv (fun tQ kQ => st340.trans kQ) ?_
        show G (T340.setTop (mkF me_ 77 #[.val (.int p0), .val (.long p1), .second, .val (.int (0 : Int32)), .val (.int (1 : Int32)), .val (.int (0 : Int32)), .val (.ref b295), .val (.ref b309), .unset, .unset, .unset] [(.ref b328)]))
        refine gv (fun tQ kQ => XS.astore X340.here hx rfl (hb hby at_77) rfl rfl (l' := #[.val (.int p0), .val (.long p1), .second, .val (.int (0 : Int32)), .val (.int (1 : Int32)), .val (.int (0 : Int32)), .val (.ref b295), .val (.ref b309), .val (.ref b328), .unset, .unset]) rfl kQ) ?_
        show G (T340.setTop (mkF me_ 79 #[.val (.int p0), .val (.long p1), .second, .val (.int (0 : Int32)), .val (.int (1 : Int32)), .val (.int (0 : Int32)), .val (.ref b295), .val (.ref b309), .val (.ref b328), .unset, .unset] []))
        refine gv (fun tQ kQ => XS.aload X340.here hx rfl (hb hby at_79) rfl rfl kQ) ?_
        show G (T340.setTop (mkF me_ 81 #[.val (.int p0), .val (.long p1), .second, .val (.int (0 : Int32)), .val (.int (1 : Int32)), .val (.int (0 : Int32)), .val (.ref b295), .val (.ref b309), .val (.ref b328), .unset, .unset] [(.ref b328)]))
        obtain ⟨cq358, kq358, q358a, q358b, q358c⟩ := isOf hZ e340 w340_3
        obtain ⟨_, _, ⟨T358, L358, k358, n358⟩, -, X358, ⟨Lc358, hQ358, l358, y358, z358⟩, st358⟩ := X340.virtualBack hx (y := (⟨"com/example/closemark/closemark/prices/StandingQuotes", "hasBidAndAsk", "()Z"⟩ : MethodName)) (z := (⟨"com/example/closemark/closemark/prices/StandingQuotes", "hasBidAndAsk", "()Z"⟩ : MethodName)) hown (mvT hZ (hw _ (List.mem_of_getElem? (i := 47) rfl))) (mvT hZ (hw _ (List.mem_of_getElem? (i := 48) rfl))) (notFace_of_selects (args := #[]) (mvT hZ (hw _ (List.mem_of_getElem? (i := 50) rfl)))) (mvT hZ (hw _ (List.mem_of_getElem? (i := 50) rfl))) (mvT hZ (hw _ (List.mem_of_getElem? (i := 49) rfl))) (by decide) (backOf (W := 0) (rm_hb0 l Z a0 hw [] b328 x_340 h340 n0 O357 w340_4 w340_6 w340_8) hZ (hw _ (List.mem_of_getElem? (i := 51) rfl)) (hw _ (List.mem_of_getElem? (i := 31) rfl)) (by decide) (by decide)) q358a q358c (g := (mkF me_ 81 #[.val (.int p0), .val (.long p1), .second, .val (.int (0 : Int32)), .val (.int (1 : Int32)), .val (.int (0 : Int32)), .val (.ref b295), .val (.ref b309), .val (.ref b328), .unset, .unset] [(.ref b328)])) rfl (by rw [hml]; rfl) (Steps.refl _) (argsL := []) (rest := []) (lenOf pd_5 rfl) rfl (by show 2 * 0 + _ ≤ _; exact Nat.le_of_eq rfl) (hb hby at_81) (fun _ _ => ⟨rfl, e340, (by decide : 5 + 0 ≤ _), (by decide : 14 + 0 ≤ _)⟩)
        dsimp only [Pt.U, Pt.locs, Pt.cells, Pt.slots] at X358 l358 y358 z358 st358 hQ358
        subst l358 y358 z358
        obtain ⟨rfl, Nq358, eq358⟩ := hQ358
        have N359 := Fr.app N341 Nq358
        refine gv (fun tQ kQ => st358.trans kQ) ?_
        show G (T358.setTop (mkF me_ 84 #[.val (.int p0), .val (.long p1), .second, .val (.int (0 : Int32)), .val (.int (1 : Int32)), .val (.int (0 : Int32)), .val (.ref b295), .val (.ref b309), .val (.ref b328), .unset, .unset] [(.int (0 : Int32))]))
        refine gv (fun tQ kQ => XS.ifNo X358.here hx rfl (hb hby at_84) rfl ((if0 _ _).trans (teq (by decide : (0 : Int32) = (0 : Int32))).2) kQ) ?_
        show G (T358.setTop (mkF me_ 87 #[.val (.int p0), .val (.long p1), .second, .val (.int (0 : Int32)), .val (.int (1 : Int32)), .val (.int (0 : Int32)), .val (.ref b295), .val (.ref b309), .val (.ref b328), .unset, .unset] []))
        refine gv (fun tQ kQ => XS.iconst X358.here hx rfl (hb hby at_87) kQ) ?_
        show G (T358.setTop (mkF me_ 88 #[.val (.int p0), .val (.long p1), .second, .val (.int (0 : Int32)), .val (.int (1 : Int32)), .val (.int (0 : Int32)), .val (.ref b295), .val (.ref b309), .val (.ref b328), .unset, .unset] [(.int (1 : Int32))]))
        refine gv (fun tQ kQ => XS.goto X358.here hx rfl (pc0 := 88) (pc' := 92) rfl (hb hby at_88) (by decide) (by decide) kQ) ?_
        show G (T358.setTop (mkF me_ 92 #[.val (.int p0), .val (.long p1), .second, .val (.int (0 : Int32)), .val (.int (1 : Int32)), .val (.int (0 : Int32)), .val (.ref b295), .val (.ref b309), .val (.ref b328), .unset, .unset] [(.int (1 : Int32))]))
        refine gv (fun tQ kQ => XS.istore X358.here hx rfl (hb hby at_92) rfl (l' := #[.val (.int p0), .val (.long p1), .second, .val (.int (0 : Int32)), .val (.int (1 : Int32)), .val (.int (0 : Int32)), .val (.ref b295), .val (.ref b309), .val (.ref b328), .val (.int (1 : Int32)), .unset]) rfl kQ) ?_
        show G (T358.setTop (mkF me_ 94 #[.val (.int p0), .val (.long p1), .second, .val (.int (0 : Int32)), .val (.int (1 : Int32)), .val (.int (0 : Int32)), .val (.ref b295), .val (.ref b309), .val (.ref b328), .val (.int (1 : Int32)), .unset] []))
        refine gv (fun tQ kQ => XS.iload X358.here hx rfl (hb hby at_94) rfl kQ) ?_
        show G (T358.setTop (mkF me_ 96 #[.val (.int p0), .val (.long p1), .second, .val (.int (0 : Int32)), .val (.int (1 : Int32)), .val (.int (0 : Int32)), .val (.ref b295), .val (.ref b309), .val (.ref b328), .val (.int (1 : Int32)), .unset] [(.int (0 : Int32))]))
        refine gv (fun tQ kQ => XS.ifYes X358.here hx rfl (pc0 := 96) (pc' := 145) rfl (hb hby at_96) rfl ((if0 _ _).trans (teq (by decide : (0 : Int32) = (0 : Int32))).1) (by decide) (by decide) kQ) ?_
        show G (T358.setTop (mkF me_ 145 #[.val (.int p0), .val (.long p1), .second, .val (.int (0 : Int32)), .val (.int (1 : Int32)), .val (.int (0 : Int32)), .val (.ref b295), .val (.ref b309), .val (.ref b328), .val (.int (1 : Int32)), .unset] []))
        refine gv (fun tQ kQ => XS.iloadN X358.here hx rfl (hb hby at_145) rfl kQ) ?_
        show G (T358.setTop (mkF me_ 146 #[.val (.int p0), .val (.long p1), .second, .val (.int (0 : Int32)), .val (.int (1 : Int32)), .val (.int (0 : Int32)), .val (.ref b295), .val (.ref b309), .val (.ref b328), .val (.int (1 : Int32)), .unset] [(.int (0 : Int32))]))
        refine gv (fun tQ kQ => XS.ifYes X358.here hx rfl (pc0 := 146) (pc' := 156) rfl (hb hby at_146) rfl ((if0 _ _).trans (teq (by decide : (0 : Int32) = (0 : Int32))).1) (by decide) (by decide) kQ) ?_
        show G (T358.setTop (mkF me_ 156 #[.val (.int p0), .val (.long p1), .second, .val (.int (0 : Int32)), .val (.int (1 : Int32)), .val (.int (0 : Int32)), .val (.ref b295), .val (.ref b309), .val (.ref b328), .val (.int (1 : Int32)), .unset] []))
        refine gv (fun tQ kQ => XS.iload X358.here hx rfl (hb hby at_156) rfl kQ) ?_
        show G (T358.setTop (mkF me_ 158 #[.val (.int p0), .val (.long p1), .second, .val (.int (0 : Int32)), .val (.int (1 : Int32)), .val (.int (0 : Int32)), .val (.ref b295), .val (.ref b309), .val (.ref b328), .val (.int (1 : Int32)), .unset] [(.int (1 : Int32))]))
        refine gv (fun tQ kQ => XS.ifNo X358.here hx rfl (hb hby at_158) rfl ((if0 _ _).trans (feq (by decide : ¬ ((1 : Int32) = (0 : Int32)))).1) kQ) ?_
        show G (T358.setTop (mkF me_ 161 #[.val (.int p0), .val (.long p1), .second, .val (.int (0 : Int32)), .val (.int (1 : Int32)), .val (.int (0 : Int32)), .val (.ref b295), .val (.ref b309), .val (.ref b328), .val (.int (1 : Int32)), .unset] []))
        refine gv (fun tQ kQ => XS.aload X358.here hx rfl (hb hby at_161) rfl rfl kQ) ?_
        show G (T358.setTop (mkF me_ 163 #[.val (.int p0), .val (.long p1), .second, .val (.int (0 : Int32)), .val (.int (1 : Int32)), .val (.int (0 : Int32)), .val (.ref b295), .val (.ref b309), .val (.ref b328), .val (.int (1 : Int32)), .unset] [(.ref b328)]))
        obtain ⟨cq360, kq360, q360a, q360b, q360c⟩ := isOf hZ eq358 w340_3
        obtain ⟨_, _, ⟨T360, L360, k360, n360⟩, -, X360, ⟨Lc360, hQ360, l360, y360, z360⟩, st360⟩ := X358.virtualBack hx (y := (⟨"com/example/closemark/closemark/prices/StandingQuotes", "hasBidAndAsk", "()Z"⟩ : MethodName)) (z := (⟨"com/example/closemark/closemark/prices/StandingQuotes", "hasBidAndAsk", "()Z"⟩ : MethodName)) hown (mvT hZ (hw _ (List.mem_of_getElem? (i := 47) rfl))) (mvT hZ (hw _ (List.mem_of_getElem? (i := 48) rfl))) (notFace_of_selects (args := #[]) (mvT hZ (hw _ (List.mem_of_getElem? (i := 50) rfl)))) (mvT hZ (hw _ (List.mem_of_getElem? (i := 50) rfl))) (mvT hZ (hw _ (List.mem_of_getElem? (i := 49) rfl))) (by decide) (backOf (W := 0) (rm_hb0 l Z a0 hw [] b328 x_340 h340 n0 O357 w340_4 w340_6 w340_8) hZ (hw _ (List.mem_of_getElem? (i := 51) rfl)) (hw _ (List.mem_of_getElem? (i := 31) rfl)) (by decide) (by decide)) q360a q360c (g := (mkF me_ 163 #[.val (.int p0), .val (.long p1), .second, .val (.int (0 : Int32)), .val (.int (1 : Int32)), .val (.int (0 : Int32)), .val (.ref b295), .val (.ref b309), .val (.ref b328), .val (.int (1 : Int32)), .unset] [(.ref b328)])) rfl (by rw [hml]; rfl) (Steps.refl _) (argsL := []) (rest := []) (lenOf pd_5 rfl) rfl (by show 2 * 0 + _ ≤ _; exact Nat.le_of_eq rfl) (hb hby at_163) (fun _ _ => ⟨rfl, eq358, (by decide : 5 + 0 ≤ _), (by decide : 14 + 0 ≤ _)⟩)
        dsimp only [Pt.U, Pt.locs, Pt.cells, Pt.slots] at X360 l360 y360 z360 st360 hQ360
        subst l360 y360 z360
        obtain ⟨rfl, Nq360, eq360⟩ := hQ360
        have N361 := Fr.app N359 Nq360
        refine gv (fun tQ kQ => st360.trans kQ) ?_
        show G (T360.setTop (mkF me_ 166 #[.val (.int p0), .val (.long p1), .second, .val (.int (0 : Int32)), .val (.int (1 : Int32)), .val (.int (0 : Int32)), .val (.ref b295), .val (.ref b309), .val (.ref b328), .val (.int (1 : Int32)), .unset] [(.int (0 : Int32))]))
        refine gv (fun tQ kQ => XS.ifNo X360.here hx rfl (hb hby at_166) rfl ((if0 _ _).trans (teq (by decide : (0 : Int32) = (0 : Int32))).2) kQ) ?_
        show G (T360.setTop (mkF me_ 169 #[.val (.int p0), .val (.long p1), .second, .val (.int (0 : Int32)), .val (.int (1 : Int32)), .val (.int (0 : Int32)), .val (.ref b295), .val (.ref b309), .val (.ref b328), .val (.int (1 : Int32)), .unset] []))
        refine gv (fun tQ kQ => XS.iconst X360.here hx rfl (hb hby at_169) kQ) ?_
        show G (T360.setTop (mkF me_ 170 #[.val (.int p0), .val (.long p1), .second, .val (.int (0 : Int32)), .val (.int (1 : Int32)), .val (.int (0 : Int32)), .val (.ref b295), .val (.ref b309), .val (.ref b328), .val (.int (1 : Int32)), .unset] [(.int (1 : Int32))]))
        refine gv (fun tQ kQ => XS.goto X360.here hx rfl (pc0 := 170) (pc' := 174) rfl (hb hby at_170) (by decide) (by decide) kQ) ?_
        show G (T360.setTop (mkF me_ 174 #[.val (.int p0), .val (.long p1), .second, .val (.int (0 : Int32)), .val (.int (1 : Int32)), .val (.int (0 : Int32)), .val (.ref b295), .val (.ref b309), .val (.ref b328), .val (.int (1 : Int32)), .unset] [(.int (1 : Int32))]))
        refine gv (fun tQ kQ => XS.istore X360.here hx rfl (hb hby at_174) rfl (l' := #[.val (.int p0), .val (.long p1), .second, .val (.int (0 : Int32)), .val (.int (1 : Int32)), .val (.int (0 : Int32)), .val (.ref b295), .val (.ref b309), .val (.ref b328), .val (.int (1 : Int32)), .unset]) rfl kQ) ?_
        show G (T360.setTop (mkF me_ 176 #[.val (.int p0), .val (.long p1), .second, .val (.int (0 : Int32)), .val (.int (1 : Int32)), .val (.int (0 : Int32)), .val (.ref b295), .val (.ref b309), .val (.ref b328), .val (.int (1 : Int32)), .unset] []))
        refine gv (fun tQ kQ => XS.iload X360.here hx rfl (hb hby at_176) rfl kQ) ?_
        show G (T360.setTop (mkF me_ 178 #[.val (.int p0), .val (.long p1), .second, .val (.int (0 : Int32)), .val (.int (1 : Int32)), .val (.int (0 : Int32)), .val (.ref b295), .val (.ref b309), .val (.ref b328), .val (.int (1 : Int32)), .unset] [(.int (1 : Int32))]))
        refine gv (fun tQ kQ => XS.ifNo X360.here hx rfl (hb hby at_178) rfl ((if0 _ _).trans (feq (by decide : ¬ ((1 : Int32) = (0 : Int32)))).1) kQ) ?_
        show G (T360.setTop (mkF me_ 181 #[.val (.int p0), .val (.long p1), .second, .val (.int (0 : Int32)), .val (.int (1 : Int32)), .val (.int (0 : Int32)), .val (.ref b295), .val (.ref b309), .val (.ref b328), .val (.int (1 : Int32)), .unset] []))
        refine gv (fun tQ kQ => XS.aload X360.here hx rfl (hb hby at_181) rfl rfl kQ) ?_
        show G (T360.setTop (mkF me_ 183 #[.val (.int p0), .val (.long p1), .second, .val (.int (0 : Int32)), .val (.int (1 : Int32)), .val (.int (0 : Int32)), .val (.ref b295), .val (.ref b309), .val (.ref b328), .val (.int (1 : Int32)), .unset] [(.ref b328)]))
        refine gv (fun tQ kQ => XS.aload X360.here hx rfl (hb hby at_183) rfl rfl kQ) ?_
        show G (T360.setTop (mkF me_ 185 #[.val (.int p0), .val (.long p1), .second, .val (.int (0 : Int32)), .val (.int (1 : Int32)), .val (.int (0 : Int32)), .val (.ref b295), .val (.ref b309), .val (.ref b328), .val (.int (1 : Int32)), .unset] [(.ref b309), (.ref b328)]))
        obtain ⟨cq362, kq362, q362a, q362b, q362c⟩ := isOf hZ eq360 w340_3
        obtain ⟨_, _, ⟨T362, L362, k362, n362⟩, -, X362, ⟨Lc362, hQ362, l362, y362, z362⟩, st362⟩ := X360.virtualBack hx (y := (⟨"com/example/closemark/closemark/prices/StandingQuotes", "add", "(Lcom/example/closemark/closemark/tape/TapeRow;)V"⟩ : MethodName)) (z := (⟨"com/example/closemark/closemark/prices/StandingQuotes", "add", "(Lcom/example/closemark/closemark/tape/TapeRow;)V"⟩ : MethodName)) hown (mvT hZ (hw _ (List.mem_of_getElem? (i := 59) rfl))) (mvT hZ (hw _ (List.mem_of_getElem? (i := 60) rfl))) (notFace_of_selects (args := #[]) (mvT hZ (hw _ (List.mem_of_getElem? (i := 62) rfl)))) (mvT hZ (hw _ (List.mem_of_getElem? (i := 62) rfl))) (mvT hZ (hw _ (List.mem_of_getElem? (i := 61) rfl))) (by decide) (backOf (W := 0) (rm_addA l Z a0 hw [] b328 b309 y_340 A_BID A_ASK h340 n0 O357 f354 u0 u1 f355 u2 w340_5 w340_7 w340_9 g350) hZ (hw _ (List.mem_of_getElem? (i := 63) rfl)) (hw _ (List.mem_of_getElem? (i := 31) rfl)) (by decide) (by decide)) q362a q362c (g := (mkF me_ 185 #[.val (.int p0), .val (.long p1), .second, .val (.int (0 : Int32)), .val (.int (1 : Int32)), .val (.int (0 : Int32)), .val (.ref b295), .val (.ref b309), .val (.ref b328), .val (.int (1 : Int32)), .unset] [(.ref b309), (.ref b328)])) rfl (by rw [hml]; rfl) (Steps.refl _) (argsL := [(.ref b309)]) (rest := []) (lenOf pd_3 rfl) rfl (by show 2 * 0 + _ ≤ _; exact Nat.le_of_eq rfl) (hb hby at_185) (fun _ _ => ⟨rfl, eq360, (by decide : 5 + 0 ≤ _), (by decide : 14 + 0 ≤ _)⟩)
        dsimp only [Pt.U, Pt.locs, Pt.cells, Pt.slots] at X362 l362 y362 z362 st362 hQ362
        subst l362 y362 z362
        obtain ⟨rfl, Nq362, Kq362, w362_0, w362_1⟩ := hQ362
        have N363 := Fr.app N361 Nq362
        obtain ⟨h362, e362⟩ : ∃ z, T362.heap = z := ⟨_, rfl⟩
        rw [e362] at Kq362 w362_0 w362_1
        have f364 : Exa Z h362 b295 "com/example/closemark/closemark/tape/TapeRow" := f352.keep Kq362
        have f365 : Fld Z h362 b295 "com/example/closemark/closemark/tape/TapeRow" "kind" "Lcom/example/closemark/closemark/tape/TapeRow$Kind;" (.ref A_BID) := f353.keep Kq362 (ninS ne347 nin0)
        have f366 : Exa Z h362 b309 "com/example/closemark/closemark/tape/TapeRow" := f354.keep Kq362
        have f367 : Fld Z h362 b309 "com/example/closemark/closemark/tape/TapeRow" "kind" "Lcom/example/closemark/closemark/tape/TapeRow$Kind;" (.ref A_ASK) := f355.keep Kq362 (ninS ne348 nin0)
        have f368 : Exa Z h362 b328 "com/example/closemark/closemark/prices/StandingQuotes" := w340_3.keep Kq362
        have f369 : Fld Z h362 b328 "com/example/closemark/closemark/prices/StandingQuotes" "bid" "Lcom/example/closemark/closemark/prices/LatestRow;" (.ref x_340) := w340_4.keep Kq362 (ninS ne349 nin0)
        have f370 : Fld Z h362 b328 "com/example/closemark/closemark/prices/StandingQuotes" "ask" "Lcom/example/closemark/closemark/prices/LatestRow;" (.ref y_340) := w340_5.keep Kq362 (ninS ne349 nin0)
        have f371 : Exa Z h362 x_340 "com/example/closemark/closemark/prices/LatestRow" := w340_6.keep Kq362
        have f372 : Exa Z h362 y_340 "com/example/closemark/closemark/prices/LatestRow" := w340_7.keep Kq362
        have f373 : Fld Z h362 x_340 "com/example/closemark/closemark/prices/LatestRow" "row" "Lcom/example/closemark/closemark/tape/TapeRow;" .null := w340_8.keep Kq362 (ninS w340_2 nin0)
        have O374 := O357.keep Kq362 (allS g350 all0)
        refine gv (fun tQ kQ => st362.trans kQ) ?_
        show G (T362.setTop (mkF me_ 188 #[.val (.int p0), .val (.long p1), .second, .val (.int (0 : Int32)), .val (.int (1 : Int32)), .val (.int (0 : Int32)), .val (.ref b295), .val (.ref b309), .val (.ref b328), .val (.int (1 : Int32)), .unset] []))
        refine gv (fun tQ kQ => XS.iloadN X362.here hx rfl (hb hby at_188) rfl kQ) ?_
        show G (T362.setTop (mkF me_ 189 #[.val (.int p0), .val (.long p1), .second, .val (.int (0 : Int32)), .val (.int (1 : Int32)), .val (.int (0 : Int32)), .val (.ref b295), .val (.ref b309), .val (.ref b328), .val (.int (1 : Int32)), .unset] [(.int (0 : Int32))]))
        refine gv (fun tQ kQ => XS.ifYes X362.here hx rfl (pc0 := 189) (pc' := 201) rfl (hb hby at_189) rfl ((if0 _ _).trans (teq (by decide : (0 : Int32) = (0 : Int32))).1) (by decide) (by decide) kQ) ?_
        show G (T362.setTop (mkF me_ 201 #[.val (.int p0), .val (.long p1), .second, .val (.int (0 : Int32)), .val (.int (1 : Int32)), .val (.int (0 : Int32)), .val (.ref b295), .val (.ref b309), .val (.ref b328), .val (.int (1 : Int32)), .unset] []))
        refine gv (fun tQ kQ => XS.iconst X362.here hx rfl (hb hby at_201) kQ) ?_
        show G (T362.setTop (mkF me_ 202 #[.val (.int p0), .val (.long p1), .second, .val (.int (0 : Int32)), .val (.int (1 : Int32)), .val (.int (0 : Int32)), .val (.ref b295), .val (.ref b309), .val (.ref b328), .val (.int (1 : Int32)), .unset] [(.int (0 : Int32))]))
        refine gv (fun tQ kQ => XS.istore X362.here hx rfl (hb hby at_202) rfl (l' := #[.val (.int p0), .val (.long p1), .second, .val (.int (0 : Int32)), .val (.int (1 : Int32)), .val (.int (0 : Int32)), .val (.ref b295), .val (.ref b309), .val (.ref b328), .val (.int (1 : Int32)), .val (.int (0 : Int32))]) rfl kQ) ?_
        show G (T362.setTop (mkF me_ 204 #[.val (.int p0), .val (.long p1), .second, .val (.int (0 : Int32)), .val (.int (1 : Int32)), .val (.int (0 : Int32)), .val (.ref b295), .val (.ref b309), .val (.ref b328), .val (.int (1 : Int32)), .val (.int (0 : Int32))] []))
        refine gv (fun tQ kQ => XS.iload X362.here hx rfl (hb hby at_204) rfl kQ) ?_
        show G (T362.setTop (mkF me_ 206 #[.val (.int p0), .val (.long p1), .second, .val (.int (0 : Int32)), .val (.int (1 : Int32)), .val (.int (0 : Int32)), .val (.ref b295), .val (.ref b309), .val (.ref b328), .val (.int (1 : Int32)), .val (.int (0 : Int32))] [(.int (1 : Int32))]))
        refine gv (fun tQ kQ => XS.ifNo X362.here hx rfl (hb hby at_206) rfl ((if0 _ _).trans (feq (by decide : ¬ ((1 : Int32) = (0 : Int32)))).1) kQ) ?_
        show G (T362.setTop (mkF me_ 209 #[.val (.int p0), .val (.long p1), .second, .val (.int (0 : Int32)), .val (.int (1 : Int32)), .val (.int (0 : Int32)), .val (.ref b295), .val (.ref b309), .val (.ref b328), .val (.int (1 : Int32)), .val (.int (0 : Int32))] []))
        refine gv (fun tQ kQ => XS.aload X362.here hx rfl (hb hby at_209) rfl rfl kQ) ?_
        show G (T362.setTop (mkF me_ 211 #[.val (.int p0), .val (.long p1), .second, .val (.int (0 : Int32)), .val (.int (1 : Int32)), .val (.int (0 : Int32)), .val (.ref b295), .val (.ref b309), .val (.ref b328), .val (.int (1 : Int32)), .val (.int (0 : Int32))] [(.ref b328)]))
        obtain ⟨cq375, kq375, q375a, q375b, q375c⟩ := isOf hZ e362 f368
        obtain ⟨_, _, ⟨T375, L375, k375, n375⟩, -, X375, ⟨Lc375, hQ375, l375, y375, z375⟩, st375⟩ := X362.virtualBack hx (y := (⟨"com/example/closemark/closemark/prices/StandingQuotes", "hasBidAndAsk", "()Z"⟩ : MethodName)) (z := (⟨"com/example/closemark/closemark/prices/StandingQuotes", "hasBidAndAsk", "()Z"⟩ : MethodName)) hown (mvT hZ (hw _ (List.mem_of_getElem? (i := 47) rfl))) (mvT hZ (hw _ (List.mem_of_getElem? (i := 48) rfl))) (notFace_of_selects (args := #[]) (mvT hZ (hw _ (List.mem_of_getElem? (i := 50) rfl)))) (mvT hZ (hw _ (List.mem_of_getElem? (i := 50) rfl))) (mvT hZ (hw _ (List.mem_of_getElem? (i := 49) rfl))) (by decide) (backOf (W := 0) (rm_hb0 l Z a0 hw [] b328 x_340 h362 n0 O374 f369 f371 f373) hZ (hw _ (List.mem_of_getElem? (i := 51) rfl)) (hw _ (List.mem_of_getElem? (i := 31) rfl)) (by decide) (by decide)) q375a q375c (g := (mkF me_ 211 #[.val (.int p0), .val (.long p1), .second, .val (.int (0 : Int32)), .val (.int (1 : Int32)), .val (.int (0 : Int32)), .val (.ref b295), .val (.ref b309), .val (.ref b328), .val (.int (1 : Int32)), .val (.int (0 : Int32))] [(.ref b328)])) rfl (by rw [hml]; rfl) (Steps.refl _) (argsL := []) (rest := []) (lenOf pd_5 rfl) rfl (by show 2 * 0 + _ ≤ _; exact Nat.le_of_eq rfl) (hb hby at_211) (fun _ _ => ⟨rfl, e362, (by decide : 5 + 0 ≤ _), (by decide : 14 + 0 ≤ _)⟩)
        dsimp only [Pt.U, Pt.locs, Pt.cells, Pt.slots] at X375 l375 y375 z375 st375 hQ375
        subst l375 y375 z375
        obtain ⟨rfl, Nq375, eq375⟩ := hQ375
        have N376 := Fr.app N363 Nq375
        refine gv (fun tQ kQ => st375.trans kQ) ?_
        show G (T375.setTop (mkF me_ 214 #[.val (.int p0), .val (.long p1), .second, .val (.int (0 : Int32)), .val (.int (1 : Int32)), .val (.int (0 : Int32)), .val (.ref b295), .val (.ref b309), .val (.ref b328), .val (.int (1 : Int32)), .val (.int (0 : Int32))] [(.int (0 : Int32))]))
        refine gv (fun tQ kQ => XS.iload X375.here hx rfl (hb hby at_214) rfl kQ) ?_
        show G (T375.setTop (mkF me_ 216 #[.val (.int p0), .val (.long p1), .second, .val (.int (0 : Int32)), .val (.int (1 : Int32)), .val (.int (0 : Int32)), .val (.ref b295), .val (.ref b309), .val (.ref b328), .val (.int (1 : Int32)), .val (.int (0 : Int32))] [(.int (0 : Int32)), (.int (0 : Int32))]))
        refine gv (fun tQ kQ => XS.icmpNo X375.here hx rfl (hb hby at_216) rfl (teq (by decide : (0 : Int32) = (0 : Int32))).2 kQ) ?_
        show G (T375.setTop (mkF me_ 219 #[.val (.int p0), .val (.long p1), .second, .val (.int (0 : Int32)), .val (.int (1 : Int32)), .val (.int (0 : Int32)), .val (.ref b295), .val (.ref b309), .val (.ref b328), .val (.int (1 : Int32)), .val (.int (0 : Int32))] []))
        refine gv (fun tQ kQ => XS.iconst X375.here hx rfl (hb hby at_219) kQ) ?_
        show G (T375.setTop (mkF me_ 220 #[.val (.int p0), .val (.long p1), .second, .val (.int (0 : Int32)), .val (.int (1 : Int32)), .val (.int (0 : Int32)), .val (.ref b295), .val (.ref b309), .val (.ref b328), .val (.int (1 : Int32)), .val (.int (0 : Int32))] [(.int (1 : Int32))]))
        refine gv (fun tQ kQ => XS.goto X375.here hx rfl (pc0 := 220) (pc' := 224) rfl (hb hby at_220) (by decide) (by decide) kQ) ?_
        show G (T375.setTop (mkF me_ 224 #[.val (.int p0), .val (.long p1), .second, .val (.int (0 : Int32)), .val (.int (1 : Int32)), .val (.int (0 : Int32)), .val (.ref b295), .val (.ref b309), .val (.ref b328), .val (.int (1 : Int32)), .val (.int (0 : Int32))] [(.int (1 : Int32))]))
        refine gf _ (own_ret X375 Bd.notSynchronized (v := some (.int (1 : Int32))) (fun h => by rw [Bd.returns] at h; cases h) ?_ (by decide) (by decide) (fun fs hr => retN X375 hx (t := .boolean) Bd.returns (by simp) (hb hby at_224) hr))
        show Q0 Z p0 p1 A_BID A_ASK h0 n0 _ T375.heap _
        rw [eq375]
        exact ⟨rfl, N376⟩
      · refine gv (fun tQ kQ => XS.ifNo X0.here hx rfl (hb hby at_28) rfl ((if0 _ _).trans (feq hc294).1) kQ) ?_
        show G (s₁.setTop (mkF me_ 31 #[.val (.int p0), .val (.long p1), .second, .val (.int (0 : Int32)), .val (.int (1 : Int32)), .unset, .unset, .unset, .unset, .unset, .unset] []))
        refine gv (fun tQ kQ => XS.iconst X0.here hx rfl (hb hby at_31) kQ) ?_
        show G (s₁.setTop (mkF me_ 32 #[.val (.int p0), .val (.long p1), .second, .val (.int (0 : Int32)), .val (.int (1 : Int32)), .unset, .unset, .unset, .unset, .unset, .unset] [(.int (1 : Int32))]))
        refine gv (fun tQ kQ => XS.goto X0.here hx rfl (pc0 := 32) (pc' := 36) rfl (hb hby at_32) (by decide) (by decide) kQ) ?_
        show G (s₁.setTop (mkF me_ 36 #[.val (.int p0), .val (.long p1), .second, .val (.int (0 : Int32)), .val (.int (1 : Int32)), .unset, .unset, .unset, .unset, .unset, .unset] [(.int (1 : Int32))]))
        refine gv (fun tQ kQ => XS.istore X0.here hx rfl (hb hby at_36) rfl (l' := #[.val (.int p0), .val (.long p1), .second, .val (.int (0 : Int32)), .val (.int (1 : Int32)), .val (.int (1 : Int32)), .unset, .unset, .unset, .unset, .unset]) rfl kQ) ?_
        show G (s₁.setTop (mkF me_ 38 #[.val (.int p0), .val (.long p1), .second, .val (.int (0 : Int32)), .val (.int (1 : Int32)), .val (.int (1 : Int32)), .unset, .unset, .unset, .unset, .unset] []))
        obtain ⟨T377, h377, X377, e377, E377, A377, D377, -, st377⟩ := newO X0 hx hZ hown (hw _ (List.mem_of_getElem? (i := 0) rfl)) (hw _ (List.mem_of_getElem? (i := 1) rfl)) (hw _ (List.mem_of_getElem? (i := 2) rfl)) e0 (g := (mkF me_ 38 #[.val (.int p0), .val (.long p1), .second, .val (.int (0 : Int32)), .val (.int (1 : Int32)), .val (.int (1 : Int32)), .unset, .unset, .unset, .unset, .unset] [])) rfl (hb hby at_38) (by decide) (by decide)
        obtain ⟨b377, g377⟩ : ∃ z, z = h0.size := ⟨_, rfl⟩
        rw [← g377] at A377 D377 st377
        refine gv st377 ?_
        have g378 : n0 ≤ b377 := Nat.le_trans (own_old O0) (Nat.le_of_eq g377.symm)
        have O380 := O0.ext E377
        have f381 : Fld Z h377 b377 "com/example/closemark/closemark/tape/TapeRow" "time" "Ljava/time/Instant;" .null := D377 (Or.inr (hw _ (List.mem_of_getElem? (i := 18) rfl))) (ty := (.object "java/time/Instant")) (by decide)
        have f382 : Fld Z h377 b377 "com/example/closemark/closemark/tape/TapeRow" "symbol" "Ljava/lang/String;" .null := D377 (Or.inr (hw _ (List.mem_of_getElem? (i := 20) rfl))) (ty := (.object "java/lang/String")) (by decide)
        have f383 : Fld Z h377 b377 "com/example/closemark/closemark/tape/TapeRow" "kind" "Lcom/example/closemark/closemark/tape/TapeRow$Kind;" .null := D377 (Or.inr (hw _ (List.mem_of_getElem? (i := 22) rfl))) (ty := (.object "com/example/closemark/closemark/tape/TapeRow$Kind")) (by decide)
        have f384 : Fld Z h377 b377 "com/example/closemark/closemark/tape/TapeRow" "price" "Ljava/math/BigDecimal;" .null := D377 (Or.inr (hw _ (List.mem_of_getElem? (i := 24) rfl))) (ty := (.object "java/math/BigDecimal")) (by decide)
        have f385 : Fld Z h377 b377 "com/example/closemark/closemark/tape/TapeRow" "qty" "J" (.long (0 : Int64)) := D377 (Or.inr (hw _ (List.mem_of_getElem? (i := 26) rfl))) (ty := .long) (by decide)
        show G (T377.setTop (mkF me_ 41 #[.val (.int p0), .val (.long p1), .second, .val (.int (0 : Int32)), .val (.int (1 : Int32)), .val (.int (1 : Int32)), .unset, .unset, .unset, .unset, .unset] [(.ref b377)]))
        refine gv (fun tQ kQ => XS.dup X377.here hx rfl (hb hby at_41) rfl rfl kQ) ?_
        show G (T377.setTop (mkF me_ 42 #[.val (.int p0), .val (.long p1), .second, .val (.int (0 : Int32)), .val (.int (1 : Int32)), .val (.int (1 : Int32)), .unset, .unset, .unset, .unset, .unset] [(.ref b377), (.ref b377)]))
        refine gv (fun tQ kQ => XS.aconstNull X377.here hx rfl (hb hby at_42) kQ) ?_
        show G (T377.setTop (mkF me_ 43 #[.val (.int p0), .val (.long p1), .second, .val (.int (0 : Int32)), .val (.int (1 : Int32)), .val (.int (1 : Int32)), .unset, .unset, .unset, .unset, .unset] [.null, (.ref b377), (.ref b377)]))
        refine gv (fun tQ kQ => XS.aconstNull X377.here hx rfl (hb hby at_43) kQ) ?_
        show G (T377.setTop (mkF me_ 44 #[.val (.int p0), .val (.long p1), .second, .val (.int (0 : Int32)), .val (.int (1 : Int32)), .val (.int (1 : Int32)), .unset, .unset, .unset, .unset, .unset] [.null, .null, (.ref b377), (.ref b377)]))
        obtain ⟨T386, X386, e386, st386⟩ := getS2 X377 hx hZ hown (host := "") (Or.inl (hw _ (List.mem_of_getElem? (i := 3) rfl))) Via.refl e377 (u0.ext O380.2) (g := (mkF me_ 44 #[.val (.int p0), .val (.long p1), .second, .val (.int (0 : Int32)), .val (.int (1 : Int32)), .val (.int (1 : Int32)), .unset, .unset, .unset, .unset, .unset] [.null, .null, (.ref b377), (.ref b377)])) rfl (hb hby at_44)
        refine gv st386 ?_
        show G (T386.setTop (mkF me_ 47 #[.val (.int p0), .val (.long p1), .second, .val (.int (0 : Int32)), .val (.int (1 : Int32)), .val (.int (1 : Int32)), .unset, .unset, .unset, .unset, .unset] [(.ref A_BID), .null, .null, (.ref b377), (.ref b377)]))
        refine gv (fun tQ kQ => XS.aconstNull X386.here hx rfl (hb hby at_47) kQ) ?_
        show G (T386.setTop (mkF me_ 48 #[.val (.int p0), .val (.long p1), .second, .val (.int (0 : Int32)), .val (.int (1 : Int32)), .val (.int (1 : Int32)), .unset, .unset, .unset, .unset, .unset] [.null, (.ref A_BID), .null, .null, (.ref b377), (.ref b377)]))
        refine gv (fun tQ kQ => XS.lloadN X386.here hx rfl (hb hby at_48) rfl kQ) ?_
        show G (T386.setTop (mkF me_ 49 #[.val (.int p0), .val (.long p1), .second, .val (.int (0 : Int32)), .val (.int (1 : Int32)), .val (.int (1 : Int32)), .unset, .unset, .unset, .unset, .unset] [(.long p1), .null, (.ref A_BID), .null, .null, (.ref b377), (.ref b377)]))
        obtain ⟨_, _, ⟨T387, L387, k387, n387⟩, -, X387, ⟨Lc387, hQ387, l387, y387, z387⟩, st387⟩ := X386.specialBack hx (y := (⟨"com/example/closemark/closemark/tape/TapeRow", "<init>", "(Ljava/time/Instant;Ljava/lang/String;Lcom/example/closemark/closemark/tape/TapeRow$Kind;Ljava/math/BigDecimal;J)V"⟩ : MethodName)) rfl hown (mvT hZ (hw _ (List.mem_of_getElem? (i := 6) rfl))) (mvT hZ (hw _ (List.mem_of_getElem? (i := 7) rfl))) (mvT hZ (hw _ (List.mem_of_getElem? (i := 8) rfl))) (by decide) (backOf (W := 1) (rm_tri l Z a0 hw [] b377 A_BID p1 h377 n0 O380 A377 f381 f382 f383 f384 f385 g378) hZ (hw _ (List.mem_of_getElem? (i := 8) rfl)) (hw _ (List.mem_of_getElem? (i := 2) rfl)) (by decide) (by decide)) (g := (mkF me_ 49 #[.val (.int p0), .val (.long p1), .second, .val (.int (0 : Int32)), .val (.int (1 : Int32)), .val (.int (1 : Int32)), .unset, .unset, .unset, .unset, .unset] [(.long p1), .null, (.ref A_BID), .null, .null, (.ref b377), (.ref b377)])) rfl (by rw [hml]; rfl) (Steps.refl _) (a := b377) (argsL := [.null, .null, (.ref A_BID), .null, (.long p1)]) (rest := [(.ref b377)]) (lenOf pd_4 rfl) rfl (by show 2 * 0 + _ ≤ _; exact Nat.le_of_eq rfl) (hb hby at_49) (fun _ _ => ⟨rfl, e386, (by decide : 1 + 0 ≤ _), (by decide : 5 + 0 ≤ _)⟩)
        dsimp only [Pt.U, Pt.locs, Pt.cells, Pt.slots] at X387 l387 y387 z387 st387 hQ387
        subst l387 y387 z387
        obtain ⟨rfl, Nq387, Kq387, w387_0, w387_1⟩ := hQ387
        have N388 := Fr.app N0 Nq387
        obtain ⟨h387, e387⟩ : ∃ z, T387.heap = z := ⟨_, rfl⟩
        rw [e387] at Kq387 w387_0 w387_1
        have f389 : Exa Z h387 b377 "com/example/closemark/closemark/tape/TapeRow" := A377.keep Kq387
        have O390 := O380.keep Kq387 (allS g378 all0)
        refine gv (fun tQ kQ => st387.trans kQ) ?_
        show G (T387.setTop (mkF me_ 52 #[.val (.int p0), .val (.long p1), .second, .val (.int (0 : Int32)), .val (.int (1 : Int32)), .val (.int (1 : Int32)), .unset, .unset, .unset, .unset, .unset] [(.ref b377)]))
        refine gv (fun tQ kQ => XS.astore X387.here hx rfl (hb hby at_52) rfl rfl (l' := #[.val (.int p0), .val (.long p1), .second, .val (.int (0 : Int32)), .val (.int (1 : Int32)), .val (.int (1 : Int32)), .val (.ref b377), .unset, .unset, .unset, .unset]) rfl kQ) ?_
        show G (T387.setTop (mkF me_ 54 #[.val (.int p0), .val (.long p1), .second, .val (.int (0 : Int32)), .val (.int (1 : Int32)), .val (.int (1 : Int32)), .val (.ref b377), .unset, .unset, .unset, .unset] []))
        obtain ⟨T391, h391, X391, e391, E391, A391, D391, -, st391⟩ := newO X387 hx hZ hown (hw _ (List.mem_of_getElem? (i := 0) rfl)) (hw _ (List.mem_of_getElem? (i := 1) rfl)) (hw _ (List.mem_of_getElem? (i := 2) rfl)) e387 (g := (mkF me_ 54 #[.val (.int p0), .val (.long p1), .second, .val (.int (0 : Int32)), .val (.int (1 : Int32)), .val (.int (1 : Int32)), .val (.ref b377), .unset, .unset, .unset, .unset] [])) rfl (hb hby at_54) (by decide) (by decide)
        obtain ⟨b391, g391⟩ : ∃ z, z = h387.size := ⟨_, rfl⟩
        rw [← g391] at A391 D391 st391
        refine gv st391 ?_
        have ne392 : b377 ≠ b391 := Nat.ne_of_lt (Nat.lt_of_lt_of_le w387_0.lt (Nat.le_of_eq g391.symm))
        have g393 : n0 ≤ b391 := Nat.le_trans (own_old O390) (Nat.le_of_eq g391.symm)
        have f395 : Exa Z h391 b377 "com/example/closemark/closemark/tape/TapeRow" := w387_0.ext E391
        have f396 : Fld Z h391 b377 "com/example/closemark/closemark/tape/TapeRow" "kind" "Lcom/example/closemark/closemark/tape/TapeRow$Kind;" (.ref A_BID) := w387_1.ext E391
        have O397 := O390.ext E391
        have f398 : Fld Z h391 b391 "com/example/closemark/closemark/tape/TapeRow" "time" "Ljava/time/Instant;" .null := D391 (Or.inr (hw _ (List.mem_of_getElem? (i := 18) rfl))) (ty := (.object "java/time/Instant")) (by decide)
        have f399 : Fld Z h391 b391 "com/example/closemark/closemark/tape/TapeRow" "symbol" "Ljava/lang/String;" .null := D391 (Or.inr (hw _ (List.mem_of_getElem? (i := 20) rfl))) (ty := (.object "java/lang/String")) (by decide)
        have f400 : Fld Z h391 b391 "com/example/closemark/closemark/tape/TapeRow" "kind" "Lcom/example/closemark/closemark/tape/TapeRow$Kind;" .null := D391 (Or.inr (hw _ (List.mem_of_getElem? (i := 22) rfl))) (ty := (.object "com/example/closemark/closemark/tape/TapeRow$Kind")) (by decide)
        have f401 : Fld Z h391 b391 "com/example/closemark/closemark/tape/TapeRow" "price" "Ljava/math/BigDecimal;" .null := D391 (Or.inr (hw _ (List.mem_of_getElem? (i := 24) rfl))) (ty := (.object "java/math/BigDecimal")) (by decide)
        have f402 : Fld Z h391 b391 "com/example/closemark/closemark/tape/TapeRow" "qty" "J" (.long (0 : Int64)) := D391 (Or.inr (hw _ (List.mem_of_getElem? (i := 26) rfl))) (ty := .long) (by decide)
        show G (T391.setTop (mkF me_ 57 #[.val (.int p0), .val (.long p1), .second, .val (.int (0 : Int32)), .val (.int (1 : Int32)), .val (.int (1 : Int32)), .val (.ref b377), .unset, .unset, .unset, .unset] [(.ref b391)]))
        refine gv (fun tQ kQ => XS.dup X391.here hx rfl (hb hby at_57) rfl rfl kQ) ?_
        show G (T391.setTop (mkF me_ 58 #[.val (.int p0), .val (.long p1), .second, .val (.int (0 : Int32)), .val (.int (1 : Int32)), .val (.int (1 : Int32)), .val (.ref b377), .unset, .unset, .unset, .unset] [(.ref b391), (.ref b391)]))
        refine gv (fun tQ kQ => XS.aconstNull X391.here hx rfl (hb hby at_58) kQ) ?_
        show G (T391.setTop (mkF me_ 59 #[.val (.int p0), .val (.long p1), .second, .val (.int (0 : Int32)), .val (.int (1 : Int32)), .val (.int (1 : Int32)), .val (.ref b377), .unset, .unset, .unset, .unset] [.null, (.ref b391), (.ref b391)]))
        refine gv (fun tQ kQ => XS.aconstNull X391.here hx rfl (hb hby at_59) kQ) ?_
        show G (T391.setTop (mkF me_ 60 #[.val (.int p0), .val (.long p1), .second, .val (.int (0 : Int32)), .val (.int (1 : Int32)), .val (.int (1 : Int32)), .val (.ref b377), .unset, .unset, .unset, .unset] [.null, .null, (.ref b391), (.ref b391)]))
        obtain ⟨T403, X403, e403, st403⟩ := getS2 X391 hx hZ hown (host := "") (Or.inl (hw _ (List.mem_of_getElem? (i := 27) rfl))) Via.refl e391 (u1.ext O397.2) (g := (mkF me_ 60 #[.val (.int p0), .val (.long p1), .second, .val (.int (0 : Int32)), .val (.int (1 : Int32)), .val (.int (1 : Int32)), .val (.ref b377), .unset, .unset, .unset, .unset] [.null, .null, (.ref b391), (.ref b391)])) rfl (hb hby at_60)
        refine gv st403 ?_
        show G (T403.setTop (mkF me_ 63 #[.val (.int p0), .val (.long p1), .second, .val (.int (0 : Int32)), .val (.int (1 : Int32)), .val (.int (1 : Int32)), .val (.ref b377), .unset, .unset, .unset, .unset] [(.ref A_ASK), .null, .null, (.ref b391), (.ref b391)]))
        refine gv (fun tQ kQ => XS.aconstNull X403.here hx rfl (hb hby at_63) kQ) ?_
        show G (T403.setTop (mkF me_ 64 #[.val (.int p0), .val (.long p1), .second, .val (.int (0 : Int32)), .val (.int (1 : Int32)), .val (.int (1 : Int32)), .val (.ref b377), .unset, .unset, .unset, .unset] [.null, (.ref A_ASK), .null, .null, (.ref b391), (.ref b391)]))
        refine gv (fun tQ kQ => XS.lloadN X403.here hx rfl (hb hby at_64) rfl kQ) ?_
        show G (T403.setTop (mkF me_ 65 #[.val (.int p0), .val (.long p1), .second, .val (.int (0 : Int32)), .val (.int (1 : Int32)), .val (.int (1 : Int32)), .val (.ref b377), .unset, .unset, .unset, .unset] [(.long p1), .null, (.ref A_ASK), .null, .null, (.ref b391), (.ref b391)]))
        obtain ⟨_, _, ⟨T404, L404, k404, n404⟩, -, X404, ⟨Lc404, hQ404, l404, y404, z404⟩, st404⟩ := X403.specialBack hx (y := (⟨"com/example/closemark/closemark/tape/TapeRow", "<init>", "(Ljava/time/Instant;Ljava/lang/String;Lcom/example/closemark/closemark/tape/TapeRow$Kind;Ljava/math/BigDecimal;J)V"⟩ : MethodName)) rfl hown (mvT hZ (hw _ (List.mem_of_getElem? (i := 6) rfl))) (mvT hZ (hw _ (List.mem_of_getElem? (i := 7) rfl))) (mvT hZ (hw _ (List.mem_of_getElem? (i := 8) rfl))) (by decide) (backOf (W := 1) (rm_tri l Z a0 hw [] b391 A_ASK p1 h391 n0 O397 A391 f398 f399 f400 f401 f402 g393) hZ (hw _ (List.mem_of_getElem? (i := 8) rfl)) (hw _ (List.mem_of_getElem? (i := 2) rfl)) (by decide) (by decide)) (g := (mkF me_ 65 #[.val (.int p0), .val (.long p1), .second, .val (.int (0 : Int32)), .val (.int (1 : Int32)), .val (.int (1 : Int32)), .val (.ref b377), .unset, .unset, .unset, .unset] [(.long p1), .null, (.ref A_ASK), .null, .null, (.ref b391), (.ref b391)])) rfl (by rw [hml]; rfl) (Steps.refl _) (a := b391) (argsL := [.null, .null, (.ref A_ASK), .null, (.long p1)]) (rest := [(.ref b391)]) (lenOf pd_4 rfl) rfl (by show 2 * 0 + _ ≤ _; exact Nat.le_of_eq rfl) (hb hby at_65) (fun _ _ => ⟨rfl, e403, (by decide : 2 + 0 ≤ _), (by decide : 10 + 0 ≤ _)⟩)
        dsimp only [Pt.U, Pt.locs, Pt.cells, Pt.slots] at X404 l404 y404 z404 st404 hQ404
        subst l404 y404 z404
        obtain ⟨rfl, Nq404, Kq404, w404_0, w404_1⟩ := hQ404
        have N405 := Fr.app N388 Nq404
        obtain ⟨h404, e404⟩ : ∃ z, T404.heap = z := ⟨_, rfl⟩
        rw [e404] at Kq404 w404_0 w404_1
        have f406 : Exa Z h404 b377 "com/example/closemark/closemark/tape/TapeRow" := f395.keep Kq404
        have f407 : Fld Z h404 b377 "com/example/closemark/closemark/tape/TapeRow" "kind" "Lcom/example/closemark/closemark/tape/TapeRow$Kind;" (.ref A_BID) := f396.keep Kq404 (ninS ne392 nin0)
        have f408 : Exa Z h404 b391 "com/example/closemark/closemark/tape/TapeRow" := A391.keep Kq404
        have O409 := O397.keep Kq404 (allS g393 all0)
        refine gv (fun tQ kQ => st404.trans kQ) ?_
        show G (T404.setTop (mkF me_ 68 #[.val (.int p0), .val (.long p1), .second, .val (.int (0 : Int32)), .val (.int (1 : Int32)), .val (.int (1 : Int32)), .val (.ref b377), .unset, .unset, .unset, .unset] [(.ref b391)]))
        refine gv (fun tQ kQ => XS.astore X404.here hx rfl (hb hby at_68) rfl rfl (l' := #[.val (.int p0), .val (.long p1), .second, .val (.int (0 : Int32)), .val (.int (1 : Int32)), .val (.int (1 : Int32)), .val (.ref b377), .val (.ref b391), .unset, .unset, .unset]) rfl kQ) ?_
        show G (T404.setTop (mkF me_ 70 #[.val (.int p0), .val (.long p1), .second, .val (.int (0 : Int32)), .val (.int (1 : Int32)), .val (.int (1 : Int32)), .val (.ref b377), .val (.ref b391), .unset, .unset, .unset] []))
        obtain ⟨T410, h410, X410, e410, E410, A410, D410, -, st410⟩ := newO X404 hx hZ hown (hw _ (List.mem_of_getElem? (i := 29) rfl)) (hw _ (List.mem_of_getElem? (i := 30) rfl)) (hw _ (List.mem_of_getElem? (i := 31) rfl)) e404 (g := (mkF me_ 70 #[.val (.int p0), .val (.long p1), .second, .val (.int (0 : Int32)), .val (.int (1 : Int32)), .val (.int (1 : Int32)), .val (.ref b377), .val (.ref b391), .unset, .unset, .unset] [])) rfl (hb hby at_70) (by decide) (by decide)
        obtain ⟨b410, g410⟩ : ∃ z, z = h404.size := ⟨_, rfl⟩
        rw [← g410] at A410 D410 st410
        refine gv st410 ?_
        have ne411 : b377 ≠ b410 := Nat.ne_of_lt (Nat.lt_of_lt_of_le f406.lt (Nat.le_of_eq g410.symm))
        have ne412 : b391 ≠ b410 := Nat.ne_of_lt (Nat.lt_of_lt_of_le w404_0.lt (Nat.le_of_eq g410.symm))
        have g413 : n0 ≤ b410 := Nat.le_trans (own_old O409) (Nat.le_of_eq g410.symm)
        have f415 : Exa Z h410 b377 "com/example/closemark/closemark/tape/TapeRow" := f406.ext E410
        have f416 : Fld Z h410 b377 "com/example/closemark/closemark/tape/TapeRow" "kind" "Lcom/example/closemark/closemark/tape/TapeRow$Kind;" (.ref A_BID) := f407.ext E410
        have f417 : Exa Z h410 b391 "com/example/closemark/closemark/tape/TapeRow" := w404_0.ext E410
        have f418 : Fld Z h410 b391 "com/example/closemark/closemark/tape/TapeRow" "kind" "Lcom/example/closemark/closemark/tape/TapeRow$Kind;" (.ref A_ASK) := w404_1.ext E410
        have O419 := O409.ext E410
        have f420 : Fld Z h410 b410 "com/example/closemark/closemark/prices/StandingQuotes" "bid" "Lcom/example/closemark/closemark/prices/LatestRow;" .null := D410 (Or.inr (hw _ (List.mem_of_getElem? (i := 44) rfl))) (ty := (.object "com/example/closemark/closemark/prices/LatestRow")) (by decide)
        have f421 : Fld Z h410 b410 "com/example/closemark/closemark/prices/StandingQuotes" "ask" "Lcom/example/closemark/closemark/prices/LatestRow;" .null := D410 (Or.inr (hw _ (List.mem_of_getElem? (i := 46) rfl))) (ty := (.object "com/example/closemark/closemark/prices/LatestRow")) (by decide)
        show G (T410.setTop (mkF me_ 73 #[.val (.int p0), .val (.long p1), .second, .val (.int (0 : Int32)), .val (.int (1 : Int32)), .val (.int (1 : Int32)), .val (.ref b377), .val (.ref b391), .unset, .unset, .unset] [(.ref b410)]))
        refine gv (fun tQ kQ => XS.dup X410.here hx rfl (hb hby at_73) rfl rfl kQ) ?_
        show G (T410.setTop (mkF me_ 74 #[.val (.int p0), .val (.long p1), .second, .val (.int (0 : Int32)), .val (.int (1 : Int32)), .val (.int (1 : Int32)), .val (.ref b377), .val (.ref b391), .unset, .unset, .unset] [(.ref b410), (.ref b410)]))
        obtain ⟨_, _, ⟨T422, L422, k422, n422⟩, -, X422, ⟨Lc422, hQ422, l422, y422, z422⟩, st422⟩ := X410.specialBack hx (y := (⟨"com/example/closemark/closemark/prices/StandingQuotes", "<init>", "()V"⟩ : MethodName)) rfl hown (mvT hZ (hw _ (List.mem_of_getElem? (i := 32) rfl))) (mvT hZ (hw _ (List.mem_of_getElem? (i := 33) rfl))) (mvT hZ (hw _ (List.mem_of_getElem? (i := 34) rfl))) (by decide) (backOf (W := 1) (rm_sqi l Z a0 hw [] b410 h410 n0 O419 A410 f420 f421 g413) hZ (hw _ (List.mem_of_getElem? (i := 34) rfl)) (hw _ (List.mem_of_getElem? (i := 31) rfl)) (by decide) (by decide)) (g := (mkF me_ 74 #[.val (.int p0), .val (.long p1), .second, .val (.int (0 : Int32)), .val (.int (1 : Int32)), .val (.int (1 : Int32)), .val (.ref b377), .val (.ref b391), .unset, .unset, .unset] [(.ref b410), (.ref b410)])) rfl (by rw [hml]; rfl) (Steps.refl _) (a := b410) (argsL := []) (rest := [(.ref b410)]) (lenOf pd_0 rfl) rfl (by show 2 * 0 + _ ≤ _; exact Nat.le_of_eq rfl) (hb hby at_74) (fun _ _ => ⟨rfl, e410, (by decide : 3 + 2 ≤ _), (by decide : 12 + 2 ≤ _)⟩)
        dsimp only [Pt.U, Pt.locs, Pt.cells, Pt.slots] at X422 l422 y422 z422 st422 hQ422
        subst l422 y422 z422
        obtain ⟨x_422, y_422, rfl, Nq422, Kq422, w422_0, w422_1, w422_2, w422_3, w422_4, w422_5, w422_6, w422_7, w422_8, w422_9⟩ := hQ422
        have N423 := Fr.app N405 Nq422
        obtain ⟨h422, e422⟩ : ∃ z, T422.heap = z := ⟨_, rfl⟩
        rw [e422] at Kq422 w422_3 w422_4 w422_5 w422_6 w422_7 w422_8 w422_9
        have ne424 : b377 ≠ x_422 := Nat.ne_of_lt (Nat.lt_of_lt_of_le f415.lt w422_0)
        have ne425 : b391 ≠ x_422 := Nat.ne_of_lt (Nat.lt_of_lt_of_le f417.lt w422_0)
        have ne426 : b410 ≠ x_422 := Nat.ne_of_lt (Nat.lt_of_lt_of_le A410.lt w422_0)
        have g427 : n0 ≤ x_422 := Nat.le_trans (own_old O419) w422_0
        have ne429 : b377 ≠ y_422 := Nat.ne_of_lt (Nat.lt_of_lt_of_le f415.lt w422_1)
        have ne430 : b391 ≠ y_422 := Nat.ne_of_lt (Nat.lt_of_lt_of_le f417.lt w422_1)
        have ne431 : b410 ≠ y_422 := Nat.ne_of_lt (Nat.lt_of_lt_of_le A410.lt w422_1)
        have g432 : n0 ≤ y_422 := Nat.le_trans (own_old O419) w422_1
        have f434 : Exa Z h422 b377 "com/example/closemark/closemark/tape/TapeRow" := f415.keep Kq422
        have f435 : Fld Z h422 b377 "com/example/closemark/closemark/tape/TapeRow" "kind" "Lcom/example/closemark/closemark/tape/TapeRow$Kind;" (.ref A_BID) := f416.keep Kq422 (ninS ne411 nin0)
        have f436 : Exa Z h422 b391 "com/example/closemark/closemark/tape/TapeRow" := f417.keep Kq422
        have f437 : Fld Z h422 b391 "com/example/closemark/closemark/tape/TapeRow" "kind" "Lcom/example/closemark/closemark/tape/TapeRow$Kind;" (.ref A_ASK) := f418.keep Kq422 (ninS ne412 nin0)
        have f438 : Exa Z h422 b410 "com/example/closemark/closemark/prices/StandingQuotes" := A410.keep Kq422
        have O439 := O419.keep Kq422 (allS g413 all0)
        refine gv (fun tQ kQ => st422.trans kQ) ?_
        show G (T422.setTop (mkF me_ 77 #[.val (.int p0), .val (.long p1), .second, .val (.int (0 : Int32)), .val (.int (1 : Int32)), .val (.int (1 : Int32)), .val (.ref b377), .val (.ref b391), .unset, .unset, .unset] [(.ref b410)]))
        refine gv (fun tQ kQ => XS.astore X422.here hx rfl (hb hby at_77) rfl rfl (l' := #[.val (.int p0), .val (.long p1), .second, .val (.int (0 : Int32)), .val (.int (1 : Int32)), .val (.int (1 : Int32)), .val (.ref b377), .val (.ref b391), .val (.ref b410), .unset, .unset]) rfl kQ) ?_
        show G (T422.setTop (mkF me_ 79 #[.val (.int p0), .val (.long p1), .second, .val (.int (0 : Int32)), .val (.int (1 : Int32)), .val (.int (1 : Int32)), .val (.ref b377), .val (.ref b391), .val (.ref b410), .unset, .unset] []))
        refine gv (fun tQ kQ => XS.aload X422.here hx rfl (hb hby at_79) rfl rfl kQ) ?_
        show G (T422.setTop (mkF me_ 81 #[.val (.int p0), .val (.long p1), .second, .val (.int (0 : Int32)), .val (.int (1 : Int32)), .val (.int (1 : Int32)), .val (.ref b377), .val (.ref b391), .val (.ref b410), .unset, .unset] [(.ref b410)]))
        obtain ⟨cq440, kq440, q440a, q440b, q440c⟩ := isOf hZ e422 w422_3
        obtain ⟨_, _, ⟨T440, L440, k440, n440⟩, -, X440, ⟨Lc440, hQ440, l440, y440, z440⟩, st440⟩ := X422.virtualBack hx (y := (⟨"com/example/closemark/closemark/prices/StandingQuotes", "hasBidAndAsk", "()Z"⟩ : MethodName)) (z := (⟨"com/example/closemark/closemark/prices/StandingQuotes", "hasBidAndAsk", "()Z"⟩ : MethodName)) hown (mvT hZ (hw _ (List.mem_of_getElem? (i := 47) rfl))) (mvT hZ (hw _ (List.mem_of_getElem? (i := 48) rfl))) (notFace_of_selects (args := #[]) (mvT hZ (hw _ (List.mem_of_getElem? (i := 50) rfl)))) (mvT hZ (hw _ (List.mem_of_getElem? (i := 50) rfl))) (mvT hZ (hw _ (List.mem_of_getElem? (i := 49) rfl))) (by decide) (backOf (W := 0) (rm_hb0 l Z a0 hw [] b410 x_422 h422 n0 O439 w422_4 w422_6 w422_8) hZ (hw _ (List.mem_of_getElem? (i := 51) rfl)) (hw _ (List.mem_of_getElem? (i := 31) rfl)) (by decide) (by decide)) q440a q440c (g := (mkF me_ 81 #[.val (.int p0), .val (.long p1), .second, .val (.int (0 : Int32)), .val (.int (1 : Int32)), .val (.int (1 : Int32)), .val (.ref b377), .val (.ref b391), .val (.ref b410), .unset, .unset] [(.ref b410)])) rfl (by rw [hml]; rfl) (Steps.refl _) (argsL := []) (rest := []) (lenOf pd_5 rfl) rfl (by show 2 * 0 + _ ≤ _; exact Nat.le_of_eq rfl) (hb hby at_81) (fun _ _ => ⟨rfl, e422, (by decide : 5 + 0 ≤ _), (by decide : 14 + 0 ≤ _)⟩)
        dsimp only [Pt.U, Pt.locs, Pt.cells, Pt.slots] at X440 l440 y440 z440 st440 hQ440
        subst l440 y440 z440
        obtain ⟨rfl, Nq440, eq440⟩ := hQ440
        have N441 := Fr.app N423 Nq440
        refine gv (fun tQ kQ => st440.trans kQ) ?_
        show G (T440.setTop (mkF me_ 84 #[.val (.int p0), .val (.long p1), .second, .val (.int (0 : Int32)), .val (.int (1 : Int32)), .val (.int (1 : Int32)), .val (.ref b377), .val (.ref b391), .val (.ref b410), .unset, .unset] [(.int (0 : Int32))]))
        refine gv (fun tQ kQ => XS.ifNo X440.here hx rfl (hb hby at_84) rfl ((if0 _ _).trans (teq (by decide : (0 : Int32) = (0 : Int32))).2) kQ) ?_
        show G (T440.setTop (mkF me_ 87 #[.val (.int p0), .val (.long p1), .second, .val (.int (0 : Int32)), .val (.int (1 : Int32)), .val (.int (1 : Int32)), .val (.ref b377), .val (.ref b391), .val (.ref b410), .unset, .unset] []))
        refine gv (fun tQ kQ => XS.iconst X440.here hx rfl (hb hby at_87) kQ) ?_
        show G (T440.setTop (mkF me_ 88 #[.val (.int p0), .val (.long p1), .second, .val (.int (0 : Int32)), .val (.int (1 : Int32)), .val (.int (1 : Int32)), .val (.ref b377), .val (.ref b391), .val (.ref b410), .unset, .unset] [(.int (1 : Int32))]))
        refine gv (fun tQ kQ => XS.goto X440.here hx rfl (pc0 := 88) (pc' := 92) rfl (hb hby at_88) (by decide) (by decide) kQ) ?_
        show G (T440.setTop (mkF me_ 92 #[.val (.int p0), .val (.long p1), .second, .val (.int (0 : Int32)), .val (.int (1 : Int32)), .val (.int (1 : Int32)), .val (.ref b377), .val (.ref b391), .val (.ref b410), .unset, .unset] [(.int (1 : Int32))]))
        refine gv (fun tQ kQ => XS.istore X440.here hx rfl (hb hby at_92) rfl (l' := #[.val (.int p0), .val (.long p1), .second, .val (.int (0 : Int32)), .val (.int (1 : Int32)), .val (.int (1 : Int32)), .val (.ref b377), .val (.ref b391), .val (.ref b410), .val (.int (1 : Int32)), .unset]) rfl kQ) ?_
        show G (T440.setTop (mkF me_ 94 #[.val (.int p0), .val (.long p1), .second, .val (.int (0 : Int32)), .val (.int (1 : Int32)), .val (.int (1 : Int32)), .val (.ref b377), .val (.ref b391), .val (.ref b410), .val (.int (1 : Int32)), .unset] []))
        refine gv (fun tQ kQ => XS.iload X440.here hx rfl (hb hby at_94) rfl kQ) ?_
        show G (T440.setTop (mkF me_ 96 #[.val (.int p0), .val (.long p1), .second, .val (.int (0 : Int32)), .val (.int (1 : Int32)), .val (.int (1 : Int32)), .val (.ref b377), .val (.ref b391), .val (.ref b410), .val (.int (1 : Int32)), .unset] [(.int (1 : Int32))]))
        refine gv (fun tQ kQ => XS.ifNo X440.here hx rfl (hb hby at_96) rfl ((if0 _ _).trans (feq (by decide : ¬ ((1 : Int32) = (0 : Int32)))).1) kQ) ?_
        show G (T440.setTop (mkF me_ 99 #[.val (.int p0), .val (.long p1), .second, .val (.int (0 : Int32)), .val (.int (1 : Int32)), .val (.int (1 : Int32)), .val (.ref b377), .val (.ref b391), .val (.ref b410), .val (.int (1 : Int32)), .unset] []))
        refine gv (fun tQ kQ => XS.iload X440.here hx rfl (hb hby at_99) rfl kQ) ?_
        show G (T440.setTop (mkF me_ 101 #[.val (.int p0), .val (.long p1), .second, .val (.int (0 : Int32)), .val (.int (1 : Int32)), .val (.int (1 : Int32)), .val (.ref b377), .val (.ref b391), .val (.ref b410), .val (.int (1 : Int32)), .unset] [(.int (1 : Int32))]))
        refine gv (fun tQ kQ => XS.ifNo X440.here hx rfl (hb hby at_101) rfl ((if0 _ _).trans (feq (by decide : ¬ ((1 : Int32) = (0 : Int32)))).1) kQ) ?_
        show G (T440.setTop (mkF me_ 104 #[.val (.int p0), .val (.long p1), .second, .val (.int (0 : Int32)), .val (.int (1 : Int32)), .val (.int (1 : Int32)), .val (.ref b377), .val (.ref b391), .val (.ref b410), .val (.int (1 : Int32)), .unset] []))
        refine gv (fun tQ kQ => XS.aload X440.here hx rfl (hb hby at_104) rfl rfl kQ) ?_
        show G (T440.setTop (mkF me_ 106 #[.val (.int p0), .val (.long p1), .second, .val (.int (0 : Int32)), .val (.int (1 : Int32)), .val (.int (1 : Int32)), .val (.ref b377), .val (.ref b391), .val (.ref b410), .val (.int (1 : Int32)), .unset] [(.ref b410)]))
        refine gv (fun tQ kQ => XS.aload X440.here hx rfl (hb hby at_106) rfl rfl kQ) ?_
        show G (T440.setTop (mkF me_ 108 #[.val (.int p0), .val (.long p1), .second, .val (.int (0 : Int32)), .val (.int (1 : Int32)), .val (.int (1 : Int32)), .val (.ref b377), .val (.ref b391), .val (.ref b410), .val (.int (1 : Int32)), .unset] [(.ref b391), (.ref b410)]))
        obtain ⟨cq442, kq442, q442a, q442b, q442c⟩ := isOf hZ eq440 w422_3
        obtain ⟨_, _, ⟨T442, L442, k442, n442⟩, -, X442, ⟨Lc442, hQ442, l442, y442, z442⟩, st442⟩ := X440.virtualBack hx (y := (⟨"com/example/closemark/closemark/prices/StandingQuotes", "add", "(Lcom/example/closemark/closemark/tape/TapeRow;)V"⟩ : MethodName)) (z := (⟨"com/example/closemark/closemark/prices/StandingQuotes", "add", "(Lcom/example/closemark/closemark/tape/TapeRow;)V"⟩ : MethodName)) hown (mvT hZ (hw _ (List.mem_of_getElem? (i := 59) rfl))) (mvT hZ (hw _ (List.mem_of_getElem? (i := 60) rfl))) (notFace_of_selects (args := #[]) (mvT hZ (hw _ (List.mem_of_getElem? (i := 62) rfl)))) (mvT hZ (hw _ (List.mem_of_getElem? (i := 62) rfl))) (mvT hZ (hw _ (List.mem_of_getElem? (i := 61) rfl))) (by decide) (backOf (W := 0) (rm_addA l Z a0 hw [] b410 b391 y_422 A_BID A_ASK h422 n0 O439 f436 u0 u1 f437 u2 w422_5 w422_7 w422_9 g432) hZ (hw _ (List.mem_of_getElem? (i := 63) rfl)) (hw _ (List.mem_of_getElem? (i := 31) rfl)) (by decide) (by decide)) q442a q442c (g := (mkF me_ 108 #[.val (.int p0), .val (.long p1), .second, .val (.int (0 : Int32)), .val (.int (1 : Int32)), .val (.int (1 : Int32)), .val (.ref b377), .val (.ref b391), .val (.ref b410), .val (.int (1 : Int32)), .unset] [(.ref b391), (.ref b410)])) rfl (by rw [hml]; rfl) (Steps.refl _) (argsL := [(.ref b391)]) (rest := []) (lenOf pd_3 rfl) rfl (by show 2 * 0 + _ ≤ _; exact Nat.le_of_eq rfl) (hb hby at_108) (fun _ _ => ⟨rfl, eq440, (by decide : 5 + 0 ≤ _), (by decide : 14 + 0 ≤ _)⟩)
        dsimp only [Pt.U, Pt.locs, Pt.cells, Pt.slots] at X442 l442 y442 z442 st442 hQ442
        subst l442 y442 z442
        obtain ⟨rfl, Nq442, Kq442, w442_0, w442_1⟩ := hQ442
        have N443 := Fr.app N441 Nq442
        obtain ⟨h442, e442⟩ : ∃ z, T442.heap = z := ⟨_, rfl⟩
        rw [e442] at Kq442 w442_0 w442_1
        have f444 : Exa Z h442 b377 "com/example/closemark/closemark/tape/TapeRow" := f434.keep Kq442
        have f445 : Fld Z h442 b377 "com/example/closemark/closemark/tape/TapeRow" "kind" "Lcom/example/closemark/closemark/tape/TapeRow$Kind;" (.ref A_BID) := f435.keep Kq442 (ninS ne429 nin0)
        have f446 : Exa Z h442 b391 "com/example/closemark/closemark/tape/TapeRow" := f436.keep Kq442
        have f447 : Fld Z h442 b391 "com/example/closemark/closemark/tape/TapeRow" "kind" "Lcom/example/closemark/closemark/tape/TapeRow$Kind;" (.ref A_ASK) := f437.keep Kq442 (ninS ne430 nin0)
        have f448 : Exa Z h442 b410 "com/example/closemark/closemark/prices/StandingQuotes" := w422_3.keep Kq442
        have f449 : Fld Z h442 b410 "com/example/closemark/closemark/prices/StandingQuotes" "bid" "Lcom/example/closemark/closemark/prices/LatestRow;" (.ref x_422) := w422_4.keep Kq442 (ninS ne431 nin0)
        have f450 : Fld Z h442 b410 "com/example/closemark/closemark/prices/StandingQuotes" "ask" "Lcom/example/closemark/closemark/prices/LatestRow;" (.ref y_422) := w422_5.keep Kq442 (ninS ne431 nin0)
        have f451 : Exa Z h442 x_422 "com/example/closemark/closemark/prices/LatestRow" := w422_6.keep Kq442
        have f452 : Exa Z h442 y_422 "com/example/closemark/closemark/prices/LatestRow" := w422_7.keep Kq442
        have f453 : Fld Z h442 x_422 "com/example/closemark/closemark/prices/LatestRow" "row" "Lcom/example/closemark/closemark/tape/TapeRow;" .null := w422_8.keep Kq442 (ninS w422_2 nin0)
        have O454 := O439.keep Kq442 (allS g432 all0)
        refine gv (fun tQ kQ => st442.trans kQ) ?_
        show G (T442.setTop (mkF me_ 111 #[.val (.int p0), .val (.long p1), .second, .val (.int (0 : Int32)), .val (.int (1 : Int32)), .val (.int (1 : Int32)), .val (.ref b377), .val (.ref b391), .val (.ref b410), .val (.int (1 : Int32)), .unset] []))
        refine gv (fun tQ kQ => XS.iload X442.here hx rfl (hb hby at_111) rfl kQ) ?_
        show G (T442.setTop (mkF me_ 113 #[.val (.int p0), .val (.long p1), .second, .val (.int (0 : Int32)), .val (.int (1 : Int32)), .val (.int (1 : Int32)), .val (.ref b377), .val (.ref b391), .val (.ref b410), .val (.int (1 : Int32)), .unset] [(.int (1 : Int32))]))
        refine gv (fun tQ kQ => XS.ifNo X442.here hx rfl (hb hby at_113) rfl ((if0 _ _).trans (feq (by decide : ¬ ((1 : Int32) = (0 : Int32)))).1) kQ) ?_
        show G (T442.setTop (mkF me_ 116 #[.val (.int p0), .val (.long p1), .second, .val (.int (0 : Int32)), .val (.int (1 : Int32)), .val (.int (1 : Int32)), .val (.ref b377), .val (.ref b391), .val (.ref b410), .val (.int (1 : Int32)), .unset] []))
        refine gv (fun tQ kQ => XS.aload X442.here hx rfl (hb hby at_116) rfl rfl kQ) ?_
        show G (T442.setTop (mkF me_ 118 #[.val (.int p0), .val (.long p1), .second, .val (.int (0 : Int32)), .val (.int (1 : Int32)), .val (.int (1 : Int32)), .val (.ref b377), .val (.ref b391), .val (.ref b410), .val (.int (1 : Int32)), .unset] [(.ref b410)]))
        obtain ⟨cq455, kq455, q455a, q455b, q455c⟩ := isOf hZ e442 f448
        obtain ⟨_, _, ⟨T455, L455, k455, n455⟩, -, X455, ⟨Lc455, hQ455, l455, y455, z455⟩, st455⟩ := X442.virtualBack hx (y := (⟨"com/example/closemark/closemark/prices/StandingQuotes", "hasBidAndAsk", "()Z"⟩ : MethodName)) (z := (⟨"com/example/closemark/closemark/prices/StandingQuotes", "hasBidAndAsk", "()Z"⟩ : MethodName)) hown (mvT hZ (hw _ (List.mem_of_getElem? (i := 47) rfl))) (mvT hZ (hw _ (List.mem_of_getElem? (i := 48) rfl))) (notFace_of_selects (args := #[]) (mvT hZ (hw _ (List.mem_of_getElem? (i := 50) rfl)))) (mvT hZ (hw _ (List.mem_of_getElem? (i := 50) rfl))) (mvT hZ (hw _ (List.mem_of_getElem? (i := 49) rfl))) (by decide) (backOf (W := 0) (rm_hb0 l Z a0 hw [] b410 x_422 h442 n0 O454 f449 f451 f453) hZ (hw _ (List.mem_of_getElem? (i := 51) rfl)) (hw _ (List.mem_of_getElem? (i := 31) rfl)) (by decide) (by decide)) q455a q455c (g := (mkF me_ 118 #[.val (.int p0), .val (.long p1), .second, .val (.int (0 : Int32)), .val (.int (1 : Int32)), .val (.int (1 : Int32)), .val (.ref b377), .val (.ref b391), .val (.ref b410), .val (.int (1 : Int32)), .unset] [(.ref b410)])) rfl (by rw [hml]; rfl) (Steps.refl _) (argsL := []) (rest := []) (lenOf pd_5 rfl) rfl (by show 2 * 0 + _ ≤ _; exact Nat.le_of_eq rfl) (hb hby at_118) (fun _ _ => ⟨rfl, e442, (by decide : 5 + 0 ≤ _), (by decide : 14 + 0 ≤ _)⟩)
        dsimp only [Pt.U, Pt.locs, Pt.cells, Pt.slots] at X455 l455 y455 z455 st455 hQ455
        subst l455 y455 z455
        obtain ⟨rfl, Nq455, eq455⟩ := hQ455
        have N456 := Fr.app N443 Nq455
        refine gv (fun tQ kQ => st455.trans kQ) ?_
        show G (T455.setTop (mkF me_ 121 #[.val (.int p0), .val (.long p1), .second, .val (.int (0 : Int32)), .val (.int (1 : Int32)), .val (.int (1 : Int32)), .val (.ref b377), .val (.ref b391), .val (.ref b410), .val (.int (1 : Int32)), .unset] [(.int (0 : Int32))]))
        refine gv (fun tQ kQ => XS.ifNo X455.here hx rfl (hb hby at_121) rfl ((if0 _ _).trans (teq (by decide : (0 : Int32) = (0 : Int32))).2) kQ) ?_
        show G (T455.setTop (mkF me_ 124 #[.val (.int p0), .val (.long p1), .second, .val (.int (0 : Int32)), .val (.int (1 : Int32)), .val (.int (1 : Int32)), .val (.ref b377), .val (.ref b391), .val (.ref b410), .val (.int (1 : Int32)), .unset] []))
        refine gv (fun tQ kQ => XS.iconst X455.here hx rfl (hb hby at_124) kQ) ?_
        show G (T455.setTop (mkF me_ 125 #[.val (.int p0), .val (.long p1), .second, .val (.int (0 : Int32)), .val (.int (1 : Int32)), .val (.int (1 : Int32)), .val (.ref b377), .val (.ref b391), .val (.ref b410), .val (.int (1 : Int32)), .unset] [(.int (1 : Int32))]))
        refine gv (fun tQ kQ => XS.goto X455.here hx rfl (pc0 := 125) (pc' := 129) rfl (hb hby at_125) (by decide) (by decide) kQ) ?_
        show G (T455.setTop (mkF me_ 129 #[.val (.int p0), .val (.long p1), .second, .val (.int (0 : Int32)), .val (.int (1 : Int32)), .val (.int (1 : Int32)), .val (.ref b377), .val (.ref b391), .val (.ref b410), .val (.int (1 : Int32)), .unset] [(.int (1 : Int32))]))
        refine gv (fun tQ kQ => XS.istore X455.here hx rfl (hb hby at_129) rfl (l' := #[.val (.int p0), .val (.long p1), .second, .val (.int (0 : Int32)), .val (.int (1 : Int32)), .val (.int (1 : Int32)), .val (.ref b377), .val (.ref b391), .val (.ref b410), .val (.int (1 : Int32)), .unset]) rfl kQ) ?_
        show G (T455.setTop (mkF me_ 131 #[.val (.int p0), .val (.long p1), .second, .val (.int (0 : Int32)), .val (.int (1 : Int32)), .val (.int (1 : Int32)), .val (.ref b377), .val (.ref b391), .val (.ref b410), .val (.int (1 : Int32)), .unset] []))
        refine gv (fun tQ kQ => XS.iloadN X455.here hx rfl (hb hby at_131) rfl kQ) ?_
        show G (T455.setTop (mkF me_ 132 #[.val (.int p0), .val (.long p1), .second, .val (.int (0 : Int32)), .val (.int (1 : Int32)), .val (.int (1 : Int32)), .val (.ref b377), .val (.ref b391), .val (.ref b410), .val (.int (1 : Int32)), .unset] [(.int (0 : Int32))]))
        refine gv (fun tQ kQ => XS.ifYes X455.here hx rfl (pc0 := 132) (pc' := 188) rfl (hb hby at_132) rfl ((if0 _ _).trans (teq (by decide : (0 : Int32) = (0 : Int32))).1) (by decide) (by decide) kQ) ?_
        show G (T455.setTop (mkF me_ 188 #[.val (.int p0), .val (.long p1), .second, .val (.int (0 : Int32)), .val (.int (1 : Int32)), .val (.int (1 : Int32)), .val (.ref b377), .val (.ref b391), .val (.ref b410), .val (.int (1 : Int32)), .unset] []))
        refine gv (fun tQ kQ => XS.iloadN X455.here hx rfl (hb hby at_188) rfl kQ) ?_
        show G (T455.setTop (mkF me_ 189 #[.val (.int p0), .val (.long p1), .second, .val (.int (0 : Int32)), .val (.int (1 : Int32)), .val (.int (1 : Int32)), .val (.ref b377), .val (.ref b391), .val (.ref b410), .val (.int (1 : Int32)), .unset] [(.int (0 : Int32))]))
        refine gv (fun tQ kQ => XS.ifYes X455.here hx rfl (pc0 := 189) (pc' := 201) rfl (hb hby at_189) rfl ((if0 _ _).trans (teq (by decide : (0 : Int32) = (0 : Int32))).1) (by decide) (by decide) kQ) ?_
        show G (T455.setTop (mkF me_ 201 #[.val (.int p0), .val (.long p1), .second, .val (.int (0 : Int32)), .val (.int (1 : Int32)), .val (.int (1 : Int32)), .val (.ref b377), .val (.ref b391), .val (.ref b410), .val (.int (1 : Int32)), .unset] []))
        refine gv (fun tQ kQ => XS.iconst X455.here hx rfl (hb hby at_201) kQ) ?_
        show G (T455.setTop (mkF me_ 202 #[.val (.int p0), .val (.long p1), .second, .val (.int (0 : Int32)), .val (.int (1 : Int32)), .val (.int (1 : Int32)), .val (.ref b377), .val (.ref b391), .val (.ref b410), .val (.int (1 : Int32)), .unset] [(.int (0 : Int32))]))
        refine gv (fun tQ kQ => XS.istore X455.here hx rfl (hb hby at_202) rfl (l' := #[.val (.int p0), .val (.long p1), .second, .val (.int (0 : Int32)), .val (.int (1 : Int32)), .val (.int (1 : Int32)), .val (.ref b377), .val (.ref b391), .val (.ref b410), .val (.int (1 : Int32)), .val (.int (0 : Int32))]) rfl kQ) ?_
        show G (T455.setTop (mkF me_ 204 #[.val (.int p0), .val (.long p1), .second, .val (.int (0 : Int32)), .val (.int (1 : Int32)), .val (.int (1 : Int32)), .val (.ref b377), .val (.ref b391), .val (.ref b410), .val (.int (1 : Int32)), .val (.int (0 : Int32))] []))
        refine gv (fun tQ kQ => XS.iload X455.here hx rfl (hb hby at_204) rfl kQ) ?_
        show G (T455.setTop (mkF me_ 206 #[.val (.int p0), .val (.long p1), .second, .val (.int (0 : Int32)), .val (.int (1 : Int32)), .val (.int (1 : Int32)), .val (.ref b377), .val (.ref b391), .val (.ref b410), .val (.int (1 : Int32)), .val (.int (0 : Int32))] [(.int (1 : Int32))]))
        refine gv (fun tQ kQ => XS.ifNo X455.here hx rfl (hb hby at_206) rfl ((if0 _ _).trans (feq (by decide : ¬ ((1 : Int32) = (0 : Int32)))).1) kQ) ?_
        show G (T455.setTop (mkF me_ 209 #[.val (.int p0), .val (.long p1), .second, .val (.int (0 : Int32)), .val (.int (1 : Int32)), .val (.int (1 : Int32)), .val (.ref b377), .val (.ref b391), .val (.ref b410), .val (.int (1 : Int32)), .val (.int (0 : Int32))] []))
        refine gv (fun tQ kQ => XS.aload X455.here hx rfl (hb hby at_209) rfl rfl kQ) ?_
        show G (T455.setTop (mkF me_ 211 #[.val (.int p0), .val (.long p1), .second, .val (.int (0 : Int32)), .val (.int (1 : Int32)), .val (.int (1 : Int32)), .val (.ref b377), .val (.ref b391), .val (.ref b410), .val (.int (1 : Int32)), .val (.int (0 : Int32))] [(.ref b410)]))
        obtain ⟨cq457, kq457, q457a, q457b, q457c⟩ := isOf hZ eq455 f448
        obtain ⟨_, _, ⟨T457, L457, k457, n457⟩, -, X457, ⟨Lc457, hQ457, l457, y457, z457⟩, st457⟩ := X455.virtualBack hx (y := (⟨"com/example/closemark/closemark/prices/StandingQuotes", "hasBidAndAsk", "()Z"⟩ : MethodName)) (z := (⟨"com/example/closemark/closemark/prices/StandingQuotes", "hasBidAndAsk", "()Z"⟩ : MethodName)) hown (mvT hZ (hw _ (List.mem_of_getElem? (i := 47) rfl))) (mvT hZ (hw _ (List.mem_of_getElem? (i := 48) rfl))) (notFace_of_selects (args := #[]) (mvT hZ (hw _ (List.mem_of_getElem? (i := 50) rfl)))) (mvT hZ (hw _ (List.mem_of_getElem? (i := 50) rfl))) (mvT hZ (hw _ (List.mem_of_getElem? (i := 49) rfl))) (by decide) (backOf (W := 0) (rm_hb0 l Z a0 hw [] b410 x_422 h442 n0 O454 f449 f451 f453) hZ (hw _ (List.mem_of_getElem? (i := 51) rfl)) (hw _ (List.mem_of_getElem? (i := 31) rfl)) (by decide) (by decide)) q457a q457c (g := (mkF me_ 211 #[.val (.int p0), .val (.long p1), .second, .val (.int (0 : Int32)), .val (.int (1 : Int32)), .val (.int (1 : Int32)), .val (.ref b377), .val (.ref b391), .val (.ref b410), .val (.int (1 : Int32)), .val (.int (0 : Int32))] [(.ref b410)])) rfl (by rw [hml]; rfl) (Steps.refl _) (argsL := []) (rest := []) (lenOf pd_5 rfl) rfl (by show 2 * 0 + _ ≤ _; exact Nat.le_of_eq rfl) (hb hby at_211) (fun _ _ => ⟨rfl, eq455, (by decide : 5 + 0 ≤ _), (by decide : 14 + 0 ≤ _)⟩)
        dsimp only [Pt.U, Pt.locs, Pt.cells, Pt.slots] at X457 l457 y457 z457 st457 hQ457
        subst l457 y457 z457
        obtain ⟨rfl, Nq457, eq457⟩ := hQ457
        have N458 := Fr.app N456 Nq457
        refine gv (fun tQ kQ => st457.trans kQ) ?_
        show G (T457.setTop (mkF me_ 214 #[.val (.int p0), .val (.long p1), .second, .val (.int (0 : Int32)), .val (.int (1 : Int32)), .val (.int (1 : Int32)), .val (.ref b377), .val (.ref b391), .val (.ref b410), .val (.int (1 : Int32)), .val (.int (0 : Int32))] [(.int (0 : Int32))]))
        refine gv (fun tQ kQ => XS.iload X457.here hx rfl (hb hby at_214) rfl kQ) ?_
        show G (T457.setTop (mkF me_ 216 #[.val (.int p0), .val (.long p1), .second, .val (.int (0 : Int32)), .val (.int (1 : Int32)), .val (.int (1 : Int32)), .val (.ref b377), .val (.ref b391), .val (.ref b410), .val (.int (1 : Int32)), .val (.int (0 : Int32))] [(.int (0 : Int32)), (.int (0 : Int32))]))
        refine gv (fun tQ kQ => XS.icmpNo X457.here hx rfl (hb hby at_216) rfl (teq (by decide : (0 : Int32) = (0 : Int32))).2 kQ) ?_
        show G (T457.setTop (mkF me_ 219 #[.val (.int p0), .val (.long p1), .second, .val (.int (0 : Int32)), .val (.int (1 : Int32)), .val (.int (1 : Int32)), .val (.ref b377), .val (.ref b391), .val (.ref b410), .val (.int (1 : Int32)), .val (.int (0 : Int32))] []))
        refine gv (fun tQ kQ => XS.iconst X457.here hx rfl (hb hby at_219) kQ) ?_
        show G (T457.setTop (mkF me_ 220 #[.val (.int p0), .val (.long p1), .second, .val (.int (0 : Int32)), .val (.int (1 : Int32)), .val (.int (1 : Int32)), .val (.ref b377), .val (.ref b391), .val (.ref b410), .val (.int (1 : Int32)), .val (.int (0 : Int32))] [(.int (1 : Int32))]))
        refine gv (fun tQ kQ => XS.goto X457.here hx rfl (pc0 := 220) (pc' := 224) rfl (hb hby at_220) (by decide) (by decide) kQ) ?_
        show G (T457.setTop (mkF me_ 224 #[.val (.int p0), .val (.long p1), .second, .val (.int (0 : Int32)), .val (.int (1 : Int32)), .val (.int (1 : Int32)), .val (.ref b377), .val (.ref b391), .val (.ref b410), .val (.int (1 : Int32)), .val (.int (0 : Int32))] [(.int (1 : Int32))]))
        refine gf _ (own_ret X457 Bd.notSynchronized (v := some (.int (1 : Int32))) (fun h => by rw [Bd.returns] at h; cases h) ?_ (by decide) (by decide) (fun fs hr => retN X457 hx (t := .boolean) Bd.returns (by simp) (hb hby at_224) hr))
        show Q0 Z p0 p1 A_BID A_ASK h0 n0 _ T457.heap _
        rw [eq457]
        exact ⟨rfl, N458⟩
  · refine gv (fun tQ kQ => XS.ifNo X0.here hx rfl (hb hby at_3) rfl ((if0 _ _).trans (feq hc153).1) kQ) ?_
    show G (s₁.setTop (mkF me_ 6 #[.val (.int p0), .val (.long p1), .second, .unset, .unset, .unset, .unset, .unset, .unset, .unset, .unset] []))
    refine gv (fun tQ kQ => XS.iconst X0.here hx rfl (hb hby at_6) kQ) ?_
    show G (s₁.setTop (mkF me_ 7 #[.val (.int p0), .val (.long p1), .second, .unset, .unset, .unset, .unset, .unset, .unset, .unset, .unset] [(.int (1 : Int32))]))
    refine gv (fun tQ kQ => XS.goto X0.here hx rfl (pc0 := 7) (pc' := 11) rfl (hb hby at_7) (by decide) (by decide) kQ) ?_
    show G (s₁.setTop (mkF me_ 11 #[.val (.int p0), .val (.long p1), .second, .unset, .unset, .unset, .unset, .unset, .unset, .unset, .unset] [(.int (1 : Int32))]))
    refine gv (fun tQ kQ => XS.istoreN X0.here hx rfl (hb hby at_11) rfl (l' := #[.val (.int p0), .val (.long p1), .second, .val (.int (1 : Int32)), .unset, .unset, .unset, .unset, .unset, .unset, .unset]) rfl kQ) ?_
    show G (s₁.setTop (mkF me_ 12 #[.val (.int p0), .val (.long p1), .second, .val (.int (1 : Int32)), .unset, .unset, .unset, .unset, .unset, .unset, .unset] []))
    refine gv (fun tQ kQ => XS.iloadN X0.here hx rfl (hb hby at_12) rfl kQ) ?_
    show G (s₁.setTop (mkF me_ 13 #[.val (.int p0), .val (.long p1), .second, .val (.int (1 : Int32)), .unset, .unset, .unset, .unset, .unset, .unset, .unset] [(.int p0)]))
    refine gv (fun tQ kQ => XS.iconst X0.here hx rfl (hb hby at_13) kQ) ?_
    show G (s₁.setTop (mkF me_ 14 #[.val (.int p0), .val (.long p1), .second, .val (.int (1 : Int32)), .unset, .unset, .unset, .unset, .unset, .unset, .unset] [(.int (2 : Int32)), (.int p0)]))
    refine gv (fun tQ kQ => XS.iand X0.here hx rfl (hb hby at_14) rfl kQ) ?_
    show G (s₁.setTop (mkF me_ 15 #[.val (.int p0), .val (.long p1), .second, .val (.int (1 : Int32)), .unset, .unset, .unset, .unset, .unset, .unset, .unset] [(.int (p0 &&& (2 : Int32)))]))
    by_cases hc459 : (p0 &&& (2 : Int32)) = (0 : Int32)
    · refine gv (fun tQ kQ => XS.ifYes X0.here hx rfl (pc0 := 15) (pc' := 22) rfl (hb hby at_15) rfl ((if0 _ _).trans (teq hc459).1) (by decide) (by decide) kQ) ?_
      show G (s₁.setTop (mkF me_ 22 #[.val (.int p0), .val (.long p1), .second, .val (.int (1 : Int32)), .unset, .unset, .unset, .unset, .unset, .unset, .unset] []))
      refine gv (fun tQ kQ => XS.iconst X0.here hx rfl (hb hby at_22) kQ) ?_
      show G (s₁.setTop (mkF me_ 23 #[.val (.int p0), .val (.long p1), .second, .val (.int (1 : Int32)), .unset, .unset, .unset, .unset, .unset, .unset, .unset] [(.int (0 : Int32))]))
      refine gv (fun tQ kQ => XS.istore X0.here hx rfl (hb hby at_23) rfl (l' := #[.val (.int p0), .val (.long p1), .second, .val (.int (1 : Int32)), .val (.int (0 : Int32)), .unset, .unset, .unset, .unset, .unset, .unset]) rfl kQ) ?_
      show G (s₁.setTop (mkF me_ 25 #[.val (.int p0), .val (.long p1), .second, .val (.int (1 : Int32)), .val (.int (0 : Int32)), .unset, .unset, .unset, .unset, .unset, .unset] []))
      refine gv (fun tQ kQ => XS.iloadN X0.here hx rfl (hb hby at_25) rfl kQ) ?_
      show G (s₁.setTop (mkF me_ 26 #[.val (.int p0), .val (.long p1), .second, .val (.int (1 : Int32)), .val (.int (0 : Int32)), .unset, .unset, .unset, .unset, .unset, .unset] [(.int p0)]))
      refine gv (fun tQ kQ => XS.iconst X0.here hx rfl (hb hby at_26) kQ) ?_
      show G (s₁.setTop (mkF me_ 27 #[.val (.int p0), .val (.long p1), .second, .val (.int (1 : Int32)), .val (.int (0 : Int32)), .unset, .unset, .unset, .unset, .unset, .unset] [(.int (4 : Int32)), (.int p0)]))
      refine gv (fun tQ kQ => XS.iand X0.here hx rfl (hb hby at_27) rfl kQ) ?_
      show G (s₁.setTop (mkF me_ 28 #[.val (.int p0), .val (.long p1), .second, .val (.int (1 : Int32)), .val (.int (0 : Int32)), .unset, .unset, .unset, .unset, .unset, .unset] [(.int (p0 &&& (4 : Int32)))]))
      by_cases hc460 : (p0 &&& (4 : Int32)) = (0 : Int32)
      · refine gv (fun tQ kQ => XS.ifYes X0.here hx rfl (pc0 := 28) (pc' := 35) rfl (hb hby at_28) rfl ((if0 _ _).trans (teq hc460).1) (by decide) (by decide) kQ) ?_
        show G (s₁.setTop (mkF me_ 35 #[.val (.int p0), .val (.long p1), .second, .val (.int (1 : Int32)), .val (.int (0 : Int32)), .unset, .unset, .unset, .unset, .unset, .unset] []))
        refine gv (fun tQ kQ => XS.iconst X0.here hx rfl (hb hby at_35) kQ) ?_
        show G (s₁.setTop (mkF me_ 36 #[.val (.int p0), .val (.long p1), .second, .val (.int (1 : Int32)), .val (.int (0 : Int32)), .unset, .unset, .unset, .unset, .unset, .unset] [(.int (0 : Int32))]))
        refine gv (fun tQ kQ => XS.istore X0.here hx rfl (hb hby at_36) rfl (l' := #[.val (.int p0), .val (.long p1), .second, .val (.int (1 : Int32)), .val (.int (0 : Int32)), .val (.int (0 : Int32)), .unset, .unset, .unset, .unset, .unset]) rfl kQ) ?_
        show G (s₁.setTop (mkF me_ 38 #[.val (.int p0), .val (.long p1), .second, .val (.int (1 : Int32)), .val (.int (0 : Int32)), .val (.int (0 : Int32)), .unset, .unset, .unset, .unset, .unset] []))
        obtain ⟨T461, h461, X461, e461, E461, A461, D461, -, st461⟩ := newO X0 hx hZ hown (hw _ (List.mem_of_getElem? (i := 0) rfl)) (hw _ (List.mem_of_getElem? (i := 1) rfl)) (hw _ (List.mem_of_getElem? (i := 2) rfl)) e0 (g := (mkF me_ 38 #[.val (.int p0), .val (.long p1), .second, .val (.int (1 : Int32)), .val (.int (0 : Int32)), .val (.int (0 : Int32)), .unset, .unset, .unset, .unset, .unset] [])) rfl (hb hby at_38) (by decide) (by decide)
        obtain ⟨b461, g461⟩ : ∃ z, z = h0.size := ⟨_, rfl⟩
        rw [← g461] at A461 D461 st461
        refine gv st461 ?_
        have g462 : n0 ≤ b461 := Nat.le_trans (own_old O0) (Nat.le_of_eq g461.symm)
        have O464 := O0.ext E461
        have f465 : Fld Z h461 b461 "com/example/closemark/closemark/tape/TapeRow" "time" "Ljava/time/Instant;" .null := D461 (Or.inr (hw _ (List.mem_of_getElem? (i := 18) rfl))) (ty := (.object "java/time/Instant")) (by decide)
        have f466 : Fld Z h461 b461 "com/example/closemark/closemark/tape/TapeRow" "symbol" "Ljava/lang/String;" .null := D461 (Or.inr (hw _ (List.mem_of_getElem? (i := 20) rfl))) (ty := (.object "java/lang/String")) (by decide)
        have f467 : Fld Z h461 b461 "com/example/closemark/closemark/tape/TapeRow" "kind" "Lcom/example/closemark/closemark/tape/TapeRow$Kind;" .null := D461 (Or.inr (hw _ (List.mem_of_getElem? (i := 22) rfl))) (ty := (.object "com/example/closemark/closemark/tape/TapeRow$Kind")) (by decide)
        have f468 : Fld Z h461 b461 "com/example/closemark/closemark/tape/TapeRow" "price" "Ljava/math/BigDecimal;" .null := D461 (Or.inr (hw _ (List.mem_of_getElem? (i := 24) rfl))) (ty := (.object "java/math/BigDecimal")) (by decide)
        have f469 : Fld Z h461 b461 "com/example/closemark/closemark/tape/TapeRow" "qty" "J" (.long (0 : Int64)) := D461 (Or.inr (hw _ (List.mem_of_getElem? (i := 26) rfl))) (ty := .long) (by decide)
        show G (T461.setTop (mkF me_ 41 #[.val (.int p0), .val (.long p1), .second, .val (.int (1 : Int32)), .val (.int (0 : Int32)), .val (.int (0 : Int32)), .unset, .unset, .unset, .unset, .unset] [(.ref b461)]))
        refine gv (fun tQ kQ => XS.dup X461.here hx rfl (hb hby at_41) rfl rfl kQ) ?_
        show G (T461.setTop (mkF me_ 42 #[.val (.int p0), .val (.long p1), .second, .val (.int (1 : Int32)), .val (.int (0 : Int32)), .val (.int (0 : Int32)), .unset, .unset, .unset, .unset, .unset] [(.ref b461), (.ref b461)]))
        refine gv (fun tQ kQ => XS.aconstNull X461.here hx rfl (hb hby at_42) kQ) ?_
        show G (T461.setTop (mkF me_ 43 #[.val (.int p0), .val (.long p1), .second, .val (.int (1 : Int32)), .val (.int (0 : Int32)), .val (.int (0 : Int32)), .unset, .unset, .unset, .unset, .unset] [.null, (.ref b461), (.ref b461)]))
        refine gv (fun tQ kQ => XS.aconstNull X461.here hx rfl (hb hby at_43) kQ) ?_
        show G (T461.setTop (mkF me_ 44 #[.val (.int p0), .val (.long p1), .second, .val (.int (1 : Int32)), .val (.int (0 : Int32)), .val (.int (0 : Int32)), .unset, .unset, .unset, .unset, .unset] [.null, .null, (.ref b461), (.ref b461)]))
        obtain ⟨T470, X470, e470, st470⟩ := getS2 X461 hx hZ hown (host := "") (Or.inl (hw _ (List.mem_of_getElem? (i := 3) rfl))) Via.refl e461 (u0.ext O464.2) (g := (mkF me_ 44 #[.val (.int p0), .val (.long p1), .second, .val (.int (1 : Int32)), .val (.int (0 : Int32)), .val (.int (0 : Int32)), .unset, .unset, .unset, .unset, .unset] [.null, .null, (.ref b461), (.ref b461)])) rfl (hb hby at_44)
        refine gv st470 ?_
        show G (T470.setTop (mkF me_ 47 #[.val (.int p0), .val (.long p1), .second, .val (.int (1 : Int32)), .val (.int (0 : Int32)), .val (.int (0 : Int32)), .unset, .unset, .unset, .unset, .unset] [(.ref A_BID), .null, .null, (.ref b461), (.ref b461)]))
        refine gv (fun tQ kQ => XS.aconstNull X470.here hx rfl (hb hby at_47) kQ) ?_
        show G (T470.setTop (mkF me_ 48 #[.val (.int p0), .val (.long p1), .second, .val (.int (1 : Int32)), .val (.int (0 : Int32)), .val (.int (0 : Int32)), .unset, .unset, .unset, .unset, .unset] [.null, (.ref A_BID), .null, .null, (.ref b461), (.ref b461)]))
        refine gv (fun tQ kQ => XS.lloadN X470.here hx rfl (hb hby at_48) rfl kQ) ?_
        show G (T470.setTop (mkF me_ 49 #[.val (.int p0), .val (.long p1), .second, .val (.int (1 : Int32)), .val (.int (0 : Int32)), .val (.int (0 : Int32)), .unset, .unset, .unset, .unset, .unset] [(.long p1), .null, (.ref A_BID), .null, .null, (.ref b461), (.ref b461)]))
        obtain ⟨_, _, ⟨T471, L471, k471, n471⟩, -, X471, ⟨Lc471, hQ471, l471, y471, z471⟩, st471⟩ := X470.specialBack hx (y := (⟨"com/example/closemark/closemark/tape/TapeRow", "<init>", "(Ljava/time/Instant;Ljava/lang/String;Lcom/example/closemark/closemark/tape/TapeRow$Kind;Ljava/math/BigDecimal;J)V"⟩ : MethodName)) rfl hown (mvT hZ (hw _ (List.mem_of_getElem? (i := 6) rfl))) (mvT hZ (hw _ (List.mem_of_getElem? (i := 7) rfl))) (mvT hZ (hw _ (List.mem_of_getElem? (i := 8) rfl))) (by decide) (backOf (W := 1) (rm_tri l Z a0 hw [] b461 A_BID p1 h461 n0 O464 A461 f465 f466 f467 f468 f469 g462) hZ (hw _ (List.mem_of_getElem? (i := 8) rfl)) (hw _ (List.mem_of_getElem? (i := 2) rfl)) (by decide) (by decide)) (g := (mkF me_ 49 #[.val (.int p0), .val (.long p1), .second, .val (.int (1 : Int32)), .val (.int (0 : Int32)), .val (.int (0 : Int32)), .unset, .unset, .unset, .unset, .unset] [(.long p1), .null, (.ref A_BID), .null, .null, (.ref b461), (.ref b461)])) rfl (by rw [hml]; rfl) (Steps.refl _) (a := b461) (argsL := [.null, .null, (.ref A_BID), .null, (.long p1)]) (rest := [(.ref b461)]) (lenOf pd_4 rfl) rfl (by show 2 * 0 + _ ≤ _; exact Nat.le_of_eq rfl) (hb hby at_49) (fun _ _ => ⟨rfl, e470, (by decide : 1 + 0 ≤ _), (by decide : 5 + 0 ≤ _)⟩)
        dsimp only [Pt.U, Pt.locs, Pt.cells, Pt.slots] at X471 l471 y471 z471 st471 hQ471
        subst l471 y471 z471
        obtain ⟨rfl, Nq471, Kq471, w471_0, w471_1⟩ := hQ471
        have N472 := Fr.app N0 Nq471
        obtain ⟨h471, e471⟩ : ∃ z, T471.heap = z := ⟨_, rfl⟩
        rw [e471] at Kq471 w471_0 w471_1
        have f473 : Exa Z h471 b461 "com/example/closemark/closemark/tape/TapeRow" := A461.keep Kq471
        have O474 := O464.keep Kq471 (allS g462 all0)
        refine gv (fun tQ kQ => st471.trans kQ) ?_
        show G (T471.setTop (mkF me_ 52 #[.val (.int p0), .val (.long p1), .second, .val (.int (1 : Int32)), .val (.int (0 : Int32)), .val (.int (0 : Int32)), .unset, .unset, .unset, .unset, .unset] [(.ref b461)]))
        refine gv (fun tQ kQ => XS.astore X471.here hx rfl (hb hby at_52) rfl rfl (l' := #[.val (.int p0), .val (.long p1), .second, .val (.int (1 : Int32)), .val (.int (0 : Int32)), .val (.int (0 : Int32)), .val (.ref b461), .unset, .unset, .unset, .unset]) rfl kQ) ?_
        show G (T471.setTop (mkF me_ 54 #[.val (.int p0), .val (.long p1), .second, .val (.int (1 : Int32)), .val (.int (0 : Int32)), .val (.int (0 : Int32)), .val (.ref b461), .unset, .unset, .unset, .unset] []))
        obtain ⟨T475, h475, X475, e475, E475, A475, D475, -, st475⟩ := newO X471 hx hZ hown (hw _ (List.mem_of_getElem? (i := 0) rfl)) (hw _ (List.mem_of_getElem? (i := 1) rfl)) (hw _ (List.mem_of_getElem? (i := 2) rfl)) e471 (g := (mkF me_ 54 #[.val (.int p0), .val (.long p1), .second, .val (.int (1 : Int32)), .val (.int (0 : Int32)), .val (.int (0 : Int32)), .val (.ref b461), .unset, .unset, .unset, .unset] [])) rfl (hb hby at_54) (by decide) (by decide)
        obtain ⟨b475, g475⟩ : ∃ z, z = h471.size := ⟨_, rfl⟩
        rw [← g475] at A475 D475 st475
        refine gv st475 ?_
        have ne476 : b461 ≠ b475 := Nat.ne_of_lt (Nat.lt_of_lt_of_le w471_0.lt (Nat.le_of_eq g475.symm))
        have g477 : n0 ≤ b475 := Nat.le_trans (own_old O474) (Nat.le_of_eq g475.symm)
        have f479 : Exa Z h475 b461 "com/example/closemark/closemark/tape/TapeRow" := w471_0.ext E475
        have f480 : Fld Z h475 b461 "com/example/closemark/closemark/tape/TapeRow" "kind" "Lcom/example/closemark/closemark/tape/TapeRow$Kind;" (.ref A_BID) := w471_1.ext E475
        have O481 := O474.ext E475
        have f482 : Fld Z h475 b475 "com/example/closemark/closemark/tape/TapeRow" "time" "Ljava/time/Instant;" .null := D475 (Or.inr (hw _ (List.mem_of_getElem? (i := 18) rfl))) (ty := (.object "java/time/Instant")) (by decide)
        have f483 : Fld Z h475 b475 "com/example/closemark/closemark/tape/TapeRow" "symbol" "Ljava/lang/String;" .null := D475 (Or.inr (hw _ (List.mem_of_getElem? (i := 20) rfl))) (ty := (.object "java/lang/String")) (by decide)
        have f484 : Fld Z h475 b475 "com/example/closemark/closemark/tape/TapeRow" "kind" "Lcom/example/closemark/closemark/tape/TapeRow$Kind;" .null := D475 (Or.inr (hw _ (List.mem_of_getElem? (i := 22) rfl))) (ty := (.object "com/example/closemark/closemark/tape/TapeRow$Kind")) (by decide)
        have f485 : Fld Z h475 b475 "com/example/closemark/closemark/tape/TapeRow" "price" "Ljava/math/BigDecimal;" .null := D475 (Or.inr (hw _ (List.mem_of_getElem? (i := 24) rfl))) (ty := (.object "java/math/BigDecimal")) (by decide)
        have f486 : Fld Z h475 b475 "com/example/closemark/closemark/tape/TapeRow" "qty" "J" (.long (0 : Int64)) := D475 (Or.inr (hw _ (List.mem_of_getElem? (i := 26) rfl))) (ty := .long) (by decide)
        show G (T475.setTop (mkF me_ 57 #[.val (.int p0), .val (.long p1), .second, .val (.int (1 : Int32)), .val (.int (0 : Int32)), .val (.int (0 : Int32)), .val (.ref b461), .unset, .unset, .unset, .unset] [(.ref b475)]))
        refine gv (fun tQ kQ => XS.dup X475.here hx rfl (hb hby at_57) rfl rfl kQ) ?_
        show G (T475.setTop (mkF me_ 58 #[.val (.int p0), .val (.long p1), .second, .val (.int (1 : Int32)), .val (.int (0 : Int32)), .val (.int (0 : Int32)), .val (.ref b461), .unset, .unset, .unset, .unset] [(.ref b475), (.ref b475)]))
        refine gv (fun tQ kQ => XS.aconstNull X475.here hx rfl (hb hby at_58) kQ) ?_
        show G (T475.setTop (mkF me_ 59 #[.val (.int p0), .val (.long p1), .second, .val (.int (1 : Int32)), .val (.int (0 : Int32)), .val (.int (0 : Int32)), .val (.ref b461), .unset, .unset, .unset, .unset] [.null, (.ref b475), (.ref b475)]))
        refine gv (fun tQ kQ => XS.aconstNull X475.here hx rfl (hb hby at_59) kQ) ?_
        show G (T475.setTop (mkF me_ 60 #[.val (.int p0), .val (.long p1), .second, .val (.int (1 : Int32)), .val (.int (0 : Int32)), .val (.int (0 : Int32)), .val (.ref b461), .unset, .unset, .unset, .unset] [.null, .null, (.ref b475), (.ref b475)]))
        obtain ⟨T487, X487, e487, st487⟩ := getS2 X475 hx hZ hown (host := "") (Or.inl (hw _ (List.mem_of_getElem? (i := 27) rfl))) Via.refl e475 (u1.ext O481.2) (g := (mkF me_ 60 #[.val (.int p0), .val (.long p1), .second, .val (.int (1 : Int32)), .val (.int (0 : Int32)), .val (.int (0 : Int32)), .val (.ref b461), .unset, .unset, .unset, .unset] [.null, .null, (.ref b475), (.ref b475)])) rfl (hb hby at_60)
        refine gv st487 ?_
        show G (T487.setTop (mkF me_ 63 #[.val (.int p0), .val (.long p1), .second, .val (.int (1 : Int32)), .val (.int (0 : Int32)), .val (.int (0 : Int32)), .val (.ref b461), .unset, .unset, .unset, .unset] [(.ref A_ASK), .null, .null, (.ref b475), (.ref b475)]))
        refine gv (fun tQ kQ => XS.aconstNull X487.here hx rfl (hb hby at_63) kQ) ?_
        show G (T487.setTop (mkF me_ 64 #[.val (.int p0), .val (.long p1), .second, .val (.int (1 : Int32)), .val (.int (0 : Int32)), .val (.int (0 : Int32)), .val (.ref b461), .unset, .unset, .unset, .unset] [.null, (.ref A_ASK), .null, .null, (.ref b475), (.ref b475)]))
        refine gv (fun tQ kQ => XS.lloadN X487.here hx rfl (hb hby at_64) rfl kQ) ?_
        show G (T487.setTop (mkF me_ 65 #[.val (.int p0), .val (.long p1), .second, .val (.int (1 : Int32)), .val (.int (0 : Int32)), .val (.int (0 : Int32)), .val (.ref b461), .unset, .unset, .unset, .unset] [(.long p1), .null, (.ref A_ASK), .null, .null, (.ref b475), (.ref b475)]))
        obtain ⟨_, _, ⟨T488, L488, k488, n488⟩, -, X488, ⟨Lc488, hQ488, l488, y488, z488⟩, st488⟩ := X487.specialBack hx (y := (⟨"com/example/closemark/closemark/tape/TapeRow", "<init>", "(Ljava/time/Instant;Ljava/lang/String;Lcom/example/closemark/closemark/tape/TapeRow$Kind;Ljava/math/BigDecimal;J)V"⟩ : MethodName)) rfl hown (mvT hZ (hw _ (List.mem_of_getElem? (i := 6) rfl))) (mvT hZ (hw _ (List.mem_of_getElem? (i := 7) rfl))) (mvT hZ (hw _ (List.mem_of_getElem? (i := 8) rfl))) (by decide) (backOf (W := 1) (rm_tri l Z a0 hw [] b475 A_ASK p1 h475 n0 O481 A475 f482 f483 f484 f485 f486 g477) hZ (hw _ (List.mem_of_getElem? (i := 8) rfl)) (hw _ (List.mem_of_getElem? (i := 2) rfl)) (by decide) (by decide)) (g := (mkF me_ 65 #[.val (.int p0), .val (.long p1), .second, .val (.int (1 : Int32)), .val (.int (0 : Int32)), .val (.int (0 : Int32)), .val (.ref b461), .unset, .unset, .unset, .unset] [(.long p1), .null, (.ref A_ASK), .null, .null, (.ref b475), (.ref b475)])) rfl (by rw [hml]; rfl) (Steps.refl _) (a := b475) (argsL := [.null, .null, (.ref A_ASK), .null, (.long p1)]) (rest := [(.ref b475)]) (lenOf pd_4 rfl) rfl (by show 2 * 0 + _ ≤ _; exact Nat.le_of_eq rfl) (hb hby at_65) (fun _ _ => ⟨rfl, e487, (by decide : 2 + 0 ≤ _), (by decide : 10 + 0 ≤ _)⟩)
        dsimp only [Pt.U, Pt.locs, Pt.cells, Pt.slots] at X488 l488 y488 z488 st488 hQ488
        subst l488 y488 z488
        obtain ⟨rfl, Nq488, Kq488, w488_0, w488_1⟩ := hQ488
        have N489 := Fr.app N472 Nq488
        obtain ⟨h488, e488⟩ : ∃ z, T488.heap = z := ⟨_, rfl⟩
        rw [e488] at Kq488 w488_0 w488_1
        have f490 : Exa Z h488 b461 "com/example/closemark/closemark/tape/TapeRow" := f479.keep Kq488
        have f491 : Fld Z h488 b461 "com/example/closemark/closemark/tape/TapeRow" "kind" "Lcom/example/closemark/closemark/tape/TapeRow$Kind;" (.ref A_BID) := f480.keep Kq488 (ninS ne476 nin0)
        have f492 : Exa Z h488 b475 "com/example/closemark/closemark/tape/TapeRow" := A475.keep Kq488
        have O493 := O481.keep Kq488 (allS g477 all0)
        refine gv (fun tQ kQ => st488.trans kQ) ?_
        show G (T488.setTop (mkF me_ 68 #[.val (.int p0), .val (.long p1), .second, .val (.int (1 : Int32)), .val (.int (0 : Int32)), .val (.int (0 : Int32)), .val (.ref b461), .unset, .unset, .unset, .unset] [(.ref b475)]))
        refine gv (fun tQ kQ => XS.astore X488.here hx rfl (hb hby at_68) rfl rfl (l' := #[.val (.int p0), .val (.long p1), .second, .val (.int (1 : Int32)), .val (.int (0 : Int32)), .val (.int (0 : Int32)), .val (.ref b461), .val (.ref b475), .unset, .unset, .unset]) rfl kQ) ?_
        show G (T488.setTop (mkF me_ 70 #[.val (.int p0), .val (.long p1), .second, .val (.int (1 : Int32)), .val (.int (0 : Int32)), .val (.int (0 : Int32)), .val (.ref b461), .val (.ref b475), .unset, .unset, .unset] []))
        obtain ⟨T494, h494, X494, e494, E494, A494, D494, -, st494⟩ := newO X488 hx hZ hown (hw _ (List.mem_of_getElem? (i := 29) rfl)) (hw _ (List.mem_of_getElem? (i := 30) rfl)) (hw _ (List.mem_of_getElem? (i := 31) rfl)) e488 (g := (mkF me_ 70 #[.val (.int p0), .val (.long p1), .second, .val (.int (1 : Int32)), .val (.int (0 : Int32)), .val (.int (0 : Int32)), .val (.ref b461), .val (.ref b475), .unset, .unset, .unset] [])) rfl (hb hby at_70) (by decide) (by decide)
        obtain ⟨b494, g494⟩ : ∃ z, z = h488.size := ⟨_, rfl⟩
        rw [← g494] at A494 D494 st494
        refine gv st494 ?_
        have ne495 : b461 ≠ b494 := Nat.ne_of_lt (Nat.lt_of_lt_of_le f490.lt (Nat.le_of_eq g494.symm))
        have ne496 : b475 ≠ b494 := Nat.ne_of_lt (Nat.lt_of_lt_of_le w488_0.lt (Nat.le_of_eq g494.symm))
        have g497 : n0 ≤ b494 := Nat.le_trans (own_old O493) (Nat.le_of_eq g494.symm)
        have f499 : Exa Z h494 b461 "com/example/closemark/closemark/tape/TapeRow" := f490.ext E494
        have f500 : Fld Z h494 b461 "com/example/closemark/closemark/tape/TapeRow" "kind" "Lcom/example/closemark/closemark/tape/TapeRow$Kind;" (.ref A_BID) := f491.ext E494
        have f501 : Exa Z h494 b475 "com/example/closemark/closemark/tape/TapeRow" := w488_0.ext E494
        have f502 : Fld Z h494 b475 "com/example/closemark/closemark/tape/TapeRow" "kind" "Lcom/example/closemark/closemark/tape/TapeRow$Kind;" (.ref A_ASK) := w488_1.ext E494
        have O503 := O493.ext E494
        have f504 : Fld Z h494 b494 "com/example/closemark/closemark/prices/StandingQuotes" "bid" "Lcom/example/closemark/closemark/prices/LatestRow;" .null := D494 (Or.inr (hw _ (List.mem_of_getElem? (i := 44) rfl))) (ty := (.object "com/example/closemark/closemark/prices/LatestRow")) (by decide)
        have f505 : Fld Z h494 b494 "com/example/closemark/closemark/prices/StandingQuotes" "ask" "Lcom/example/closemark/closemark/prices/LatestRow;" .null := D494 (Or.inr (hw _ (List.mem_of_getElem? (i := 46) rfl))) (ty := (.object "com/example/closemark/closemark/prices/LatestRow")) (by decide)
        show G (T494.setTop (mkF me_ 73 #[.val (.int p0), .val (.long p1), .second, .val (.int (1 : Int32)), .val (.int (0 : Int32)), .val (.int (0 : Int32)), .val (.ref b461), .val (.ref b475), .unset, .unset, .unset] [(.ref b494)]))
        refine gv (fun tQ kQ => XS.dup X494.here hx rfl (hb hby at_73) rfl rfl kQ) ?_
        show G (T494.setTop (mkF me_ 74 #[.val (.int p0), .val (.long p1), .second, .val (.int (1 : Int32)), .val (.int (0 : Int32)), .val (.int (0 : Int32)), .val (.ref b461), .val (.ref b475), .unset, .unset, .unset] [(.ref b494), (.ref b494)]))
        obtain ⟨_, _, ⟨T506, L506, k506, n506⟩, -, X506, ⟨Lc506, hQ506, l506, y506, z506⟩, st506⟩ := X494.specialBack hx (y := (⟨"com/example/closemark/closemark/prices/StandingQuotes", "<init>", "()V"⟩ : MethodName)) rfl hown (mvT hZ (hw _ (List.mem_of_getElem? (i := 32) rfl))) (mvT hZ (hw _ (List.mem_of_getElem? (i := 33) rfl))) (mvT hZ (hw _ (List.mem_of_getElem? (i := 34) rfl))) (by decide) (backOf (W := 1) (rm_sqi l Z a0 hw [] b494 h494 n0 O503 A494 f504 f505 g497) hZ (hw _ (List.mem_of_getElem? (i := 34) rfl)) (hw _ (List.mem_of_getElem? (i := 31) rfl)) (by decide) (by decide)) (g := (mkF me_ 74 #[.val (.int p0), .val (.long p1), .second, .val (.int (1 : Int32)), .val (.int (0 : Int32)), .val (.int (0 : Int32)), .val (.ref b461), .val (.ref b475), .unset, .unset, .unset] [(.ref b494), (.ref b494)])) rfl (by rw [hml]; rfl) (Steps.refl _) (a := b494) (argsL := []) (rest := [(.ref b494)]) (lenOf pd_0 rfl) rfl (by show 2 * 0 + _ ≤ _; exact Nat.le_of_eq rfl) (hb hby at_74) (fun _ _ => ⟨rfl, e494, (by decide : 3 + 2 ≤ _), (by decide : 12 + 2 ≤ _)⟩)
        dsimp only [Pt.U, Pt.locs, Pt.cells, Pt.slots] at X506 l506 y506 z506 st506 hQ506
        subst l506 y506 z506
        obtain ⟨x_506, y_506, rfl, Nq506, Kq506, w506_0, w506_1, w506_2, w506_3, w506_4, w506_5, w506_6, w506_7, w506_8, w506_9⟩ := hQ506
        have N507 := Fr.app N489 Nq506
        obtain ⟨h506, e506⟩ : ∃ z, T506.heap = z := ⟨_, rfl⟩
        rw [e506] at Kq506 w506_3 w506_4 w506_5 w506_6 w506_7 w506_8 w506_9
        have ne508 : b461 ≠ x_506 := Nat.ne_of_lt (Nat.lt_of_lt_of_le f499.lt w506_0)
        have ne509 : b475 ≠ x_506 := Nat.ne_of_lt (Nat.lt_of_lt_of_le f501.lt w506_0)
        have ne510 : b494 ≠ x_506 := Nat.ne_of_lt (Nat.lt_of_lt_of_le A494.lt w506_0)
        have g511 : n0 ≤ x_506 := Nat.le_trans (own_old O503) w506_0
        have ne513 : b461 ≠ y_506 := Nat.ne_of_lt (Nat.lt_of_lt_of_le f499.lt w506_1)
        have ne514 : b475 ≠ y_506 := Nat.ne_of_lt (Nat.lt_of_lt_of_le f501.lt w506_1)
        have ne515 : b494 ≠ y_506 := Nat.ne_of_lt (Nat.lt_of_lt_of_le A494.lt w506_1)
        have g516 : n0 ≤ y_506 := Nat.le_trans (own_old O503) w506_1
        have f518 : Exa Z h506 b461 "com/example/closemark/closemark/tape/TapeRow" := f499.keep Kq506
        have f519 : Fld Z h506 b461 "com/example/closemark/closemark/tape/TapeRow" "kind" "Lcom/example/closemark/closemark/tape/TapeRow$Kind;" (.ref A_BID) := f500.keep Kq506 (ninS ne495 nin0)
        have f520 : Exa Z h506 b475 "com/example/closemark/closemark/tape/TapeRow" := f501.keep Kq506
        have f521 : Fld Z h506 b475 "com/example/closemark/closemark/tape/TapeRow" "kind" "Lcom/example/closemark/closemark/tape/TapeRow$Kind;" (.ref A_ASK) := f502.keep Kq506 (ninS ne496 nin0)
        have f522 : Exa Z h506 b494 "com/example/closemark/closemark/prices/StandingQuotes" := A494.keep Kq506
        have O523 := O503.keep Kq506 (allS g497 all0)
        refine gv (fun tQ kQ => st506.trans kQ) ?_
        show G (T506.setTop (mkF me_ 77 #[.val (.int p0), .val (.long p1), .second, .val (.int (1 : Int32)), .val (.int (0 : Int32)), .val (.int (0 : Int32)), .val (.ref b461), .val (.ref b475), .unset, .unset, .unset] [(.ref b494)]))
        refine gv (fun tQ kQ => XS.astore X506.here hx rfl (hb hby at_77) rfl rfl (l' := #[.val (.int p0), .val (.long p1), .second, .val (.int (1 : Int32)), .val (.int (0 : Int32)), .val (.int (0 : Int32)), .val (.ref b461), .val (.ref b475), .val (.ref b494), .unset, .unset]) rfl kQ) ?_
        show G (T506.setTop (mkF me_ 79 #[.val (.int p0), .val (.long p1), .second, .val (.int (1 : Int32)), .val (.int (0 : Int32)), .val (.int (0 : Int32)), .val (.ref b461), .val (.ref b475), .val (.ref b494), .unset, .unset] []))
        refine gv (fun tQ kQ => XS.aload X506.here hx rfl (hb hby at_79) rfl rfl kQ) ?_
        show G (T506.setTop (mkF me_ 81 #[.val (.int p0), .val (.long p1), .second, .val (.int (1 : Int32)), .val (.int (0 : Int32)), .val (.int (0 : Int32)), .val (.ref b461), .val (.ref b475), .val (.ref b494), .unset, .unset] [(.ref b494)]))
        obtain ⟨cq524, kq524, q524a, q524b, q524c⟩ := isOf hZ e506 w506_3
        obtain ⟨_, _, ⟨T524, L524, k524, n524⟩, -, X524, ⟨Lc524, hQ524, l524, y524, z524⟩, st524⟩ := X506.virtualBack hx (y := (⟨"com/example/closemark/closemark/prices/StandingQuotes", "hasBidAndAsk", "()Z"⟩ : MethodName)) (z := (⟨"com/example/closemark/closemark/prices/StandingQuotes", "hasBidAndAsk", "()Z"⟩ : MethodName)) hown (mvT hZ (hw _ (List.mem_of_getElem? (i := 47) rfl))) (mvT hZ (hw _ (List.mem_of_getElem? (i := 48) rfl))) (notFace_of_selects (args := #[]) (mvT hZ (hw _ (List.mem_of_getElem? (i := 50) rfl)))) (mvT hZ (hw _ (List.mem_of_getElem? (i := 50) rfl))) (mvT hZ (hw _ (List.mem_of_getElem? (i := 49) rfl))) (by decide) (backOf (W := 0) (rm_hb0 l Z a0 hw [] b494 x_506 h506 n0 O523 w506_4 w506_6 w506_8) hZ (hw _ (List.mem_of_getElem? (i := 51) rfl)) (hw _ (List.mem_of_getElem? (i := 31) rfl)) (by decide) (by decide)) q524a q524c (g := (mkF me_ 81 #[.val (.int p0), .val (.long p1), .second, .val (.int (1 : Int32)), .val (.int (0 : Int32)), .val (.int (0 : Int32)), .val (.ref b461), .val (.ref b475), .val (.ref b494), .unset, .unset] [(.ref b494)])) rfl (by rw [hml]; rfl) (Steps.refl _) (argsL := []) (rest := []) (lenOf pd_5 rfl) rfl (by show 2 * 0 + _ ≤ _; exact Nat.le_of_eq rfl) (hb hby at_81) (fun _ _ => ⟨rfl, e506, (by decide : 5 + 0 ≤ _), (by decide : 14 + 0 ≤ _)⟩)
        dsimp only [Pt.U, Pt.locs, Pt.cells, Pt.slots] at X524 l524 y524 z524 st524 hQ524
        subst l524 y524 z524
        obtain ⟨rfl, Nq524, eq524⟩ := hQ524
        have N525 := Fr.app N507 Nq524
        refine gv (fun tQ kQ => st524.trans kQ) ?_
        show G (T524.setTop (mkF me_ 84 #[.val (.int p0), .val (.long p1), .second, .val (.int (1 : Int32)), .val (.int (0 : Int32)), .val (.int (0 : Int32)), .val (.ref b461), .val (.ref b475), .val (.ref b494), .unset, .unset] [(.int (0 : Int32))]))
        refine gv (fun tQ kQ => XS.ifNo X524.here hx rfl (hb hby at_84) rfl ((if0 _ _).trans (teq (by decide : (0 : Int32) = (0 : Int32))).2) kQ) ?_
        show G (T524.setTop (mkF me_ 87 #[.val (.int p0), .val (.long p1), .second, .val (.int (1 : Int32)), .val (.int (0 : Int32)), .val (.int (0 : Int32)), .val (.ref b461), .val (.ref b475), .val (.ref b494), .unset, .unset] []))
        refine gv (fun tQ kQ => XS.iconst X524.here hx rfl (hb hby at_87) kQ) ?_
        show G (T524.setTop (mkF me_ 88 #[.val (.int p0), .val (.long p1), .second, .val (.int (1 : Int32)), .val (.int (0 : Int32)), .val (.int (0 : Int32)), .val (.ref b461), .val (.ref b475), .val (.ref b494), .unset, .unset] [(.int (1 : Int32))]))
        refine gv (fun tQ kQ => XS.goto X524.here hx rfl (pc0 := 88) (pc' := 92) rfl (hb hby at_88) (by decide) (by decide) kQ) ?_
        show G (T524.setTop (mkF me_ 92 #[.val (.int p0), .val (.long p1), .second, .val (.int (1 : Int32)), .val (.int (0 : Int32)), .val (.int (0 : Int32)), .val (.ref b461), .val (.ref b475), .val (.ref b494), .unset, .unset] [(.int (1 : Int32))]))
        refine gv (fun tQ kQ => XS.istore X524.here hx rfl (hb hby at_92) rfl (l' := #[.val (.int p0), .val (.long p1), .second, .val (.int (1 : Int32)), .val (.int (0 : Int32)), .val (.int (0 : Int32)), .val (.ref b461), .val (.ref b475), .val (.ref b494), .val (.int (1 : Int32)), .unset]) rfl kQ) ?_
        show G (T524.setTop (mkF me_ 94 #[.val (.int p0), .val (.long p1), .second, .val (.int (1 : Int32)), .val (.int (0 : Int32)), .val (.int (0 : Int32)), .val (.ref b461), .val (.ref b475), .val (.ref b494), .val (.int (1 : Int32)), .unset] []))
        refine gv (fun tQ kQ => XS.iload X524.here hx rfl (hb hby at_94) rfl kQ) ?_
        show G (T524.setTop (mkF me_ 96 #[.val (.int p0), .val (.long p1), .second, .val (.int (1 : Int32)), .val (.int (0 : Int32)), .val (.int (0 : Int32)), .val (.ref b461), .val (.ref b475), .val (.ref b494), .val (.int (1 : Int32)), .unset] [(.int (0 : Int32))]))
        refine gv (fun tQ kQ => XS.ifYes X524.here hx rfl (pc0 := 96) (pc' := 145) rfl (hb hby at_96) rfl ((if0 _ _).trans (teq (by decide : (0 : Int32) = (0 : Int32))).1) (by decide) (by decide) kQ) ?_
        show G (T524.setTop (mkF me_ 145 #[.val (.int p0), .val (.long p1), .second, .val (.int (1 : Int32)), .val (.int (0 : Int32)), .val (.int (0 : Int32)), .val (.ref b461), .val (.ref b475), .val (.ref b494), .val (.int (1 : Int32)), .unset] []))
        refine gv (fun tQ kQ => XS.iloadN X524.here hx rfl (hb hby at_145) rfl kQ) ?_
        show G (T524.setTop (mkF me_ 146 #[.val (.int p0), .val (.long p1), .second, .val (.int (1 : Int32)), .val (.int (0 : Int32)), .val (.int (0 : Int32)), .val (.ref b461), .val (.ref b475), .val (.ref b494), .val (.int (1 : Int32)), .unset] [(.int (1 : Int32))]))
        refine gv (fun tQ kQ => XS.ifNo X524.here hx rfl (hb hby at_146) rfl ((if0 _ _).trans (feq (by decide : ¬ ((1 : Int32) = (0 : Int32)))).1) kQ) ?_
        show G (T524.setTop (mkF me_ 149 #[.val (.int p0), .val (.long p1), .second, .val (.int (1 : Int32)), .val (.int (0 : Int32)), .val (.int (0 : Int32)), .val (.ref b461), .val (.ref b475), .val (.ref b494), .val (.int (1 : Int32)), .unset] []))
        refine gv (fun tQ kQ => XS.aload X524.here hx rfl (hb hby at_149) rfl rfl kQ) ?_
        show G (T524.setTop (mkF me_ 151 #[.val (.int p0), .val (.long p1), .second, .val (.int (1 : Int32)), .val (.int (0 : Int32)), .val (.int (0 : Int32)), .val (.ref b461), .val (.ref b475), .val (.ref b494), .val (.int (1 : Int32)), .unset] [(.ref b494)]))
        refine gv (fun tQ kQ => XS.aload X524.here hx rfl (hb hby at_151) rfl rfl kQ) ?_
        show G (T524.setTop (mkF me_ 153 #[.val (.int p0), .val (.long p1), .second, .val (.int (1 : Int32)), .val (.int (0 : Int32)), .val (.int (0 : Int32)), .val (.ref b461), .val (.ref b475), .val (.ref b494), .val (.int (1 : Int32)), .unset] [(.ref b461), (.ref b494)]))
        obtain ⟨cq526, kq526, q526a, q526b, q526c⟩ := isOf hZ eq524 w506_3
        obtain ⟨_, _, ⟨T526, L526, k526, n526⟩, -, X526, ⟨Lc526, hQ526, l526, y526, z526⟩, st526⟩ := X524.virtualBack hx (y := (⟨"com/example/closemark/closemark/prices/StandingQuotes", "add", "(Lcom/example/closemark/closemark/tape/TapeRow;)V"⟩ : MethodName)) (z := (⟨"com/example/closemark/closemark/prices/StandingQuotes", "add", "(Lcom/example/closemark/closemark/tape/TapeRow;)V"⟩ : MethodName)) hown (mvT hZ (hw _ (List.mem_of_getElem? (i := 59) rfl))) (mvT hZ (hw _ (List.mem_of_getElem? (i := 60) rfl))) (notFace_of_selects (args := #[]) (mvT hZ (hw _ (List.mem_of_getElem? (i := 62) rfl)))) (mvT hZ (hw _ (List.mem_of_getElem? (i := 62) rfl))) (mvT hZ (hw _ (List.mem_of_getElem? (i := 61) rfl))) (by decide) (backOf (W := 0) (rm_addB l Z a0 hw [] b494 b461 x_506 A_BID h506 n0 O523 f518 u0 f519 w506_4 w506_6 w506_8 g511) hZ (hw _ (List.mem_of_getElem? (i := 63) rfl)) (hw _ (List.mem_of_getElem? (i := 31) rfl)) (by decide) (by decide)) q526a q526c (g := (mkF me_ 153 #[.val (.int p0), .val (.long p1), .second, .val (.int (1 : Int32)), .val (.int (0 : Int32)), .val (.int (0 : Int32)), .val (.ref b461), .val (.ref b475), .val (.ref b494), .val (.int (1 : Int32)), .unset] [(.ref b461), (.ref b494)])) rfl (by rw [hml]; rfl) (Steps.refl _) (argsL := [(.ref b461)]) (rest := []) (lenOf pd_3 rfl) rfl (by show 2 * 0 + _ ≤ _; exact Nat.le_of_eq rfl) (hb hby at_153) (fun _ _ => ⟨rfl, eq524, (by decide : 5 + 0 ≤ _), (by decide : 14 + 0 ≤ _)⟩)
        dsimp only [Pt.U, Pt.locs, Pt.cells, Pt.slots] at X526 l526 y526 z526 st526 hQ526
        subst l526 y526 z526
        obtain ⟨rfl, Nq526, Kq526, w526_0, w526_1⟩ := hQ526
        have N527 := Fr.app N525 Nq526
        obtain ⟨h526, e526⟩ : ∃ z, T526.heap = z := ⟨_, rfl⟩
        rw [e526] at Kq526 w526_0 w526_1
        have f528 : Exa Z h526 b461 "com/example/closemark/closemark/tape/TapeRow" := f518.keep Kq526
        have f529 : Fld Z h526 b461 "com/example/closemark/closemark/tape/TapeRow" "kind" "Lcom/example/closemark/closemark/tape/TapeRow$Kind;" (.ref A_BID) := f519.keep Kq526 (ninS ne508 nin0)
        have f530 : Exa Z h526 b475 "com/example/closemark/closemark/tape/TapeRow" := f520.keep Kq526
        have f531 : Fld Z h526 b475 "com/example/closemark/closemark/tape/TapeRow" "kind" "Lcom/example/closemark/closemark/tape/TapeRow$Kind;" (.ref A_ASK) := f521.keep Kq526 (ninS ne509 nin0)
        have f532 : Exa Z h526 b494 "com/example/closemark/closemark/prices/StandingQuotes" := w506_3.keep Kq526
        have f533 : Fld Z h526 b494 "com/example/closemark/closemark/prices/StandingQuotes" "bid" "Lcom/example/closemark/closemark/prices/LatestRow;" (.ref x_506) := w506_4.keep Kq526 (ninS ne510 nin0)
        have f534 : Fld Z h526 b494 "com/example/closemark/closemark/prices/StandingQuotes" "ask" "Lcom/example/closemark/closemark/prices/LatestRow;" (.ref y_506) := w506_5.keep Kq526 (ninS ne510 nin0)
        have f535 : Exa Z h526 x_506 "com/example/closemark/closemark/prices/LatestRow" := w506_6.keep Kq526
        have f536 : Exa Z h526 y_506 "com/example/closemark/closemark/prices/LatestRow" := w506_7.keep Kq526
        have f537 : Fld Z h526 y_506 "com/example/closemark/closemark/prices/LatestRow" "row" "Lcom/example/closemark/closemark/tape/TapeRow;" .null := w506_9.keep Kq526 (ninS (Ne.symm w506_2) nin0)
        have O538 := O523.keep Kq526 (allS g511 all0)
        refine gv (fun tQ kQ => st526.trans kQ) ?_
        show G (T526.setTop (mkF me_ 156 #[.val (.int p0), .val (.long p1), .second, .val (.int (1 : Int32)), .val (.int (0 : Int32)), .val (.int (0 : Int32)), .val (.ref b461), .val (.ref b475), .val (.ref b494), .val (.int (1 : Int32)), .unset] []))
        refine gv (fun tQ kQ => XS.iload X526.here hx rfl (hb hby at_156) rfl kQ) ?_
        show G (T526.setTop (mkF me_ 158 #[.val (.int p0), .val (.long p1), .second, .val (.int (1 : Int32)), .val (.int (0 : Int32)), .val (.int (0 : Int32)), .val (.ref b461), .val (.ref b475), .val (.ref b494), .val (.int (1 : Int32)), .unset] [(.int (1 : Int32))]))
        refine gv (fun tQ kQ => XS.ifNo X526.here hx rfl (hb hby at_158) rfl ((if0 _ _).trans (feq (by decide : ¬ ((1 : Int32) = (0 : Int32)))).1) kQ) ?_
        show G (T526.setTop (mkF me_ 161 #[.val (.int p0), .val (.long p1), .second, .val (.int (1 : Int32)), .val (.int (0 : Int32)), .val (.int (0 : Int32)), .val (.ref b461), .val (.ref b475), .val (.ref b494), .val (.int (1 : Int32)), .unset] []))
        refine gv (fun tQ kQ => XS.aload X526.here hx rfl (hb hby at_161) rfl rfl kQ) ?_
        show G (T526.setTop (mkF me_ 163 #[.val (.int p0), .val (.long p1), .second, .val (.int (1 : Int32)), .val (.int (0 : Int32)), .val (.int (0 : Int32)), .val (.ref b461), .val (.ref b475), .val (.ref b494), .val (.int (1 : Int32)), .unset] [(.ref b494)]))
        obtain ⟨cq539, kq539, q539a, q539b, q539c⟩ := isOf hZ e526 f532
        obtain ⟨_, _, ⟨T539, L539, k539, n539⟩, -, X539, ⟨Lc539, hQ539, l539, y539, z539⟩, st539⟩ := X526.virtualBack hx (y := (⟨"com/example/closemark/closemark/prices/StandingQuotes", "hasBidAndAsk", "()Z"⟩ : MethodName)) (z := (⟨"com/example/closemark/closemark/prices/StandingQuotes", "hasBidAndAsk", "()Z"⟩ : MethodName)) hown (mvT hZ (hw _ (List.mem_of_getElem? (i := 47) rfl))) (mvT hZ (hw _ (List.mem_of_getElem? (i := 48) rfl))) (notFace_of_selects (args := #[]) (mvT hZ (hw _ (List.mem_of_getElem? (i := 50) rfl)))) (mvT hZ (hw _ (List.mem_of_getElem? (i := 50) rfl))) (mvT hZ (hw _ (List.mem_of_getElem? (i := 49) rfl))) (by decide) (backOf (W := 0) (rm_hb1 l Z a0 hw [] b494 x_506 y_506 b461 h526 n0 O538 f533 w526_0 w526_1 f534 f536 f537) hZ (hw _ (List.mem_of_getElem? (i := 51) rfl)) (hw _ (List.mem_of_getElem? (i := 31) rfl)) (by decide) (by decide)) q539a q539c (g := (mkF me_ 163 #[.val (.int p0), .val (.long p1), .second, .val (.int (1 : Int32)), .val (.int (0 : Int32)), .val (.int (0 : Int32)), .val (.ref b461), .val (.ref b475), .val (.ref b494), .val (.int (1 : Int32)), .unset] [(.ref b494)])) rfl (by rw [hml]; rfl) (Steps.refl _) (argsL := []) (rest := []) (lenOf pd_5 rfl) rfl (by show 2 * 0 + _ ≤ _; exact Nat.le_of_eq rfl) (hb hby at_163) (fun _ _ => ⟨rfl, e526, (by decide : 5 + 0 ≤ _), (by decide : 14 + 0 ≤ _)⟩)
        dsimp only [Pt.U, Pt.locs, Pt.cells, Pt.slots] at X539 l539 y539 z539 st539 hQ539
        subst l539 y539 z539
        obtain ⟨rfl, Nq539, eq539⟩ := hQ539
        have N540 := Fr.app N527 Nq539
        refine gv (fun tQ kQ => st539.trans kQ) ?_
        show G (T539.setTop (mkF me_ 166 #[.val (.int p0), .val (.long p1), .second, .val (.int (1 : Int32)), .val (.int (0 : Int32)), .val (.int (0 : Int32)), .val (.ref b461), .val (.ref b475), .val (.ref b494), .val (.int (1 : Int32)), .unset] [(.int (0 : Int32))]))
        refine gv (fun tQ kQ => XS.ifNo X539.here hx rfl (hb hby at_166) rfl ((if0 _ _).trans (teq (by decide : (0 : Int32) = (0 : Int32))).2) kQ) ?_
        show G (T539.setTop (mkF me_ 169 #[.val (.int p0), .val (.long p1), .second, .val (.int (1 : Int32)), .val (.int (0 : Int32)), .val (.int (0 : Int32)), .val (.ref b461), .val (.ref b475), .val (.ref b494), .val (.int (1 : Int32)), .unset] []))
        refine gv (fun tQ kQ => XS.iconst X539.here hx rfl (hb hby at_169) kQ) ?_
        show G (T539.setTop (mkF me_ 170 #[.val (.int p0), .val (.long p1), .second, .val (.int (1 : Int32)), .val (.int (0 : Int32)), .val (.int (0 : Int32)), .val (.ref b461), .val (.ref b475), .val (.ref b494), .val (.int (1 : Int32)), .unset] [(.int (1 : Int32))]))
        refine gv (fun tQ kQ => XS.goto X539.here hx rfl (pc0 := 170) (pc' := 174) rfl (hb hby at_170) (by decide) (by decide) kQ) ?_
        show G (T539.setTop (mkF me_ 174 #[.val (.int p0), .val (.long p1), .second, .val (.int (1 : Int32)), .val (.int (0 : Int32)), .val (.int (0 : Int32)), .val (.ref b461), .val (.ref b475), .val (.ref b494), .val (.int (1 : Int32)), .unset] [(.int (1 : Int32))]))
        refine gv (fun tQ kQ => XS.istore X539.here hx rfl (hb hby at_174) rfl (l' := #[.val (.int p0), .val (.long p1), .second, .val (.int (1 : Int32)), .val (.int (0 : Int32)), .val (.int (0 : Int32)), .val (.ref b461), .val (.ref b475), .val (.ref b494), .val (.int (1 : Int32)), .unset]) rfl kQ) ?_
        show G (T539.setTop (mkF me_ 176 #[.val (.int p0), .val (.long p1), .second, .val (.int (1 : Int32)), .val (.int (0 : Int32)), .val (.int (0 : Int32)), .val (.ref b461), .val (.ref b475), .val (.ref b494), .val (.int (1 : Int32)), .unset] []))
        refine gv (fun tQ kQ => XS.iload X539.here hx rfl (hb hby at_176) rfl kQ) ?_
        show G (T539.setTop (mkF me_ 178 #[.val (.int p0), .val (.long p1), .second, .val (.int (1 : Int32)), .val (.int (0 : Int32)), .val (.int (0 : Int32)), .val (.ref b461), .val (.ref b475), .val (.ref b494), .val (.int (1 : Int32)), .unset] [(.int (0 : Int32))]))
        refine gv (fun tQ kQ => XS.ifYes X539.here hx rfl (pc0 := 178) (pc' := 188) rfl (hb hby at_178) rfl ((if0 _ _).trans (teq (by decide : (0 : Int32) = (0 : Int32))).1) (by decide) (by decide) kQ) ?_
        show G (T539.setTop (mkF me_ 188 #[.val (.int p0), .val (.long p1), .second, .val (.int (1 : Int32)), .val (.int (0 : Int32)), .val (.int (0 : Int32)), .val (.ref b461), .val (.ref b475), .val (.ref b494), .val (.int (1 : Int32)), .unset] []))
        refine gv (fun tQ kQ => XS.iloadN X539.here hx rfl (hb hby at_188) rfl kQ) ?_
        show G (T539.setTop (mkF me_ 189 #[.val (.int p0), .val (.long p1), .second, .val (.int (1 : Int32)), .val (.int (0 : Int32)), .val (.int (0 : Int32)), .val (.ref b461), .val (.ref b475), .val (.ref b494), .val (.int (1 : Int32)), .unset] [(.int (1 : Int32))]))
        refine gv (fun tQ kQ => XS.ifNo X539.here hx rfl (hb hby at_189) rfl ((if0 _ _).trans (feq (by decide : ¬ ((1 : Int32) = (0 : Int32)))).1) kQ) ?_
        show G (T539.setTop (mkF me_ 192 #[.val (.int p0), .val (.long p1), .second, .val (.int (1 : Int32)), .val (.int (0 : Int32)), .val (.int (0 : Int32)), .val (.ref b461), .val (.ref b475), .val (.ref b494), .val (.int (1 : Int32)), .unset] []))
        refine gv (fun tQ kQ => XS.iload X539.here hx rfl (hb hby at_192) rfl kQ) ?_
        show G (T539.setTop (mkF me_ 194 #[.val (.int p0), .val (.long p1), .second, .val (.int (1 : Int32)), .val (.int (0 : Int32)), .val (.int (0 : Int32)), .val (.ref b461), .val (.ref b475), .val (.ref b494), .val (.int (1 : Int32)), .unset] [(.int (0 : Int32))]))
        refine gv (fun tQ kQ => XS.ifYes X539.here hx rfl (pc0 := 194) (pc' := 201) rfl (hb hby at_194) rfl ((if0 _ _).trans (teq (by decide : (0 : Int32) = (0 : Int32))).1) (by decide) (by decide) kQ) ?_
        show G (T539.setTop (mkF me_ 201 #[.val (.int p0), .val (.long p1), .second, .val (.int (1 : Int32)), .val (.int (0 : Int32)), .val (.int (0 : Int32)), .val (.ref b461), .val (.ref b475), .val (.ref b494), .val (.int (1 : Int32)), .unset] []))
        refine gv (fun tQ kQ => XS.iconst X539.here hx rfl (hb hby at_201) kQ) ?_
        show G (T539.setTop (mkF me_ 202 #[.val (.int p0), .val (.long p1), .second, .val (.int (1 : Int32)), .val (.int (0 : Int32)), .val (.int (0 : Int32)), .val (.ref b461), .val (.ref b475), .val (.ref b494), .val (.int (1 : Int32)), .unset] [(.int (0 : Int32))]))
        refine gv (fun tQ kQ => XS.istore X539.here hx rfl (hb hby at_202) rfl (l' := #[.val (.int p0), .val (.long p1), .second, .val (.int (1 : Int32)), .val (.int (0 : Int32)), .val (.int (0 : Int32)), .val (.ref b461), .val (.ref b475), .val (.ref b494), .val (.int (1 : Int32)), .val (.int (0 : Int32))]) rfl kQ) ?_
        show G (T539.setTop (mkF me_ 204 #[.val (.int p0), .val (.long p1), .second, .val (.int (1 : Int32)), .val (.int (0 : Int32)), .val (.int (0 : Int32)), .val (.ref b461), .val (.ref b475), .val (.ref b494), .val (.int (1 : Int32)), .val (.int (0 : Int32))] []))
        refine gv (fun tQ kQ => XS.iload X539.here hx rfl (hb hby at_204) rfl kQ) ?_
        show G (T539.setTop (mkF me_ 206 #[.val (.int p0), .val (.long p1), .second, .val (.int (1 : Int32)), .val (.int (0 : Int32)), .val (.int (0 : Int32)), .val (.ref b461), .val (.ref b475), .val (.ref b494), .val (.int (1 : Int32)), .val (.int (0 : Int32))] [(.int (1 : Int32))]))
        refine gv (fun tQ kQ => XS.ifNo X539.here hx rfl (hb hby at_206) rfl ((if0 _ _).trans (feq (by decide : ¬ ((1 : Int32) = (0 : Int32)))).1) kQ) ?_
        show G (T539.setTop (mkF me_ 209 #[.val (.int p0), .val (.long p1), .second, .val (.int (1 : Int32)), .val (.int (0 : Int32)), .val (.int (0 : Int32)), .val (.ref b461), .val (.ref b475), .val (.ref b494), .val (.int (1 : Int32)), .val (.int (0 : Int32))] []))
        refine gv (fun tQ kQ => XS.aload X539.here hx rfl (hb hby at_209) rfl rfl kQ) ?_
        show G (T539.setTop (mkF me_ 211 #[.val (.int p0), .val (.long p1), .second, .val (.int (1 : Int32)), .val (.int (0 : Int32)), .val (.int (0 : Int32)), .val (.ref b461), .val (.ref b475), .val (.ref b494), .val (.int (1 : Int32)), .val (.int (0 : Int32))] [(.ref b494)]))
        obtain ⟨cq541, kq541, q541a, q541b, q541c⟩ := isOf hZ eq539 f532
        obtain ⟨_, _, ⟨T541, L541, k541, n541⟩, -, X541, ⟨Lc541, hQ541, l541, y541, z541⟩, st541⟩ := X539.virtualBack hx (y := (⟨"com/example/closemark/closemark/prices/StandingQuotes", "hasBidAndAsk", "()Z"⟩ : MethodName)) (z := (⟨"com/example/closemark/closemark/prices/StandingQuotes", "hasBidAndAsk", "()Z"⟩ : MethodName)) hown (mvT hZ (hw _ (List.mem_of_getElem? (i := 47) rfl))) (mvT hZ (hw _ (List.mem_of_getElem? (i := 48) rfl))) (notFace_of_selects (args := #[]) (mvT hZ (hw _ (List.mem_of_getElem? (i := 50) rfl)))) (mvT hZ (hw _ (List.mem_of_getElem? (i := 50) rfl))) (mvT hZ (hw _ (List.mem_of_getElem? (i := 49) rfl))) (by decide) (backOf (W := 0) (rm_hb1 l Z a0 hw [] b494 x_506 y_506 b461 h526 n0 O538 f533 w526_0 w526_1 f534 f536 f537) hZ (hw _ (List.mem_of_getElem? (i := 51) rfl)) (hw _ (List.mem_of_getElem? (i := 31) rfl)) (by decide) (by decide)) q541a q541c (g := (mkF me_ 211 #[.val (.int p0), .val (.long p1), .second, .val (.int (1 : Int32)), .val (.int (0 : Int32)), .val (.int (0 : Int32)), .val (.ref b461), .val (.ref b475), .val (.ref b494), .val (.int (1 : Int32)), .val (.int (0 : Int32))] [(.ref b494)])) rfl (by rw [hml]; rfl) (Steps.refl _) (argsL := []) (rest := []) (lenOf pd_5 rfl) rfl (by show 2 * 0 + _ ≤ _; exact Nat.le_of_eq rfl) (hb hby at_211) (fun _ _ => ⟨rfl, eq539, (by decide : 5 + 0 ≤ _), (by decide : 14 + 0 ≤ _)⟩)
        dsimp only [Pt.U, Pt.locs, Pt.cells, Pt.slots] at X541 l541 y541 z541 st541 hQ541
        subst l541 y541 z541
        obtain ⟨rfl, Nq541, eq541⟩ := hQ541
        have N542 := Fr.app N540 Nq541
        refine gv (fun tQ kQ => st541.trans kQ) ?_
        show G (T541.setTop (mkF me_ 214 #[.val (.int p0), .val (.long p1), .second, .val (.int (1 : Int32)), .val (.int (0 : Int32)), .val (.int (0 : Int32)), .val (.ref b461), .val (.ref b475), .val (.ref b494), .val (.int (1 : Int32)), .val (.int (0 : Int32))] [(.int (0 : Int32))]))
        refine gv (fun tQ kQ => XS.iload X541.here hx rfl (hb hby at_214) rfl kQ) ?_
        show G (T541.setTop (mkF me_ 216 #[.val (.int p0), .val (.long p1), .second, .val (.int (1 : Int32)), .val (.int (0 : Int32)), .val (.int (0 : Int32)), .val (.ref b461), .val (.ref b475), .val (.ref b494), .val (.int (1 : Int32)), .val (.int (0 : Int32))] [(.int (0 : Int32)), (.int (0 : Int32))]))
        refine gv (fun tQ kQ => XS.icmpNo X541.here hx rfl (hb hby at_216) rfl (teq (by decide : (0 : Int32) = (0 : Int32))).2 kQ) ?_
        show G (T541.setTop (mkF me_ 219 #[.val (.int p0), .val (.long p1), .second, .val (.int (1 : Int32)), .val (.int (0 : Int32)), .val (.int (0 : Int32)), .val (.ref b461), .val (.ref b475), .val (.ref b494), .val (.int (1 : Int32)), .val (.int (0 : Int32))] []))
        refine gv (fun tQ kQ => XS.iconst X541.here hx rfl (hb hby at_219) kQ) ?_
        show G (T541.setTop (mkF me_ 220 #[.val (.int p0), .val (.long p1), .second, .val (.int (1 : Int32)), .val (.int (0 : Int32)), .val (.int (0 : Int32)), .val (.ref b461), .val (.ref b475), .val (.ref b494), .val (.int (1 : Int32)), .val (.int (0 : Int32))] [(.int (1 : Int32))]))
        refine gv (fun tQ kQ => XS.goto X541.here hx rfl (pc0 := 220) (pc' := 224) rfl (hb hby at_220) (by decide) (by decide) kQ) ?_
        show G (T541.setTop (mkF me_ 224 #[.val (.int p0), .val (.long p1), .second, .val (.int (1 : Int32)), .val (.int (0 : Int32)), .val (.int (0 : Int32)), .val (.ref b461), .val (.ref b475), .val (.ref b494), .val (.int (1 : Int32)), .val (.int (0 : Int32))] [(.int (1 : Int32))]))
        refine gf _ (own_ret X541 Bd.notSynchronized (v := some (.int (1 : Int32))) (fun h => by rw [Bd.returns] at h; cases h) ?_ (by decide) (by decide) (fun fs hr => retN X541 hx (t := .boolean) Bd.returns (by simp) (hb hby at_224) hr))
        show Q0 Z p0 p1 A_BID A_ASK h0 n0 _ T541.heap _
        rw [eq541]
        exact ⟨rfl, N542⟩
      · refine gv (fun tQ kQ => XS.ifNo X0.here hx rfl (hb hby at_28) rfl ((if0 _ _).trans (feq hc460).1) kQ) ?_
        show G (s₁.setTop (mkF me_ 31 #[.val (.int p0), .val (.long p1), .second, .val (.int (1 : Int32)), .val (.int (0 : Int32)), .unset, .unset, .unset, .unset, .unset, .unset] []))
        refine gv (fun tQ kQ => XS.iconst X0.here hx rfl (hb hby at_31) kQ) ?_
        show G (s₁.setTop (mkF me_ 32 #[.val (.int p0), .val (.long p1), .second, .val (.int (1 : Int32)), .val (.int (0 : Int32)), .unset, .unset, .unset, .unset, .unset, .unset] [(.int (1 : Int32))]))
        refine gv (fun tQ kQ => XS.goto X0.here hx rfl (pc0 := 32) (pc' := 36) rfl (hb hby at_32) (by decide) (by decide) kQ) ?_
        show G (s₁.setTop (mkF me_ 36 #[.val (.int p0), .val (.long p1), .second, .val (.int (1 : Int32)), .val (.int (0 : Int32)), .unset, .unset, .unset, .unset, .unset, .unset] [(.int (1 : Int32))]))
        refine gv (fun tQ kQ => XS.istore X0.here hx rfl (hb hby at_36) rfl (l' := #[.val (.int p0), .val (.long p1), .second, .val (.int (1 : Int32)), .val (.int (0 : Int32)), .val (.int (1 : Int32)), .unset, .unset, .unset, .unset, .unset]) rfl kQ) ?_
        show G (s₁.setTop (mkF me_ 38 #[.val (.int p0), .val (.long p1), .second, .val (.int (1 : Int32)), .val (.int (0 : Int32)), .val (.int (1 : Int32)), .unset, .unset, .unset, .unset, .unset] []))
        obtain ⟨T543, h543, X543, e543, E543, A543, D543, -, st543⟩ := newO X0 hx hZ hown (hw _ (List.mem_of_getElem? (i := 0) rfl)) (hw _ (List.mem_of_getElem? (i := 1) rfl)) (hw _ (List.mem_of_getElem? (i := 2) rfl)) e0 (g := (mkF me_ 38 #[.val (.int p0), .val (.long p1), .second, .val (.int (1 : Int32)), .val (.int (0 : Int32)), .val (.int (1 : Int32)), .unset, .unset, .unset, .unset, .unset] [])) rfl (hb hby at_38) (by decide) (by decide)
        obtain ⟨b543, g543⟩ : ∃ z, z = h0.size := ⟨_, rfl⟩
        rw [← g543] at A543 D543 st543
        refine gv st543 ?_
        have g544 : n0 ≤ b543 := Nat.le_trans (own_old O0) (Nat.le_of_eq g543.symm)
        have O546 := O0.ext E543
        have f547 : Fld Z h543 b543 "com/example/closemark/closemark/tape/TapeRow" "time" "Ljava/time/Instant;" .null := D543 (Or.inr (hw _ (List.mem_of_getElem? (i := 18) rfl))) (ty := (.object "java/time/Instant")) (by decide)
        have f548 : Fld Z h543 b543 "com/example/closemark/closemark/tape/TapeRow" "symbol" "Ljava/lang/String;" .null := D543 (Or.inr (hw _ (List.mem_of_getElem? (i := 20) rfl))) (ty := (.object "java/lang/String")) (by decide)
        have f549 : Fld Z h543 b543 "com/example/closemark/closemark/tape/TapeRow" "kind" "Lcom/example/closemark/closemark/tape/TapeRow$Kind;" .null := D543 (Or.inr (hw _ (List.mem_of_getElem? (i := 22) rfl))) (ty := (.object "com/example/closemark/closemark/tape/TapeRow$Kind")) (by decide)
        have f550 : Fld Z h543 b543 "com/example/closemark/closemark/tape/TapeRow" "price" "Ljava/math/BigDecimal;" .null := D543 (Or.inr (hw _ (List.mem_of_getElem? (i := 24) rfl))) (ty := (.object "java/math/BigDecimal")) (by decide)
        have f551 : Fld Z h543 b543 "com/example/closemark/closemark/tape/TapeRow" "qty" "J" (.long (0 : Int64)) := D543 (Or.inr (hw _ (List.mem_of_getElem? (i := 26) rfl))) (ty := .long) (by decide)
        show G (T543.setTop (mkF me_ 41 #[.val (.int p0), .val (.long p1), .second, .val (.int (1 : Int32)), .val (.int (0 : Int32)), .val (.int (1 : Int32)), .unset, .unset, .unset, .unset, .unset] [(.ref b543)]))
        refine gv (fun tQ kQ => XS.dup X543.here hx rfl (hb hby at_41) rfl rfl kQ) ?_
        show G (T543.setTop (mkF me_ 42 #[.val (.int p0), .val (.long p1), .second, .val (.int (1 : Int32)), .val (.int (0 : Int32)), .val (.int (1 : Int32)), .unset, .unset, .unset, .unset, .unset] [(.ref b543), (.ref b543)]))
        refine gv (fun tQ kQ => XS.aconstNull X543.here hx rfl (hb hby at_42) kQ) ?_
        show G (T543.setTop (mkF me_ 43 #[.val (.int p0), .val (.long p1), .second, .val (.int (1 : Int32)), .val (.int (0 : Int32)), .val (.int (1 : Int32)), .unset, .unset, .unset, .unset, .unset] [.null, (.ref b543), (.ref b543)]))
        refine gv (fun tQ kQ => XS.aconstNull X543.here hx rfl (hb hby at_43) kQ) ?_
        show G (T543.setTop (mkF me_ 44 #[.val (.int p0), .val (.long p1), .second, .val (.int (1 : Int32)), .val (.int (0 : Int32)), .val (.int (1 : Int32)), .unset, .unset, .unset, .unset, .unset] [.null, .null, (.ref b543), (.ref b543)]))
        obtain ⟨T552, X552, e552, st552⟩ := getS2 X543 hx hZ hown (host := "") (Or.inl (hw _ (List.mem_of_getElem? (i := 3) rfl))) Via.refl e543 (u0.ext O546.2) (g := (mkF me_ 44 #[.val (.int p0), .val (.long p1), .second, .val (.int (1 : Int32)), .val (.int (0 : Int32)), .val (.int (1 : Int32)), .unset, .unset, .unset, .unset, .unset] [.null, .null, (.ref b543), (.ref b543)])) rfl (hb hby at_44)
        refine gv st552 ?_
        show G (T552.setTop (mkF me_ 47 #[.val (.int p0), .val (.long p1), .second, .val (.int (1 : Int32)), .val (.int (0 : Int32)), .val (.int (1 : Int32)), .unset, .unset, .unset, .unset, .unset] [(.ref A_BID), .null, .null, (.ref b543), (.ref b543)]))
        refine gv (fun tQ kQ => XS.aconstNull X552.here hx rfl (hb hby at_47) kQ) ?_
        show G (T552.setTop (mkF me_ 48 #[.val (.int p0), .val (.long p1), .second, .val (.int (1 : Int32)), .val (.int (0 : Int32)), .val (.int (1 : Int32)), .unset, .unset, .unset, .unset, .unset] [.null, (.ref A_BID), .null, .null, (.ref b543), (.ref b543)]))
        refine gv (fun tQ kQ => XS.lloadN X552.here hx rfl (hb hby at_48) rfl kQ) ?_
        show G (T552.setTop (mkF me_ 49 #[.val (.int p0), .val (.long p1), .second, .val (.int (1 : Int32)), .val (.int (0 : Int32)), .val (.int (1 : Int32)), .unset, .unset, .unset, .unset, .unset] [(.long p1), .null, (.ref A_BID), .null, .null, (.ref b543), (.ref b543)]))
        obtain ⟨_, _, ⟨T553, L553, k553, n553⟩, -, X553, ⟨Lc553, hQ553, l553, y553, z553⟩, st553⟩ := X552.specialBack hx (y := (⟨"com/example/closemark/closemark/tape/TapeRow", "<init>", "(Ljava/time/Instant;Ljava/lang/String;Lcom/example/closemark/closemark/tape/TapeRow$Kind;Ljava/math/BigDecimal;J)V"⟩ : MethodName)) rfl hown (mvT hZ (hw _ (List.mem_of_getElem? (i := 6) rfl))) (mvT hZ (hw _ (List.mem_of_getElem? (i := 7) rfl))) (mvT hZ (hw _ (List.mem_of_getElem? (i := 8) rfl))) (by decide) (backOf (W := 1) (rm_tri l Z a0 hw [] b543 A_BID p1 h543 n0 O546 A543 f547 f548 f549 f550 f551 g544) hZ (hw _ (List.mem_of_getElem? (i := 8) rfl)) (hw _ (List.mem_of_getElem? (i := 2) rfl)) (by decide) (by decide)) (g := (mkF me_ 49 #[.val (.int p0), .val (.long p1), .second, .val (.int (1 : Int32)), .val (.int (0 : Int32)), .val (.int (1 : Int32)), .unset, .unset, .unset, .unset, .unset] [(.long p1), .null, (.ref A_BID), .null, .null, (.ref b543), (.ref b543)])) rfl (by rw [hml]; rfl) (Steps.refl _) (a := b543) (argsL := [.null, .null, (.ref A_BID), .null, (.long p1)]) (rest := [(.ref b543)]) (lenOf pd_4 rfl) rfl (by show 2 * 0 + _ ≤ _; exact Nat.le_of_eq rfl) (hb hby at_49) (fun _ _ => ⟨rfl, e552, (by decide : 1 + 0 ≤ _), (by decide : 5 + 0 ≤ _)⟩)
        dsimp only [Pt.U, Pt.locs, Pt.cells, Pt.slots] at X553 l553 y553 z553 st553 hQ553
        subst l553 y553 z553
        obtain ⟨rfl, Nq553, Kq553, w553_0, w553_1⟩ := hQ553
        have N554 := Fr.app N0 Nq553
        obtain ⟨h553, e553⟩ : ∃ z, T553.heap = z := ⟨_, rfl⟩
        rw [e553] at Kq553 w553_0 w553_1
        have f555 : Exa Z h553 b543 "com/example/closemark/closemark/tape/TapeRow" := A543.keep Kq553
        have O556 := O546.keep Kq553 (allS g544 all0)
        refine gv (fun tQ kQ => st553.trans kQ) ?_
        show G (T553.setTop (mkF me_ 52 #[.val (.int p0), .val (.long p1), .second, .val (.int (1 : Int32)), .val (.int (0 : Int32)), .val (.int (1 : Int32)), .unset, .unset, .unset, .unset, .unset] [(.ref b543)]))
        refine gv (fun tQ kQ => XS.astore X553.here hx rfl (hb hby at_52) rfl rfl (l' := #[.val (.int p0), .val (.long p1), .second, .val (.int (1 : Int32)), .val (.int (0 : Int32)), .val (.int (1 : Int32)), .val (.ref b543), .unset, .unset, .unset, .unset]) rfl kQ) ?_
        show G (T553.setTop (mkF me_ 54 #[.val (.int p0), .val (.long p1), .second, .val (.int (1 : Int32)), .val (.int (0 : Int32)), .val (.int (1 : Int32)), .val (.ref b543), .unset, .unset, .unset, .unset] []))
        obtain ⟨T557, h557, X557, e557, E557, A557, D557, -, st557⟩ := newO X553 hx hZ hown (hw _ (List.mem_of_getElem? (i := 0) rfl)) (hw _ (List.mem_of_getElem? (i := 1) rfl)) (hw _ (List.mem_of_getElem? (i := 2) rfl)) e553 (g := (mkF me_ 54 #[.val (.int p0), .val (.long p1), .second, .val (.int (1 : Int32)), .val (.int (0 : Int32)), .val (.int (1 : Int32)), .val (.ref b543), .unset, .unset, .unset, .unset] [])) rfl (hb hby at_54) (by decide) (by decide)
        obtain ⟨b557, g557⟩ : ∃ z, z = h553.size := ⟨_, rfl⟩
        rw [← g557] at A557 D557 st557
        refine gv st557 ?_
        have ne558 : b543 ≠ b557 := Nat.ne_of_lt (Nat.lt_of_lt_of_le w553_0.lt (Nat.le_of_eq g557.symm))
        have g559 : n0 ≤ b557 := Nat.le_trans (own_old O556) (Nat.le_of_eq g557.symm)
        have f561 : Exa Z h557 b543 "com/example/closemark/closemark/tape/TapeRow" := w553_0.ext E557
        have f562 : Fld Z h557 b543 "com/example/closemark/closemark/tape/TapeRow" "kind" "Lcom/example/closemark/closemark/tape/TapeRow$Kind;" (.ref A_BID) := w553_1.ext E557
        have O563 := O556.ext E557
        have f564 : Fld Z h557 b557 "com/example/closemark/closemark/tape/TapeRow" "time" "Ljava/time/Instant;" .null := D557 (Or.inr (hw _ (List.mem_of_getElem? (i := 18) rfl))) (ty := (.object "java/time/Instant")) (by decide)
        have f565 : Fld Z h557 b557 "com/example/closemark/closemark/tape/TapeRow" "symbol" "Ljava/lang/String;" .null := D557 (Or.inr (hw _ (List.mem_of_getElem? (i := 20) rfl))) (ty := (.object "java/lang/String")) (by decide)
        have f566 : Fld Z h557 b557 "com/example/closemark/closemark/tape/TapeRow" "kind" "Lcom/example/closemark/closemark/tape/TapeRow$Kind;" .null := D557 (Or.inr (hw _ (List.mem_of_getElem? (i := 22) rfl))) (ty := (.object "com/example/closemark/closemark/tape/TapeRow$Kind")) (by decide)
        have f567 : Fld Z h557 b557 "com/example/closemark/closemark/tape/TapeRow" "price" "Ljava/math/BigDecimal;" .null := D557 (Or.inr (hw _ (List.mem_of_getElem? (i := 24) rfl))) (ty := (.object "java/math/BigDecimal")) (by decide)
        have f568 : Fld Z h557 b557 "com/example/closemark/closemark/tape/TapeRow" "qty" "J" (.long (0 : Int64)) := D557 (Or.inr (hw _ (List.mem_of_getElem? (i := 26) rfl))) (ty := .long) (by decide)
        show G (T557.setTop (mkF me_ 57 #[.val (.int p0), .val (.long p1), .second, .val (.int (1 : Int32)), .val (.int (0 : Int32)), .val (.int (1 : Int32)), .val (.ref b543), .unset, .unset, .unset, .unset] [(.ref b557)]))
        refine gv (fun tQ kQ => XS.dup X557.here hx rfl (hb hby at_57) rfl rfl kQ) ?_
        show G (T557.setTop (mkF me_ 58 #[.val (.int p0), .val (.long p1), .second, .val (.int (1 : Int32)), .val (.int (0 : Int32)), .val (.int (1 : Int32)), .val (.ref b543), .unset, .unset, .unset, .unset] [(.ref b557), (.ref b557)]))
        refine gv (fun tQ kQ => XS.aconstNull X557.here hx rfl (hb hby at_58) kQ) ?_
        show G (T557.setTop (mkF me_ 59 #[.val (.int p0), .val (.long p1), .second, .val (.int (1 : Int32)), .val (.int (0 : Int32)), .val (.int (1 : Int32)), .val (.ref b543), .unset, .unset, .unset, .unset] [.null, (.ref b557), (.ref b557)]))
        refine gv (fun tQ kQ => XS.aconstNull X557.here hx rfl (hb hby at_59) kQ) ?_
        show G (T557.setTop (mkF me_ 60 #[.val (.int p0), .val (.long p1), .second, .val (.int (1 : Int32)), .val (.int (0 : Int32)), .val (.int (1 : Int32)), .val (.ref b543), .unset, .unset, .unset, .unset] [.null, .null, (.ref b557), (.ref b557)]))
        obtain ⟨T569, X569, e569, st569⟩ := getS2 X557 hx hZ hown (host := "") (Or.inl (hw _ (List.mem_of_getElem? (i := 27) rfl))) Via.refl e557 (u1.ext O563.2) (g := (mkF me_ 60 #[.val (.int p0), .val (.long p1), .second, .val (.int (1 : Int32)), .val (.int (0 : Int32)), .val (.int (1 : Int32)), .val (.ref b543), .unset, .unset, .unset, .unset] [.null, .null, (.ref b557), (.ref b557)])) rfl (hb hby at_60)
        refine gv st569 ?_
        show G (T569.setTop (mkF me_ 63 #[.val (.int p0), .val (.long p1), .second, .val (.int (1 : Int32)), .val (.int (0 : Int32)), .val (.int (1 : Int32)), .val (.ref b543), .unset, .unset, .unset, .unset] [(.ref A_ASK), .null, .null, (.ref b557), (.ref b557)]))
        refine gv (fun tQ kQ => XS.aconstNull X569.here hx rfl (hb hby at_63) kQ) ?_
        show G (T569.setTop (mkF me_ 64 #[.val (.int p0), .val (.long p1), .second, .val (.int (1 : Int32)), .val (.int (0 : Int32)), .val (.int (1 : Int32)), .val (.ref b543), .unset, .unset, .unset, .unset] [.null, (.ref A_ASK), .null, .null, (.ref b557), (.ref b557)]))
        refine gv (fun tQ kQ => XS.lloadN X569.here hx rfl (hb hby at_64) rfl kQ) ?_
        show G (T569.setTop (mkF me_ 65 #[.val (.int p0), .val (.long p1), .second, .val (.int (1 : Int32)), .val (.int (0 : Int32)), .val (.int (1 : Int32)), .val (.ref b543), .unset, .unset, .unset, .unset] [(.long p1), .null, (.ref A_ASK), .null, .null, (.ref b557), (.ref b557)]))
        obtain ⟨_, _, ⟨T570, L570, k570, n570⟩, -, X570, ⟨Lc570, hQ570, l570, y570, z570⟩, st570⟩ := X569.specialBack hx (y := (⟨"com/example/closemark/closemark/tape/TapeRow", "<init>", "(Ljava/time/Instant;Ljava/lang/String;Lcom/example/closemark/closemark/tape/TapeRow$Kind;Ljava/math/BigDecimal;J)V"⟩ : MethodName)) rfl hown (mvT hZ (hw _ (List.mem_of_getElem? (i := 6) rfl))) (mvT hZ (hw _ (List.mem_of_getElem? (i := 7) rfl))) (mvT hZ (hw _ (List.mem_of_getElem? (i := 8) rfl))) (by decide) (backOf (W := 1) (rm_tri l Z a0 hw [] b557 A_ASK p1 h557 n0 O563 A557 f564 f565 f566 f567 f568 g559) hZ (hw _ (List.mem_of_getElem? (i := 8) rfl)) (hw _ (List.mem_of_getElem? (i := 2) rfl)) (by decide) (by decide)) (g := (mkF me_ 65 #[.val (.int p0), .val (.long p1), .second, .val (.int (1 : Int32)), .val (.int (0 : Int32)), .val (.int (1 : Int32)), .val (.ref b543), .unset, .unset, .unset, .unset] [(.long p1), .null, (.ref A_ASK), .null, .null, (.ref b557), (.ref b557)])) rfl (by rw [hml]; rfl) (Steps.refl _) (a := b557) (argsL := [.null, .null, (.ref A_ASK), .null, (.long p1)]) (rest := [(.ref b557)]) (lenOf pd_4 rfl) rfl (by show 2 * 0 + _ ≤ _; exact Nat.le_of_eq rfl) (hb hby at_65) (fun _ _ => ⟨rfl, e569, (by decide : 2 + 0 ≤ _), (by decide : 10 + 0 ≤ _)⟩)
        dsimp only [Pt.U, Pt.locs, Pt.cells, Pt.slots] at X570 l570 y570 z570 st570 hQ570
        subst l570 y570 z570
        obtain ⟨rfl, Nq570, Kq570, w570_0, w570_1⟩ := hQ570
        have N571 := Fr.app N554 Nq570
        obtain ⟨h570, e570⟩ : ∃ z, T570.heap = z := ⟨_, rfl⟩
        rw [e570] at Kq570 w570_0 w570_1
        have f572 : Exa Z h570 b543 "com/example/closemark/closemark/tape/TapeRow" := f561.keep Kq570
        have f573 : Fld Z h570 b543 "com/example/closemark/closemark/tape/TapeRow" "kind" "Lcom/example/closemark/closemark/tape/TapeRow$Kind;" (.ref A_BID) := f562.keep Kq570 (ninS ne558 nin0)
        have f574 : Exa Z h570 b557 "com/example/closemark/closemark/tape/TapeRow" := A557.keep Kq570
        have O575 := O563.keep Kq570 (allS g559 all0)
        refine gv (fun tQ kQ => st570.trans kQ) ?_
        show G (T570.setTop (mkF me_ 68 #[.val (.int p0), .val (.long p1), .second, .val (.int (1 : Int32)), .val (.int (0 : Int32)), .val (.int (1 : Int32)), .val (.ref b543), .unset, .unset, .unset, .unset] [(.ref b557)]))
        refine gv (fun tQ kQ => XS.astore X570.here hx rfl (hb hby at_68) rfl rfl (l' := #[.val (.int p0), .val (.long p1), .second, .val (.int (1 : Int32)), .val (.int (0 : Int32)), .val (.int (1 : Int32)), .val (.ref b543), .val (.ref b557), .unset, .unset, .unset]) rfl kQ) ?_
        show G (T570.setTop (mkF me_ 70 #[.val (.int p0), .val (.long p1), .second, .val (.int (1 : Int32)), .val (.int (0 : Int32)), .val (.int (1 : Int32)), .val (.ref b543), .val (.ref b557), .unset, .unset, .unset] []))
        obtain ⟨T576, h576, X576, e576, E576, A576, D576, -, st576⟩ := newO X570 hx hZ hown (hw _ (List.mem_of_getElem? (i := 29) rfl)) (hw _ (List.mem_of_getElem? (i := 30) rfl)) (hw _ (List.mem_of_getElem? (i := 31) rfl)) e570 (g := (mkF me_ 70 #[.val (.int p0), .val (.long p1), .second, .val (.int (1 : Int32)), .val (.int (0 : Int32)), .val (.int (1 : Int32)), .val (.ref b543), .val (.ref b557), .unset, .unset, .unset] [])) rfl (hb hby at_70) (by decide) (by decide)
        obtain ⟨b576, g576⟩ : ∃ z, z = h570.size := ⟨_, rfl⟩
        rw [← g576] at A576 D576 st576
        refine gv st576 ?_
        have ne577 : b543 ≠ b576 := Nat.ne_of_lt (Nat.lt_of_lt_of_le f572.lt (Nat.le_of_eq g576.symm))
        have ne578 : b557 ≠ b576 := Nat.ne_of_lt (Nat.lt_of_lt_of_le w570_0.lt (Nat.le_of_eq g576.symm))
        have g579 : n0 ≤ b576 := Nat.le_trans (own_old O575) (Nat.le_of_eq g576.symm)
        have f581 : Exa Z h576 b543 "com/example/closemark/closemark/tape/TapeRow" := f572.ext E576
        have f582 : Fld Z h576 b543 "com/example/closemark/closemark/tape/TapeRow" "kind" "Lcom/example/closemark/closemark/tape/TapeRow$Kind;" (.ref A_BID) := f573.ext E576
        have f583 : Exa Z h576 b557 "com/example/closemark/closemark/tape/TapeRow" := w570_0.ext E576
        have f584 : Fld Z h576 b557 "com/example/closemark/closemark/tape/TapeRow" "kind" "Lcom/example/closemark/closemark/tape/TapeRow$Kind;" (.ref A_ASK) := w570_1.ext E576
        have O585 := O575.ext E576
        have f586 : Fld Z h576 b576 "com/example/closemark/closemark/prices/StandingQuotes" "bid" "Lcom/example/closemark/closemark/prices/LatestRow;" .null := D576 (Or.inr (hw _ (List.mem_of_getElem? (i := 44) rfl))) (ty := (.object "com/example/closemark/closemark/prices/LatestRow")) (by decide)
        have f587 : Fld Z h576 b576 "com/example/closemark/closemark/prices/StandingQuotes" "ask" "Lcom/example/closemark/closemark/prices/LatestRow;" .null := D576 (Or.inr (hw _ (List.mem_of_getElem? (i := 46) rfl))) (ty := (.object "com/example/closemark/closemark/prices/LatestRow")) (by decide)
        show G (T576.setTop (mkF me_ 73 #[.val (.int p0), .val (.long p1), .second, .val (.int (1 : Int32)), .val (.int (0 : Int32)), .val (.int (1 : Int32)), .val (.ref b543), .val (.ref b557), .unset, .unset, .unset] [(.ref b576)]))
        refine gv (fun tQ kQ => XS.dup X576.here hx rfl (hb hby at_73) rfl rfl kQ) ?_
        show G (T576.setTop (mkF me_ 74 #[.val (.int p0), .val (.long p1), .second, .val (.int (1 : Int32)), .val (.int (0 : Int32)), .val (.int (1 : Int32)), .val (.ref b543), .val (.ref b557), .unset, .unset, .unset] [(.ref b576), (.ref b576)]))
        obtain ⟨_, _, ⟨T588, L588, k588, n588⟩, -, X588, ⟨Lc588, hQ588, l588, y588, z588⟩, st588⟩ := X576.specialBack hx (y := (⟨"com/example/closemark/closemark/prices/StandingQuotes", "<init>", "()V"⟩ : MethodName)) rfl hown (mvT hZ (hw _ (List.mem_of_getElem? (i := 32) rfl))) (mvT hZ (hw _ (List.mem_of_getElem? (i := 33) rfl))) (mvT hZ (hw _ (List.mem_of_getElem? (i := 34) rfl))) (by decide) (backOf (W := 1) (rm_sqi l Z a0 hw [] b576 h576 n0 O585 A576 f586 f587 g579) hZ (hw _ (List.mem_of_getElem? (i := 34) rfl)) (hw _ (List.mem_of_getElem? (i := 31) rfl)) (by decide) (by decide)) (g := (mkF me_ 74 #[.val (.int p0), .val (.long p1), .second, .val (.int (1 : Int32)), .val (.int (0 : Int32)), .val (.int (1 : Int32)), .val (.ref b543), .val (.ref b557), .unset, .unset, .unset] [(.ref b576), (.ref b576)])) rfl (by rw [hml]; rfl) (Steps.refl _) (a := b576) (argsL := []) (rest := [(.ref b576)]) (lenOf pd_0 rfl) rfl (by show 2 * 0 + _ ≤ _; exact Nat.le_of_eq rfl) (hb hby at_74) (fun _ _ => ⟨rfl, e576, (by decide : 3 + 2 ≤ _), (by decide : 12 + 2 ≤ _)⟩)
        dsimp only [Pt.U, Pt.locs, Pt.cells, Pt.slots] at X588 l588 y588 z588 st588 hQ588
        subst l588 y588 z588
        obtain ⟨x_588, y_588, rfl, Nq588, Kq588, w588_0, w588_1, w588_2, w588_3, w588_4, w588_5, w588_6, w588_7, w588_8, w588_9⟩ := hQ588
        have N589 := Fr.app N571 Nq588
        obtain ⟨h588, e588⟩ : ∃ z, T588.heap = z := ⟨_, rfl⟩
        rw [e588] at Kq588 w588_3 w588_4 w588_5 w588_6 w588_7 w588_8 w588_9
        have ne590 : b543 ≠ x_588 := Nat.ne_of_lt (Nat.lt_of_lt_of_le f581.lt w588_0)
        have ne591 : b557 ≠ x_588 := Nat.ne_of_lt (Nat.lt_of_lt_of_le f583.lt w588_0)
        have ne592 : b576 ≠ x_588 := Nat.ne_of_lt (Nat.lt_of_lt_of_le A576.lt w588_0)
        have g593 : n0 ≤ x_588 := Nat.le_trans (own_old O585) w588_0
        have ne595 : b543 ≠ y_588 := Nat.ne_of_lt (Nat.lt_of_lt_of_le f581.lt w588_1)
        have ne596 : b557 ≠ y_588 := Nat.ne_of_lt (Nat.lt_of_lt_of_le f583.lt w588_1)
        have ne597 : b576 ≠ y_588 := Nat.ne_of_lt (Nat.lt_of_lt_of_le A576.lt w588_1)
        have g598 : n0 ≤ y_588 := Nat.le_trans (own_old O585) w588_1
        have f600 : Exa Z h588 b543 "com/example/closemark/closemark/tape/TapeRow" := f581.keep Kq588
        have f601 : Fld Z h588 b543 "com/example/closemark/closemark/tape/TapeRow" "kind" "Lcom/example/closemark/closemark/tape/TapeRow$Kind;" (.ref A_BID) := f582.keep Kq588 (ninS ne577 nin0)
        have f602 : Exa Z h588 b557 "com/example/closemark/closemark/tape/TapeRow" := f583.keep Kq588
        have f603 : Fld Z h588 b557 "com/example/closemark/closemark/tape/TapeRow" "kind" "Lcom/example/closemark/closemark/tape/TapeRow$Kind;" (.ref A_ASK) := f584.keep Kq588 (ninS ne578 nin0)
        have f604 : Exa Z h588 b576 "com/example/closemark/closemark/prices/StandingQuotes" := A576.keep Kq588
        have O605 := O585.keep Kq588 (allS g579 all0)
        refine gv (fun tQ kQ => st588.trans kQ) ?_
        show G (T588.setTop (mkF me_ 77 #[.val (.int p0), .val (.long p1), .second, .val (.int (1 : Int32)), .val (.int (0 : Int32)), .val (.int (1 : Int32)), .val (.ref b543), .val (.ref b557), .unset, .unset, .unset] [(.ref b576)]))
        refine gv (fun tQ kQ => XS.astore X588.here hx rfl (hb hby at_77) rfl rfl (l' := #[.val (.int p0), .val (.long p1), .second, .val (.int (1 : Int32)), .val (.int (0 : Int32)), .val (.int (1 : Int32)), .val (.ref b543), .val (.ref b557), .val (.ref b576), .unset, .unset]) rfl kQ) ?_
        show G (T588.setTop (mkF me_ 79 #[.val (.int p0), .val (.long p1), .second, .val (.int (1 : Int32)), .val (.int (0 : Int32)), .val (.int (1 : Int32)), .val (.ref b543), .val (.ref b557), .val (.ref b576), .unset, .unset] []))
        refine gv (fun tQ kQ => XS.aload X588.here hx rfl (hb hby at_79) rfl rfl kQ) ?_
        show G (T588.setTop (mkF me_ 81 #[.val (.int p0), .val (.long p1), .second, .val (.int (1 : Int32)), .val (.int (0 : Int32)), .val (.int (1 : Int32)), .val (.ref b543), .val (.ref b557), .val (.ref b576), .unset, .unset] [(.ref b576)]))
        obtain ⟨cq606, kq606, q606a, q606b, q606c⟩ := isOf hZ e588 w588_3
        obtain ⟨_, _, ⟨T606, L606, k606, n606⟩, -, X606, ⟨Lc606, hQ606, l606, y606, z606⟩, st606⟩ := X588.virtualBack hx (y := (⟨"com/example/closemark/closemark/prices/StandingQuotes", "hasBidAndAsk", "()Z"⟩ : MethodName)) (z := (⟨"com/example/closemark/closemark/prices/StandingQuotes", "hasBidAndAsk", "()Z"⟩ : MethodName)) hown (mvT hZ (hw _ (List.mem_of_getElem? (i := 47) rfl))) (mvT hZ (hw _ (List.mem_of_getElem? (i := 48) rfl))) (notFace_of_selects (args := #[]) (mvT hZ (hw _ (List.mem_of_getElem? (i := 50) rfl)))) (mvT hZ (hw _ (List.mem_of_getElem? (i := 50) rfl))) (mvT hZ (hw _ (List.mem_of_getElem? (i := 49) rfl))) (by decide) (backOf (W := 0) (rm_hb0 l Z a0 hw [] b576 x_588 h588 n0 O605 w588_4 w588_6 w588_8) hZ (hw _ (List.mem_of_getElem? (i := 51) rfl)) (hw _ (List.mem_of_getElem? (i := 31) rfl)) (by decide) (by decide)) q606a q606c (g := (mkF me_ 81 #[.val (.int p0), .val (.long p1), .second, .val (.int (1 : Int32)), .val (.int (0 : Int32)), .val (.int (1 : Int32)), .val (.ref b543), .val (.ref b557), .val (.ref b576), .unset, .unset] [(.ref b576)])) rfl (by rw [hml]; rfl) (Steps.refl _) (argsL := []) (rest := []) (lenOf pd_5 rfl) rfl (by show 2 * 0 + _ ≤ _; exact Nat.le_of_eq rfl) (hb hby at_81) (fun _ _ => ⟨rfl, e588, (by decide : 5 + 0 ≤ _), (by decide : 14 + 0 ≤ _)⟩)
        dsimp only [Pt.U, Pt.locs, Pt.cells, Pt.slots] at X606 l606 y606 z606 st606 hQ606
        subst l606 y606 z606
        obtain ⟨rfl, Nq606, eq606⟩ := hQ606
        have N607 := Fr.app N589 Nq606
        refine gv (fun tQ kQ => st606.trans kQ) ?_
        show G (T606.setTop (mkF me_ 84 #[.val (.int p0), .val (.long p1), .second, .val (.int (1 : Int32)), .val (.int (0 : Int32)), .val (.int (1 : Int32)), .val (.ref b543), .val (.ref b557), .val (.ref b576), .unset, .unset] [(.int (0 : Int32))]))
        refine gv (fun tQ kQ => XS.ifNo X606.here hx rfl (hb hby at_84) rfl ((if0 _ _).trans (teq (by decide : (0 : Int32) = (0 : Int32))).2) kQ) ?_
        show G (T606.setTop (mkF me_ 87 #[.val (.int p0), .val (.long p1), .second, .val (.int (1 : Int32)), .val (.int (0 : Int32)), .val (.int (1 : Int32)), .val (.ref b543), .val (.ref b557), .val (.ref b576), .unset, .unset] []))
        refine gv (fun tQ kQ => XS.iconst X606.here hx rfl (hb hby at_87) kQ) ?_
        show G (T606.setTop (mkF me_ 88 #[.val (.int p0), .val (.long p1), .second, .val (.int (1 : Int32)), .val (.int (0 : Int32)), .val (.int (1 : Int32)), .val (.ref b543), .val (.ref b557), .val (.ref b576), .unset, .unset] [(.int (1 : Int32))]))
        refine gv (fun tQ kQ => XS.goto X606.here hx rfl (pc0 := 88) (pc' := 92) rfl (hb hby at_88) (by decide) (by decide) kQ) ?_
        show G (T606.setTop (mkF me_ 92 #[.val (.int p0), .val (.long p1), .second, .val (.int (1 : Int32)), .val (.int (0 : Int32)), .val (.int (1 : Int32)), .val (.ref b543), .val (.ref b557), .val (.ref b576), .unset, .unset] [(.int (1 : Int32))]))
        refine gv (fun tQ kQ => XS.istore X606.here hx rfl (hb hby at_92) rfl (l' := #[.val (.int p0), .val (.long p1), .second, .val (.int (1 : Int32)), .val (.int (0 : Int32)), .val (.int (1 : Int32)), .val (.ref b543), .val (.ref b557), .val (.ref b576), .val (.int (1 : Int32)), .unset]) rfl kQ) ?_
        show G (T606.setTop (mkF me_ 94 #[.val (.int p0), .val (.long p1), .second, .val (.int (1 : Int32)), .val (.int (0 : Int32)), .val (.int (1 : Int32)), .val (.ref b543), .val (.ref b557), .val (.ref b576), .val (.int (1 : Int32)), .unset] []))
        refine gv (fun tQ kQ => XS.iload X606.here hx rfl (hb hby at_94) rfl kQ) ?_
        show G (T606.setTop (mkF me_ 96 #[.val (.int p0), .val (.long p1), .second, .val (.int (1 : Int32)), .val (.int (0 : Int32)), .val (.int (1 : Int32)), .val (.ref b543), .val (.ref b557), .val (.ref b576), .val (.int (1 : Int32)), .unset] [(.int (1 : Int32))]))
        refine gv (fun tQ kQ => XS.ifNo X606.here hx rfl (hb hby at_96) rfl ((if0 _ _).trans (feq (by decide : ¬ ((1 : Int32) = (0 : Int32)))).1) kQ) ?_
        show G (T606.setTop (mkF me_ 99 #[.val (.int p0), .val (.long p1), .second, .val (.int (1 : Int32)), .val (.int (0 : Int32)), .val (.int (1 : Int32)), .val (.ref b543), .val (.ref b557), .val (.ref b576), .val (.int (1 : Int32)), .unset] []))
        refine gv (fun tQ kQ => XS.iload X606.here hx rfl (hb hby at_99) rfl kQ) ?_
        show G (T606.setTop (mkF me_ 101 #[.val (.int p0), .val (.long p1), .second, .val (.int (1 : Int32)), .val (.int (0 : Int32)), .val (.int (1 : Int32)), .val (.ref b543), .val (.ref b557), .val (.ref b576), .val (.int (1 : Int32)), .unset] [(.int (0 : Int32))]))
        refine gv (fun tQ kQ => XS.ifYes X606.here hx rfl (pc0 := 101) (pc' := 111) rfl (hb hby at_101) rfl ((if0 _ _).trans (teq (by decide : (0 : Int32) = (0 : Int32))).1) (by decide) (by decide) kQ) ?_
        show G (T606.setTop (mkF me_ 111 #[.val (.int p0), .val (.long p1), .second, .val (.int (1 : Int32)), .val (.int (0 : Int32)), .val (.int (1 : Int32)), .val (.ref b543), .val (.ref b557), .val (.ref b576), .val (.int (1 : Int32)), .unset] []))
        refine gv (fun tQ kQ => XS.iload X606.here hx rfl (hb hby at_111) rfl kQ) ?_
        show G (T606.setTop (mkF me_ 113 #[.val (.int p0), .val (.long p1), .second, .val (.int (1 : Int32)), .val (.int (0 : Int32)), .val (.int (1 : Int32)), .val (.ref b543), .val (.ref b557), .val (.ref b576), .val (.int (1 : Int32)), .unset] [(.int (1 : Int32))]))
        refine gv (fun tQ kQ => XS.ifNo X606.here hx rfl (hb hby at_113) rfl ((if0 _ _).trans (feq (by decide : ¬ ((1 : Int32) = (0 : Int32)))).1) kQ) ?_
        show G (T606.setTop (mkF me_ 116 #[.val (.int p0), .val (.long p1), .second, .val (.int (1 : Int32)), .val (.int (0 : Int32)), .val (.int (1 : Int32)), .val (.ref b543), .val (.ref b557), .val (.ref b576), .val (.int (1 : Int32)), .unset] []))
        refine gv (fun tQ kQ => XS.aload X606.here hx rfl (hb hby at_116) rfl rfl kQ) ?_
        show G (T606.setTop (mkF me_ 118 #[.val (.int p0), .val (.long p1), .second, .val (.int (1 : Int32)), .val (.int (0 : Int32)), .val (.int (1 : Int32)), .val (.ref b543), .val (.ref b557), .val (.ref b576), .val (.int (1 : Int32)), .unset] [(.ref b576)]))
        obtain ⟨cq608, kq608, q608a, q608b, q608c⟩ := isOf hZ eq606 w588_3
        obtain ⟨_, _, ⟨T608, L608, k608, n608⟩, -, X608, ⟨Lc608, hQ608, l608, y608, z608⟩, st608⟩ := X606.virtualBack hx (y := (⟨"com/example/closemark/closemark/prices/StandingQuotes", "hasBidAndAsk", "()Z"⟩ : MethodName)) (z := (⟨"com/example/closemark/closemark/prices/StandingQuotes", "hasBidAndAsk", "()Z"⟩ : MethodName)) hown (mvT hZ (hw _ (List.mem_of_getElem? (i := 47) rfl))) (mvT hZ (hw _ (List.mem_of_getElem? (i := 48) rfl))) (notFace_of_selects (args := #[]) (mvT hZ (hw _ (List.mem_of_getElem? (i := 50) rfl)))) (mvT hZ (hw _ (List.mem_of_getElem? (i := 50) rfl))) (mvT hZ (hw _ (List.mem_of_getElem? (i := 49) rfl))) (by decide) (backOf (W := 0) (rm_hb0 l Z a0 hw [] b576 x_588 h588 n0 O605 w588_4 w588_6 w588_8) hZ (hw _ (List.mem_of_getElem? (i := 51) rfl)) (hw _ (List.mem_of_getElem? (i := 31) rfl)) (by decide) (by decide)) q608a q608c (g := (mkF me_ 118 #[.val (.int p0), .val (.long p1), .second, .val (.int (1 : Int32)), .val (.int (0 : Int32)), .val (.int (1 : Int32)), .val (.ref b543), .val (.ref b557), .val (.ref b576), .val (.int (1 : Int32)), .unset] [(.ref b576)])) rfl (by rw [hml]; rfl) (Steps.refl _) (argsL := []) (rest := []) (lenOf pd_5 rfl) rfl (by show 2 * 0 + _ ≤ _; exact Nat.le_of_eq rfl) (hb hby at_118) (fun _ _ => ⟨rfl, eq606, (by decide : 5 + 0 ≤ _), (by decide : 14 + 0 ≤ _)⟩)
        dsimp only [Pt.U, Pt.locs, Pt.cells, Pt.slots] at X608 l608 y608 z608 st608 hQ608
        subst l608 y608 z608
        obtain ⟨rfl, Nq608, eq608⟩ := hQ608
        have N609 := Fr.app N607 Nq608
        refine gv (fun tQ kQ => st608.trans kQ) ?_
        show G (T608.setTop (mkF me_ 121 #[.val (.int p0), .val (.long p1), .second, .val (.int (1 : Int32)), .val (.int (0 : Int32)), .val (.int (1 : Int32)), .val (.ref b543), .val (.ref b557), .val (.ref b576), .val (.int (1 : Int32)), .unset] [(.int (0 : Int32))]))
        refine gv (fun tQ kQ => XS.ifNo X608.here hx rfl (hb hby at_121) rfl ((if0 _ _).trans (teq (by decide : (0 : Int32) = (0 : Int32))).2) kQ) ?_
        show G (T608.setTop (mkF me_ 124 #[.val (.int p0), .val (.long p1), .second, .val (.int (1 : Int32)), .val (.int (0 : Int32)), .val (.int (1 : Int32)), .val (.ref b543), .val (.ref b557), .val (.ref b576), .val (.int (1 : Int32)), .unset] []))
        refine gv (fun tQ kQ => XS.iconst X608.here hx rfl (hb hby at_124) kQ) ?_
        show G (T608.setTop (mkF me_ 125 #[.val (.int p0), .val (.long p1), .second, .val (.int (1 : Int32)), .val (.int (0 : Int32)), .val (.int (1 : Int32)), .val (.ref b543), .val (.ref b557), .val (.ref b576), .val (.int (1 : Int32)), .unset] [(.int (1 : Int32))]))
        refine gv (fun tQ kQ => XS.goto X608.here hx rfl (pc0 := 125) (pc' := 129) rfl (hb hby at_125) (by decide) (by decide) kQ) ?_
        show G (T608.setTop (mkF me_ 129 #[.val (.int p0), .val (.long p1), .second, .val (.int (1 : Int32)), .val (.int (0 : Int32)), .val (.int (1 : Int32)), .val (.ref b543), .val (.ref b557), .val (.ref b576), .val (.int (1 : Int32)), .unset] [(.int (1 : Int32))]))
        refine gv (fun tQ kQ => XS.istore X608.here hx rfl (hb hby at_129) rfl (l' := #[.val (.int p0), .val (.long p1), .second, .val (.int (1 : Int32)), .val (.int (0 : Int32)), .val (.int (1 : Int32)), .val (.ref b543), .val (.ref b557), .val (.ref b576), .val (.int (1 : Int32)), .unset]) rfl kQ) ?_
        show G (T608.setTop (mkF me_ 131 #[.val (.int p0), .val (.long p1), .second, .val (.int (1 : Int32)), .val (.int (0 : Int32)), .val (.int (1 : Int32)), .val (.ref b543), .val (.ref b557), .val (.ref b576), .val (.int (1 : Int32)), .unset] []))
        refine gv (fun tQ kQ => XS.iloadN X608.here hx rfl (hb hby at_131) rfl kQ) ?_
        show G (T608.setTop (mkF me_ 132 #[.val (.int p0), .val (.long p1), .second, .val (.int (1 : Int32)), .val (.int (0 : Int32)), .val (.int (1 : Int32)), .val (.ref b543), .val (.ref b557), .val (.ref b576), .val (.int (1 : Int32)), .unset] [(.int (1 : Int32))]))
        refine gv (fun tQ kQ => XS.ifNo X608.here hx rfl (hb hby at_132) rfl ((if0 _ _).trans (feq (by decide : ¬ ((1 : Int32) = (0 : Int32)))).1) kQ) ?_
        show G (T608.setTop (mkF me_ 135 #[.val (.int p0), .val (.long p1), .second, .val (.int (1 : Int32)), .val (.int (0 : Int32)), .val (.int (1 : Int32)), .val (.ref b543), .val (.ref b557), .val (.ref b576), .val (.int (1 : Int32)), .unset] []))
        refine gv (fun tQ kQ => XS.aload X608.here hx rfl (hb hby at_135) rfl rfl kQ) ?_
        show G (T608.setTop (mkF me_ 137 #[.val (.int p0), .val (.long p1), .second, .val (.int (1 : Int32)), .val (.int (0 : Int32)), .val (.int (1 : Int32)), .val (.ref b543), .val (.ref b557), .val (.ref b576), .val (.int (1 : Int32)), .unset] [(.ref b576)]))
        refine gv (fun tQ kQ => XS.aload X608.here hx rfl (hb hby at_137) rfl rfl kQ) ?_
        show G (T608.setTop (mkF me_ 139 #[.val (.int p0), .val (.long p1), .second, .val (.int (1 : Int32)), .val (.int (0 : Int32)), .val (.int (1 : Int32)), .val (.ref b543), .val (.ref b557), .val (.ref b576), .val (.int (1 : Int32)), .unset] [(.ref b543), (.ref b576)]))
        obtain ⟨cq610, kq610, q610a, q610b, q610c⟩ := isOf hZ eq608 w588_3
        obtain ⟨_, _, ⟨T610, L610, k610, n610⟩, -, X610, ⟨Lc610, hQ610, l610, y610, z610⟩, st610⟩ := X608.virtualBack hx (y := (⟨"com/example/closemark/closemark/prices/StandingQuotes", "add", "(Lcom/example/closemark/closemark/tape/TapeRow;)V"⟩ : MethodName)) (z := (⟨"com/example/closemark/closemark/prices/StandingQuotes", "add", "(Lcom/example/closemark/closemark/tape/TapeRow;)V"⟩ : MethodName)) hown (mvT hZ (hw _ (List.mem_of_getElem? (i := 59) rfl))) (mvT hZ (hw _ (List.mem_of_getElem? (i := 60) rfl))) (notFace_of_selects (args := #[]) (mvT hZ (hw _ (List.mem_of_getElem? (i := 62) rfl)))) (mvT hZ (hw _ (List.mem_of_getElem? (i := 62) rfl))) (mvT hZ (hw _ (List.mem_of_getElem? (i := 61) rfl))) (by decide) (backOf (W := 0) (rm_addB l Z a0 hw [] b576 b543 x_588 A_BID h588 n0 O605 f600 u0 f601 w588_4 w588_6 w588_8 g593) hZ (hw _ (List.mem_of_getElem? (i := 63) rfl)) (hw _ (List.mem_of_getElem? (i := 31) rfl)) (by decide) (by decide)) q610a q610c (g := (mkF me_ 139 #[.val (.int p0), .val (.long p1), .second, .val (.int (1 : Int32)), .val (.int (0 : Int32)), .val (.int (1 : Int32)), .val (.ref b543), .val (.ref b557), .val (.ref b576), .val (.int (1 : Int32)), .unset] [(.ref b543), (.ref b576)])) rfl (by rw [hml]; rfl) (Steps.refl _) (argsL := [(.ref b543)]) (rest := []) (lenOf pd_3 rfl) rfl (by show 2 * 0 + _ ≤ _; exact Nat.le_of_eq rfl) (hb hby at_139) (fun _ _ => ⟨rfl, eq608, (by decide : 5 + 0 ≤ _), (by decide : 14 + 0 ≤ _)⟩)
        dsimp only [Pt.U, Pt.locs, Pt.cells, Pt.slots] at X610 l610 y610 z610 st610 hQ610
        subst l610 y610 z610
        obtain ⟨rfl, Nq610, Kq610, w610_0, w610_1⟩ := hQ610
        have N611 := Fr.app N609 Nq610
        obtain ⟨h610, e610⟩ : ∃ z, T610.heap = z := ⟨_, rfl⟩
        rw [e610] at Kq610 w610_0 w610_1
        have f612 : Exa Z h610 b543 "com/example/closemark/closemark/tape/TapeRow" := f600.keep Kq610
        have f613 : Fld Z h610 b543 "com/example/closemark/closemark/tape/TapeRow" "kind" "Lcom/example/closemark/closemark/tape/TapeRow$Kind;" (.ref A_BID) := f601.keep Kq610 (ninS ne590 nin0)
        have f614 : Exa Z h610 b557 "com/example/closemark/closemark/tape/TapeRow" := f602.keep Kq610
        have f615 : Fld Z h610 b557 "com/example/closemark/closemark/tape/TapeRow" "kind" "Lcom/example/closemark/closemark/tape/TapeRow$Kind;" (.ref A_ASK) := f603.keep Kq610 (ninS ne591 nin0)
        have f616 : Exa Z h610 b576 "com/example/closemark/closemark/prices/StandingQuotes" := w588_3.keep Kq610
        have f617 : Fld Z h610 b576 "com/example/closemark/closemark/prices/StandingQuotes" "bid" "Lcom/example/closemark/closemark/prices/LatestRow;" (.ref x_588) := w588_4.keep Kq610 (ninS ne592 nin0)
        have f618 : Fld Z h610 b576 "com/example/closemark/closemark/prices/StandingQuotes" "ask" "Lcom/example/closemark/closemark/prices/LatestRow;" (.ref y_588) := w588_5.keep Kq610 (ninS ne592 nin0)
        have f619 : Exa Z h610 x_588 "com/example/closemark/closemark/prices/LatestRow" := w588_6.keep Kq610
        have f620 : Exa Z h610 y_588 "com/example/closemark/closemark/prices/LatestRow" := w588_7.keep Kq610
        have f621 : Fld Z h610 y_588 "com/example/closemark/closemark/prices/LatestRow" "row" "Lcom/example/closemark/closemark/tape/TapeRow;" .null := w588_9.keep Kq610 (ninS (Ne.symm w588_2) nin0)
        have O622 := O605.keep Kq610 (allS g593 all0)
        refine gv (fun tQ kQ => st610.trans kQ) ?_
        show G (T610.setTop (mkF me_ 142 #[.val (.int p0), .val (.long p1), .second, .val (.int (1 : Int32)), .val (.int (0 : Int32)), .val (.int (1 : Int32)), .val (.ref b543), .val (.ref b557), .val (.ref b576), .val (.int (1 : Int32)), .unset] []))
        refine gv (fun tQ kQ => XS.goto X610.here hx rfl (pc0 := 142) (pc' := 188) rfl (hb hby at_142) (by decide) (by decide) kQ) ?_
        show G (T610.setTop (mkF me_ 188 #[.val (.int p0), .val (.long p1), .second, .val (.int (1 : Int32)), .val (.int (0 : Int32)), .val (.int (1 : Int32)), .val (.ref b543), .val (.ref b557), .val (.ref b576), .val (.int (1 : Int32)), .unset] []))
        refine gv (fun tQ kQ => XS.iloadN X610.here hx rfl (hb hby at_188) rfl kQ) ?_
        show G (T610.setTop (mkF me_ 189 #[.val (.int p0), .val (.long p1), .second, .val (.int (1 : Int32)), .val (.int (0 : Int32)), .val (.int (1 : Int32)), .val (.ref b543), .val (.ref b557), .val (.ref b576), .val (.int (1 : Int32)), .unset] [(.int (1 : Int32))]))
        refine gv (fun tQ kQ => XS.ifNo X610.here hx rfl (hb hby at_189) rfl ((if0 _ _).trans (feq (by decide : ¬ ((1 : Int32) = (0 : Int32)))).1) kQ) ?_
        show G (T610.setTop (mkF me_ 192 #[.val (.int p0), .val (.long p1), .second, .val (.int (1 : Int32)), .val (.int (0 : Int32)), .val (.int (1 : Int32)), .val (.ref b543), .val (.ref b557), .val (.ref b576), .val (.int (1 : Int32)), .unset] []))
        refine gv (fun tQ kQ => XS.iload X610.here hx rfl (hb hby at_192) rfl kQ) ?_
        show G (T610.setTop (mkF me_ 194 #[.val (.int p0), .val (.long p1), .second, .val (.int (1 : Int32)), .val (.int (0 : Int32)), .val (.int (1 : Int32)), .val (.ref b543), .val (.ref b557), .val (.ref b576), .val (.int (1 : Int32)), .unset] [(.int (0 : Int32))]))
        refine gv (fun tQ kQ => XS.ifYes X610.here hx rfl (pc0 := 194) (pc' := 201) rfl (hb hby at_194) rfl ((if0 _ _).trans (teq (by decide : (0 : Int32) = (0 : Int32))).1) (by decide) (by decide) kQ) ?_
        show G (T610.setTop (mkF me_ 201 #[.val (.int p0), .val (.long p1), .second, .val (.int (1 : Int32)), .val (.int (0 : Int32)), .val (.int (1 : Int32)), .val (.ref b543), .val (.ref b557), .val (.ref b576), .val (.int (1 : Int32)), .unset] []))
        refine gv (fun tQ kQ => XS.iconst X610.here hx rfl (hb hby at_201) kQ) ?_
        show G (T610.setTop (mkF me_ 202 #[.val (.int p0), .val (.long p1), .second, .val (.int (1 : Int32)), .val (.int (0 : Int32)), .val (.int (1 : Int32)), .val (.ref b543), .val (.ref b557), .val (.ref b576), .val (.int (1 : Int32)), .unset] [(.int (0 : Int32))]))
        refine gv (fun tQ kQ => XS.istore X610.here hx rfl (hb hby at_202) rfl (l' := #[.val (.int p0), .val (.long p1), .second, .val (.int (1 : Int32)), .val (.int (0 : Int32)), .val (.int (1 : Int32)), .val (.ref b543), .val (.ref b557), .val (.ref b576), .val (.int (1 : Int32)), .val (.int (0 : Int32))]) rfl kQ) ?_
        show G (T610.setTop (mkF me_ 204 #[.val (.int p0), .val (.long p1), .second, .val (.int (1 : Int32)), .val (.int (0 : Int32)), .val (.int (1 : Int32)), .val (.ref b543), .val (.ref b557), .val (.ref b576), .val (.int (1 : Int32)), .val (.int (0 : Int32))] []))
        refine gv (fun tQ kQ => XS.iload X610.here hx rfl (hb hby at_204) rfl kQ) ?_
        show G (T610.setTop (mkF me_ 206 #[.val (.int p0), .val (.long p1), .second, .val (.int (1 : Int32)), .val (.int (0 : Int32)), .val (.int (1 : Int32)), .val (.ref b543), .val (.ref b557), .val (.ref b576), .val (.int (1 : Int32)), .val (.int (0 : Int32))] [(.int (1 : Int32))]))
        refine gv (fun tQ kQ => XS.ifNo X610.here hx rfl (hb hby at_206) rfl ((if0 _ _).trans (feq (by decide : ¬ ((1 : Int32) = (0 : Int32)))).1) kQ) ?_
        show G (T610.setTop (mkF me_ 209 #[.val (.int p0), .val (.long p1), .second, .val (.int (1 : Int32)), .val (.int (0 : Int32)), .val (.int (1 : Int32)), .val (.ref b543), .val (.ref b557), .val (.ref b576), .val (.int (1 : Int32)), .val (.int (0 : Int32))] []))
        refine gv (fun tQ kQ => XS.aload X610.here hx rfl (hb hby at_209) rfl rfl kQ) ?_
        show G (T610.setTop (mkF me_ 211 #[.val (.int p0), .val (.long p1), .second, .val (.int (1 : Int32)), .val (.int (0 : Int32)), .val (.int (1 : Int32)), .val (.ref b543), .val (.ref b557), .val (.ref b576), .val (.int (1 : Int32)), .val (.int (0 : Int32))] [(.ref b576)]))
        obtain ⟨cq623, kq623, q623a, q623b, q623c⟩ := isOf hZ e610 f616
        obtain ⟨_, _, ⟨T623, L623, k623, n623⟩, -, X623, ⟨Lc623, hQ623, l623, y623, z623⟩, st623⟩ := X610.virtualBack hx (y := (⟨"com/example/closemark/closemark/prices/StandingQuotes", "hasBidAndAsk", "()Z"⟩ : MethodName)) (z := (⟨"com/example/closemark/closemark/prices/StandingQuotes", "hasBidAndAsk", "()Z"⟩ : MethodName)) hown (mvT hZ (hw _ (List.mem_of_getElem? (i := 47) rfl))) (mvT hZ (hw _ (List.mem_of_getElem? (i := 48) rfl))) (notFace_of_selects (args := #[]) (mvT hZ (hw _ (List.mem_of_getElem? (i := 50) rfl)))) (mvT hZ (hw _ (List.mem_of_getElem? (i := 50) rfl))) (mvT hZ (hw _ (List.mem_of_getElem? (i := 49) rfl))) (by decide) (backOf (W := 0) (rm_hb1 l Z a0 hw [] b576 x_588 y_588 b543 h610 n0 O622 f617 w610_0 w610_1 f618 f620 f621) hZ (hw _ (List.mem_of_getElem? (i := 51) rfl)) (hw _ (List.mem_of_getElem? (i := 31) rfl)) (by decide) (by decide)) q623a q623c (g := (mkF me_ 211 #[.val (.int p0), .val (.long p1), .second, .val (.int (1 : Int32)), .val (.int (0 : Int32)), .val (.int (1 : Int32)), .val (.ref b543), .val (.ref b557), .val (.ref b576), .val (.int (1 : Int32)), .val (.int (0 : Int32))] [(.ref b576)])) rfl (by rw [hml]; rfl) (Steps.refl _) (argsL := []) (rest := []) (lenOf pd_5 rfl) rfl (by show 2 * 0 + _ ≤ _; exact Nat.le_of_eq rfl) (hb hby at_211) (fun _ _ => ⟨rfl, e610, (by decide : 5 + 0 ≤ _), (by decide : 14 + 0 ≤ _)⟩)
        dsimp only [Pt.U, Pt.locs, Pt.cells, Pt.slots] at X623 l623 y623 z623 st623 hQ623
        subst l623 y623 z623
        obtain ⟨rfl, Nq623, eq623⟩ := hQ623
        have N624 := Fr.app N611 Nq623
        refine gv (fun tQ kQ => st623.trans kQ) ?_
        show G (T623.setTop (mkF me_ 214 #[.val (.int p0), .val (.long p1), .second, .val (.int (1 : Int32)), .val (.int (0 : Int32)), .val (.int (1 : Int32)), .val (.ref b543), .val (.ref b557), .val (.ref b576), .val (.int (1 : Int32)), .val (.int (0 : Int32))] [(.int (0 : Int32))]))
        refine gv (fun tQ kQ => XS.iload X623.here hx rfl (hb hby at_214) rfl kQ) ?_
        show G (T623.setTop (mkF me_ 216 #[.val (.int p0), .val (.long p1), .second, .val (.int (1 : Int32)), .val (.int (0 : Int32)), .val (.int (1 : Int32)), .val (.ref b543), .val (.ref b557), .val (.ref b576), .val (.int (1 : Int32)), .val (.int (0 : Int32))] [(.int (0 : Int32)), (.int (0 : Int32))]))
        refine gv (fun tQ kQ => XS.icmpNo X623.here hx rfl (hb hby at_216) rfl (teq (by decide : (0 : Int32) = (0 : Int32))).2 kQ) ?_
        show G (T623.setTop (mkF me_ 219 #[.val (.int p0), .val (.long p1), .second, .val (.int (1 : Int32)), .val (.int (0 : Int32)), .val (.int (1 : Int32)), .val (.ref b543), .val (.ref b557), .val (.ref b576), .val (.int (1 : Int32)), .val (.int (0 : Int32))] []))
        refine gv (fun tQ kQ => XS.iconst X623.here hx rfl (hb hby at_219) kQ) ?_
        show G (T623.setTop (mkF me_ 220 #[.val (.int p0), .val (.long p1), .second, .val (.int (1 : Int32)), .val (.int (0 : Int32)), .val (.int (1 : Int32)), .val (.ref b543), .val (.ref b557), .val (.ref b576), .val (.int (1 : Int32)), .val (.int (0 : Int32))] [(.int (1 : Int32))]))
        refine gv (fun tQ kQ => XS.goto X623.here hx rfl (pc0 := 220) (pc' := 224) rfl (hb hby at_220) (by decide) (by decide) kQ) ?_
        show G (T623.setTop (mkF me_ 224 #[.val (.int p0), .val (.long p1), .second, .val (.int (1 : Int32)), .val (.int (0 : Int32)), .val (.int (1 : Int32)), .val (.ref b543), .val (.ref b557), .val (.ref b576), .val (.int (1 : Int32)), .val (.int (0 : Int32))] [(.int (1 : Int32))]))
        refine gf _ (own_ret X623 Bd.notSynchronized (v := some (.int (1 : Int32))) (fun h => by rw [Bd.returns] at h; cases h) ?_ (by decide) (by decide) (fun fs hr => retN X623 hx (t := .boolean) Bd.returns (by simp) (hb hby at_224) hr))
        show Q0 Z p0 p1 A_BID A_ASK h0 n0 _ T623.heap _
        rw [eq623]
        exact ⟨rfl, N624⟩
    · refine gv (fun tQ kQ => XS.ifNo X0.here hx rfl (hb hby at_15) rfl ((if0 _ _).trans (feq hc459).1) kQ) ?_
      show G (s₁.setTop (mkF me_ 18 #[.val (.int p0), .val (.long p1), .second, .val (.int (1 : Int32)), .unset, .unset, .unset, .unset, .unset, .unset, .unset] []))
      refine gv (fun tQ kQ => XS.iconst X0.here hx rfl (hb hby at_18) kQ) ?_
      show G (s₁.setTop (mkF me_ 19 #[.val (.int p0), .val (.long p1), .second, .val (.int (1 : Int32)), .unset, .unset, .unset, .unset, .unset, .unset, .unset] [(.int (1 : Int32))]))
      refine gv (fun tQ kQ => XS.goto X0.here hx rfl (pc0 := 19) (pc' := 23) rfl (hb hby at_19) (by decide) (by decide) kQ) ?_
      show G (s₁.setTop (mkF me_ 23 #[.val (.int p0), .val (.long p1), .second, .val (.int (1 : Int32)), .unset, .unset, .unset, .unset, .unset, .unset, .unset] [(.int (1 : Int32))]))
      refine gv (fun tQ kQ => XS.istore X0.here hx rfl (hb hby at_23) rfl (l' := #[.val (.int p0), .val (.long p1), .second, .val (.int (1 : Int32)), .val (.int (1 : Int32)), .unset, .unset, .unset, .unset, .unset, .unset]) rfl kQ) ?_
      show G (s₁.setTop (mkF me_ 25 #[.val (.int p0), .val (.long p1), .second, .val (.int (1 : Int32)), .val (.int (1 : Int32)), .unset, .unset, .unset, .unset, .unset, .unset] []))
      refine gv (fun tQ kQ => XS.iloadN X0.here hx rfl (hb hby at_25) rfl kQ) ?_
      show G (s₁.setTop (mkF me_ 26 #[.val (.int p0), .val (.long p1), .second, .val (.int (1 : Int32)), .val (.int (1 : Int32)), .unset, .unset, .unset, .unset, .unset, .unset] [(.int p0)]))
      refine gv (fun tQ kQ => XS.iconst X0.here hx rfl (hb hby at_26) kQ) ?_
      show G (s₁.setTop (mkF me_ 27 #[.val (.int p0), .val (.long p1), .second, .val (.int (1 : Int32)), .val (.int (1 : Int32)), .unset, .unset, .unset, .unset, .unset, .unset] [(.int (4 : Int32)), (.int p0)]))
      refine gv (fun tQ kQ => XS.iand X0.here hx rfl (hb hby at_27) rfl kQ) ?_
      show G (s₁.setTop (mkF me_ 28 #[.val (.int p0), .val (.long p1), .second, .val (.int (1 : Int32)), .val (.int (1 : Int32)), .unset, .unset, .unset, .unset, .unset, .unset] [(.int (p0 &&& (4 : Int32)))]))
      by_cases hc625 : (p0 &&& (4 : Int32)) = (0 : Int32)
      · refine gv (fun tQ kQ => XS.ifYes X0.here hx rfl (pc0 := 28) (pc' := 35) rfl (hb hby at_28) rfl ((if0 _ _).trans (teq hc625).1) (by decide) (by decide) kQ) ?_
        show G (s₁.setTop (mkF me_ 35 #[.val (.int p0), .val (.long p1), .second, .val (.int (1 : Int32)), .val (.int (1 : Int32)), .unset, .unset, .unset, .unset, .unset, .unset] []))
        refine gv (fun tQ kQ => XS.iconst X0.here hx rfl (hb hby at_35) kQ) ?_
        show G (s₁.setTop (mkF me_ 36 #[.val (.int p0), .val (.long p1), .second, .val (.int (1 : Int32)), .val (.int (1 : Int32)), .unset, .unset, .unset, .unset, .unset, .unset] [(.int (0 : Int32))]))
        refine gv (fun tQ kQ => XS.istore X0.here hx rfl (hb hby at_36) rfl (l' := #[.val (.int p0), .val (.long p1), .second, .val (.int (1 : Int32)), .val (.int (1 : Int32)), .val (.int (0 : Int32)), .unset, .unset, .unset, .unset, .unset]) rfl kQ) ?_
        show G (s₁.setTop (mkF me_ 38 #[.val (.int p0), .val (.long p1), .second, .val (.int (1 : Int32)), .val (.int (1 : Int32)), .val (.int (0 : Int32)), .unset, .unset, .unset, .unset, .unset] []))
        obtain ⟨T626, h626, X626, e626, E626, A626, D626, -, st626⟩ := newO X0 hx hZ hown (hw _ (List.mem_of_getElem? (i := 0) rfl)) (hw _ (List.mem_of_getElem? (i := 1) rfl)) (hw _ (List.mem_of_getElem? (i := 2) rfl)) e0 (g := (mkF me_ 38 #[.val (.int p0), .val (.long p1), .second, .val (.int (1 : Int32)), .val (.int (1 : Int32)), .val (.int (0 : Int32)), .unset, .unset, .unset, .unset, .unset] [])) rfl (hb hby at_38) (by decide) (by decide)
        obtain ⟨b626, g626⟩ : ∃ z, z = h0.size := ⟨_, rfl⟩
        rw [← g626] at A626 D626 st626
        refine gv st626 ?_
        have g627 : n0 ≤ b626 := Nat.le_trans (own_old O0) (Nat.le_of_eq g626.symm)
        have O629 := O0.ext E626
        have f630 : Fld Z h626 b626 "com/example/closemark/closemark/tape/TapeRow" "time" "Ljava/time/Instant;" .null := D626 (Or.inr (hw _ (List.mem_of_getElem? (i := 18) rfl))) (ty := (.object "java/time/Instant")) (by decide)
        have f631 : Fld Z h626 b626 "com/example/closemark/closemark/tape/TapeRow" "symbol" "Ljava/lang/String;" .null := D626 (Or.inr (hw _ (List.mem_of_getElem? (i := 20) rfl))) (ty := (.object "java/lang/String")) (by decide)
        have f632 : Fld Z h626 b626 "com/example/closemark/closemark/tape/TapeRow" "kind" "Lcom/example/closemark/closemark/tape/TapeRow$Kind;" .null := D626 (Or.inr (hw _ (List.mem_of_getElem? (i := 22) rfl))) (ty := (.object "com/example/closemark/closemark/tape/TapeRow$Kind")) (by decide)
        have f633 : Fld Z h626 b626 "com/example/closemark/closemark/tape/TapeRow" "price" "Ljava/math/BigDecimal;" .null := D626 (Or.inr (hw _ (List.mem_of_getElem? (i := 24) rfl))) (ty := (.object "java/math/BigDecimal")) (by decide)
        have f634 : Fld Z h626 b626 "com/example/closemark/closemark/tape/TapeRow" "qty" "J" (.long (0 : Int64)) := D626 (Or.inr (hw _ (List.mem_of_getElem? (i := 26) rfl))) (ty := .long) (by decide)
        show G (T626.setTop (mkF me_ 41 #[.val (.int p0), .val (.long p1), .second, .val (.int (1 : Int32)), .val (.int (1 : Int32)), .val (.int (0 : Int32)), .unset, .unset, .unset, .unset, .unset] [(.ref b626)]))
        refine gv (fun tQ kQ => XS.dup X626.here hx rfl (hb hby at_41) rfl rfl kQ) ?_
        show G (T626.setTop (mkF me_ 42 #[.val (.int p0), .val (.long p1), .second, .val (.int (1 : Int32)), .val (.int (1 : Int32)), .val (.int (0 : Int32)), .unset, .unset, .unset, .unset, .unset] [(.ref b626), (.ref b626)]))
        refine gv (fun tQ kQ => XS.aconstNull X626.here hx rfl (hb hby at_42) kQ) ?_
        show G (T626.setTop (mkF me_ 43 #[.val (.int p0), .val (.long p1), .second, .val (.int (1 : Int32)), .val (.int (1 : Int32)), .val (.int (0 : Int32)), .unset, .unset, .unset, .unset, .unset] [.null, (.ref b626), (.ref b626)]))
        refine gv (fun tQ kQ => XS.aconstNull X626.here hx rfl (hb hby at_43) kQ) ?_
        show G (T626.setTop (mkF me_ 44 #[.val (.int p0), .val (.long p1), .second, .val (.int (1 : Int32)), .val (.int (1 : Int32)), .val (.int (0 : Int32)), .unset, .unset, .unset, .unset, .unset] [.null, .null, (.ref b626), (.ref b626)]))
        obtain ⟨T635, X635, e635, st635⟩ := getS2 X626 hx hZ hown (host := "") (Or.inl (hw _ (List.mem_of_getElem? (i := 3) rfl))) Via.refl e626 (u0.ext O629.2) (g := (mkF me_ 44 #[.val (.int p0), .val (.long p1), .second, .val (.int (1 : Int32)), .val (.int (1 : Int32)), .val (.int (0 : Int32)), .unset, .unset, .unset, .unset, .unset] [.null, .null, (.ref b626), (.ref b626)])) rfl (hb hby at_44)
        refine gv st635 ?_
        show G (T635.setTop (mkF me_ 47 #[.val (.int p0), .val (.long p1), .second, .val (.int (1 : Int32)), .val (.int (1 : Int32)), .val (.int (0 : Int32)), .unset, .unset, .unset, .unset, .unset] [(.ref A_BID), .null, .null, (.ref b626), (.ref b626)]))
        refine gv (fun tQ kQ => XS.aconstNull X635.here hx rfl (hb hby at_47) kQ) ?_
        show G (T635.setTop (mkF me_ 48 #[.val (.int p0), .val (.long p1), .second, .val (.int (1 : Int32)), .val (.int (1 : Int32)), .val (.int (0 : Int32)), .unset, .unset, .unset, .unset, .unset] [.null, (.ref A_BID), .null, .null, (.ref b626), (.ref b626)]))
        refine gv (fun tQ kQ => XS.lloadN X635.here hx rfl (hb hby at_48) rfl kQ) ?_
        show G (T635.setTop (mkF me_ 49 #[.val (.int p0), .val (.long p1), .second, .val (.int (1 : Int32)), .val (.int (1 : Int32)), .val (.int (0 : Int32)), .unset, .unset, .unset, .unset, .unset] [(.long p1), .null, (.ref A_BID), .null, .null, (.ref b626), (.ref b626)]))
        obtain ⟨_, _, ⟨T636, L636, k636, n636⟩, -, X636, ⟨Lc636, hQ636, l636, y636, z636⟩, st636⟩ := X635.specialBack hx (y := (⟨"com/example/closemark/closemark/tape/TapeRow", "<init>", "(Ljava/time/Instant;Ljava/lang/String;Lcom/example/closemark/closemark/tape/TapeRow$Kind;Ljava/math/BigDecimal;J)V"⟩ : MethodName)) rfl hown (mvT hZ (hw _ (List.mem_of_getElem? (i := 6) rfl))) (mvT hZ (hw _ (List.mem_of_getElem? (i := 7) rfl))) (mvT hZ (hw _ (List.mem_of_getElem? (i := 8) rfl))) (by decide) (backOf (W := 1) (rm_tri l Z a0 hw [] b626 A_BID p1 h626 n0 O629 A626 f630 f631 f632 f633 f634 g627) hZ (hw _ (List.mem_of_getElem? (i := 8) rfl)) (hw _ (List.mem_of_getElem? (i := 2) rfl)) (by decide) (by decide)) (g := (mkF me_ 49 #[.val (.int p0), .val (.long p1), .second, .val (.int (1 : Int32)), .val (.int (1 : Int32)), .val (.int (0 : Int32)), .unset, .unset, .unset, .unset, .unset] [(.long p1), .null, (.ref A_BID), .null, .null, (.ref b626), (.ref b626)])) rfl (by rw [hml]; rfl) (Steps.refl _) (a := b626) (argsL := [.null, .null, (.ref A_BID), .null, (.long p1)]) (rest := [(.ref b626)]) (lenOf pd_4 rfl) rfl (by show 2 * 0 + _ ≤ _; exact Nat.le_of_eq rfl) (hb hby at_49) (fun _ _ => ⟨rfl, e635, (by decide : 1 + 0 ≤ _), (by decide : 5 + 0 ≤ _)⟩)
        dsimp only [Pt.U, Pt.locs, Pt.cells, Pt.slots] at X636 l636 y636 z636 st636 hQ636
        subst l636 y636 z636
        obtain ⟨rfl, Nq636, Kq636, w636_0, w636_1⟩ := hQ636
        have N637 := Fr.app N0 Nq636
        obtain ⟨h636, e636⟩ : ∃ z, T636.heap = z := ⟨_, rfl⟩
        rw [e636] at Kq636 w636_0 w636_1
        have f638 : Exa Z h636 b626 "com/example/closemark/closemark/tape/TapeRow" := A626.keep Kq636
        have O639 := O629.keep Kq636 (allS g627 all0)
        refine gv (fun tQ kQ => st636.trans kQ) ?_
        show G (T636.setTop (mkF me_ 52 #[.val (.int p0), .val (.long p1), .second, .val (.int (1 : Int32)), .val (.int (1 : Int32)), .val (.int (0 : Int32)), .unset, .unset, .unset, .unset, .unset] [(.ref b626)]))
        refine gv (fun tQ kQ => XS.astore X636.here hx rfl (hb hby at_52) rfl rfl (l' := #[.val (.int p0), .val (.long p1), .second, .val (.int (1 : Int32)), .val (.int (1 : Int32)), .val (.int (0 : Int32)), .val (.ref b626), .unset, .unset, .unset, .unset]) rfl kQ) ?_
        show G (T636.setTop (mkF me_ 54 #[.val (.int p0), .val (.long p1), .second, .val (.int (1 : Int32)), .val (.int (1 : Int32)), .val (.int (0 : Int32)), .val (.ref b626), .unset, .unset, .unset, .unset] []))
        obtain ⟨T640, h640, X640, e640, E640, A640, D640, -, st640⟩ := newO X636 hx hZ hown (hw _ (List.mem_of_getElem? (i := 0) rfl)) (hw _ (List.mem_of_getElem? (i := 1) rfl)) (hw _ (List.mem_of_getElem? (i := 2) rfl)) e636 (g := (mkF me_ 54 #[.val (.int p0), .val (.long p1), .second, .val (.int (1 : Int32)), .val (.int (1 : Int32)), .val (.int (0 : Int32)), .val (.ref b626), .unset, .unset, .unset, .unset] [])) rfl (hb hby at_54) (by decide) (by decide)
        obtain ⟨b640, g640⟩ : ∃ z, z = h636.size := ⟨_, rfl⟩
        rw [← g640] at A640 D640 st640
        refine gv st640 ?_
        have ne641 : b626 ≠ b640 := Nat.ne_of_lt (Nat.lt_of_lt_of_le w636_0.lt (Nat.le_of_eq g640.symm))
        have g642 : n0 ≤ b640 := Nat.le_trans (own_old O639) (Nat.le_of_eq g640.symm)
        have f644 : Exa Z h640 b626 "com/example/closemark/closemark/tape/TapeRow" := w636_0.ext E640
        have f645 : Fld Z h640 b626 "com/example/closemark/closemark/tape/TapeRow" "kind" "Lcom/example/closemark/closemark/tape/TapeRow$Kind;" (.ref A_BID) := w636_1.ext E640
        have O646 := O639.ext E640
        have f647 : Fld Z h640 b640 "com/example/closemark/closemark/tape/TapeRow" "time" "Ljava/time/Instant;" .null := D640 (Or.inr (hw _ (List.mem_of_getElem? (i := 18) rfl))) (ty := (.object "java/time/Instant")) (by decide)
        have f648 : Fld Z h640 b640 "com/example/closemark/closemark/tape/TapeRow" "symbol" "Ljava/lang/String;" .null := D640 (Or.inr (hw _ (List.mem_of_getElem? (i := 20) rfl))) (ty := (.object "java/lang/String")) (by decide)
        have f649 : Fld Z h640 b640 "com/example/closemark/closemark/tape/TapeRow" "kind" "Lcom/example/closemark/closemark/tape/TapeRow$Kind;" .null := D640 (Or.inr (hw _ (List.mem_of_getElem? (i := 22) rfl))) (ty := (.object "com/example/closemark/closemark/tape/TapeRow$Kind")) (by decide)
        have f650 : Fld Z h640 b640 "com/example/closemark/closemark/tape/TapeRow" "price" "Ljava/math/BigDecimal;" .null := D640 (Or.inr (hw _ (List.mem_of_getElem? (i := 24) rfl))) (ty := (.object "java/math/BigDecimal")) (by decide)
        have f651 : Fld Z h640 b640 "com/example/closemark/closemark/tape/TapeRow" "qty" "J" (.long (0 : Int64)) := D640 (Or.inr (hw _ (List.mem_of_getElem? (i := 26) rfl))) (ty := .long) (by decide)
        show G (T640.setTop (mkF me_ 57 #[.val (.int p0), .val (.long p1), .second, .val (.int (1 : Int32)), .val (.int (1 : Int32)), .val (.int (0 : Int32)), .val (.ref b626), .unset, .unset, .unset, .unset] [(.ref b640)]))
        refine gv (fun tQ kQ => XS.dup X640.here hx rfl (hb hby at_57) rfl rfl kQ) ?_
        show G (T640.setTop (mkF me_ 58 #[.val (.int p0), .val (.long p1), .second, .val (.int (1 : Int32)), .val (.int (1 : Int32)), .val (.int (0 : Int32)), .val (.ref b626), .unset, .unset, .unset, .unset] [(.ref b640), (.ref b640)]))
        refine gv (fun tQ kQ => XS.aconstNull X640.here hx rfl (hb hby at_58) kQ) ?_
        show G (T640.setTop (mkF me_ 59 #[.val (.int p0), .val (.long p1), .second, .val (.int (1 : Int32)), .val (.int (1 : Int32)), .val (.int (0 : Int32)), .val (.ref b626), .unset, .unset, .unset, .unset] [.null, (.ref b640), (.ref b640)]))
        refine gv (fun tQ kQ => XS.aconstNull X640.here hx rfl (hb hby at_59) kQ) ?_
        show G (T640.setTop (mkF me_ 60 #[.val (.int p0), .val (.long p1), .second, .val (.int (1 : Int32)), .val (.int (1 : Int32)), .val (.int (0 : Int32)), .val (.ref b626), .unset, .unset, .unset, .unset] [.null, .null, (.ref b640), (.ref b640)]))
        obtain ⟨T652, X652, e652, st652⟩ := getS2 X640 hx hZ hown (host := "") (Or.inl (hw _ (List.mem_of_getElem? (i := 27) rfl))) Via.refl e640 (u1.ext O646.2) (g := (mkF me_ 60 #[.val (.int p0), .val (.long p1), .second, .val (.int (1 : Int32)), .val (.int (1 : Int32)), .val (.int (0 : Int32)), .val (.ref b626), .unset, .unset, .unset, .unset] [.null, .null, (.ref b640), (.ref b640)])) rfl (hb hby at_60)
        refine gv st652 ?_
        show G (T652.setTop (mkF me_ 63 #[.val (.int p0), .val (.long p1), .second, .val (.int (1 : Int32)), .val (.int (1 : Int32)), .val (.int (0 : Int32)), .val (.ref b626), .unset, .unset, .unset, .unset] [(.ref A_ASK), .null, .null, (.ref b640), (.ref b640)]))
        refine gv (fun tQ kQ => XS.aconstNull X652.here hx rfl (hb hby at_63) kQ) ?_
        show G (T652.setTop (mkF me_ 64 #[.val (.int p0), .val (.long p1), .second, .val (.int (1 : Int32)), .val (.int (1 : Int32)), .val (.int (0 : Int32)), .val (.ref b626), .unset, .unset, .unset, .unset] [.null, (.ref A_ASK), .null, .null, (.ref b640), (.ref b640)]))
        refine gv (fun tQ kQ => XS.lloadN X652.here hx rfl (hb hby at_64) rfl kQ) ?_
        show G (T652.setTop (mkF me_ 65 #[.val (.int p0), .val (.long p1), .second, .val (.int (1 : Int32)), .val (.int (1 : Int32)), .val (.int (0 : Int32)), .val (.ref b626), .unset, .unset, .unset, .unset] [(.long p1), .null, (.ref A_ASK), .null, .null, (.ref b640), (.ref b640)]))
        obtain ⟨_, _, ⟨T653, L653, k653, n653⟩, -, X653, ⟨Lc653, hQ653, l653, y653, z653⟩, st653⟩ := X652.specialBack hx (y := (⟨"com/example/closemark/closemark/tape/TapeRow", "<init>", "(Ljava/time/Instant;Ljava/lang/String;Lcom/example/closemark/closemark/tape/TapeRow$Kind;Ljava/math/BigDecimal;J)V"⟩ : MethodName)) rfl hown (mvT hZ (hw _ (List.mem_of_getElem? (i := 6) rfl))) (mvT hZ (hw _ (List.mem_of_getElem? (i := 7) rfl))) (mvT hZ (hw _ (List.mem_of_getElem? (i := 8) rfl))) (by decide) (backOf (W := 1) (rm_tri l Z a0 hw [] b640 A_ASK p1 h640 n0 O646 A640 f647 f648 f649 f650 f651 g642) hZ (hw _ (List.mem_of_getElem? (i := 8) rfl)) (hw _ (List.mem_of_getElem? (i := 2) rfl)) (by decide) (by decide)) (g := (mkF me_ 65 #[.val (.int p0), .val (.long p1), .second, .val (.int (1 : Int32)), .val (.int (1 : Int32)), .val (.int (0 : Int32)), .val (.ref b626), .unset, .unset, .unset, .unset] [(.long p1), .null, (.ref A_ASK), .null, .null, (.ref b640), (.ref b640)])) rfl (by rw [hml]; rfl) (Steps.refl _) (a := b640) (argsL := [.null, .null, (.ref A_ASK), .null, (.long p1)]) (rest := [(.ref b640)]) (lenOf pd_4 rfl) rfl (by show 2 * 0 + _ ≤ _; exact Nat.le_of_eq rfl) (hb hby at_65) (fun _ _ => ⟨rfl, e652, (by decide : 2 + 0 ≤ _), (by decide : 10 + 0 ≤ _)⟩)
        dsimp only [Pt.U, Pt.locs, Pt.cells, Pt.slots] at X653 l653 y653 z653 st653 hQ653
        subst l653 y653 z653
        obtain ⟨rfl, Nq653, Kq653, w653_0, w653_1⟩ := hQ653
        have N654 := Fr.app N637 Nq653
        obtain ⟨h653, e653⟩ : ∃ z, T653.heap = z := ⟨_, rfl⟩
        rw [e653] at Kq653 w653_0 w653_1
        have f655 : Exa Z h653 b626 "com/example/closemark/closemark/tape/TapeRow" := f644.keep Kq653
        have f656 : Fld Z h653 b626 "com/example/closemark/closemark/tape/TapeRow" "kind" "Lcom/example/closemark/closemark/tape/TapeRow$Kind;" (.ref A_BID) := f645.keep Kq653 (ninS ne641 nin0)
        have f657 : Exa Z h653 b640 "com/example/closemark/closemark/tape/TapeRow" := A640.keep Kq653
        have O658 := O646.keep Kq653 (allS g642 all0)
        refine gv (fun tQ kQ => st653.trans kQ) ?_
        show G (T653.setTop (mkF me_ 68 #[.val (.int p0), .val (.long p1), .second, .val (.int (1 : Int32)), .val (.int (1 : Int32)), .val (.int (0 : Int32)), .val (.ref b626), .unset, .unset, .unset, .unset] [(.ref b640)]))
        refine gv (fun tQ kQ => XS.astore X653.here hx rfl (hb hby at_68) rfl rfl (l' := #[.val (.int p0), .val (.long p1), .second, .val (.int (1 : Int32)), .val (.int (1 : Int32)), .val (.int (0 : Int32)), .val (.ref b626), .val (.ref b640), .unset, .unset, .unset]) rfl kQ) ?_
        show G (T653.setTop (mkF me_ 70 #[.val (.int p0), .val (.long p1), .second, .val (.int (1 : Int32)), .val (.int (1 : Int32)), .val (.int (0 : Int32)), .val (.ref b626), .val (.ref b640), .unset, .unset, .unset] []))
        obtain ⟨T659, h659, X659, e659, E659, A659, D659, -, st659⟩ := newO X653 hx hZ hown (hw _ (List.mem_of_getElem? (i := 29) rfl)) (hw _ (List.mem_of_getElem? (i := 30) rfl)) (hw _ (List.mem_of_getElem? (i := 31) rfl)) e653 (g := (mkF me_ 70 #[.val (.int p0), .val (.long p1), .second, .val (.int (1 : Int32)), .val (.int (1 : Int32)), .val (.int (0 : Int32)), .val (.ref b626), .val (.ref b640), .unset, .unset, .unset] [])) rfl (hb hby at_70) (by decide) (by decide)
        obtain ⟨b659, g659⟩ : ∃ z, z = h653.size := ⟨_, rfl⟩
        rw [← g659] at A659 D659 st659
        refine gv st659 ?_
        have ne660 : b626 ≠ b659 := Nat.ne_of_lt (Nat.lt_of_lt_of_le f655.lt (Nat.le_of_eq g659.symm))
        have ne661 : b640 ≠ b659 := Nat.ne_of_lt (Nat.lt_of_lt_of_le w653_0.lt (Nat.le_of_eq g659.symm))
        have g662 : n0 ≤ b659 := Nat.le_trans (own_old O658) (Nat.le_of_eq g659.symm)
        have f664 : Exa Z h659 b626 "com/example/closemark/closemark/tape/TapeRow" := f655.ext E659
        have f665 : Fld Z h659 b626 "com/example/closemark/closemark/tape/TapeRow" "kind" "Lcom/example/closemark/closemark/tape/TapeRow$Kind;" (.ref A_BID) := f656.ext E659
        have f666 : Exa Z h659 b640 "com/example/closemark/closemark/tape/TapeRow" := w653_0.ext E659
        have f667 : Fld Z h659 b640 "com/example/closemark/closemark/tape/TapeRow" "kind" "Lcom/example/closemark/closemark/tape/TapeRow$Kind;" (.ref A_ASK) := w653_1.ext E659
        have O668 := O658.ext E659
        have f669 : Fld Z h659 b659 "com/example/closemark/closemark/prices/StandingQuotes" "bid" "Lcom/example/closemark/closemark/prices/LatestRow;" .null := D659 (Or.inr (hw _ (List.mem_of_getElem? (i := 44) rfl))) (ty := (.object "com/example/closemark/closemark/prices/LatestRow")) (by decide)
        have f670 : Fld Z h659 b659 "com/example/closemark/closemark/prices/StandingQuotes" "ask" "Lcom/example/closemark/closemark/prices/LatestRow;" .null := D659 (Or.inr (hw _ (List.mem_of_getElem? (i := 46) rfl))) (ty := (.object "com/example/closemark/closemark/prices/LatestRow")) (by decide)
        show G (T659.setTop (mkF me_ 73 #[.val (.int p0), .val (.long p1), .second, .val (.int (1 : Int32)), .val (.int (1 : Int32)), .val (.int (0 : Int32)), .val (.ref b626), .val (.ref b640), .unset, .unset, .unset] [(.ref b659)]))
        refine gv (fun tQ kQ => XS.dup X659.here hx rfl (hb hby at_73) rfl rfl kQ) ?_
        show G (T659.setTop (mkF me_ 74 #[.val (.int p0), .val (.long p1), .second, .val (.int (1 : Int32)), .val (.int (1 : Int32)), .val (.int (0 : Int32)), .val (.ref b626), .val (.ref b640), .unset, .unset, .unset] [(.ref b659), (.ref b659)]))
        obtain ⟨_, _, ⟨T671, L671, k671, n671⟩, -, X671, ⟨Lc671, hQ671, l671, y671, z671⟩, st671⟩ := X659.specialBack hx (y := (⟨"com/example/closemark/closemark/prices/StandingQuotes", "<init>", "()V"⟩ : MethodName)) rfl hown (mvT hZ (hw _ (List.mem_of_getElem? (i := 32) rfl))) (mvT hZ (hw _ (List.mem_of_getElem? (i := 33) rfl))) (mvT hZ (hw _ (List.mem_of_getElem? (i := 34) rfl))) (by decide) (backOf (W := 1) (rm_sqi l Z a0 hw [] b659 h659 n0 O668 A659 f669 f670 g662) hZ (hw _ (List.mem_of_getElem? (i := 34) rfl)) (hw _ (List.mem_of_getElem? (i := 31) rfl)) (by decide) (by decide)) (g := (mkF me_ 74 #[.val (.int p0), .val (.long p1), .second, .val (.int (1 : Int32)), .val (.int (1 : Int32)), .val (.int (0 : Int32)), .val (.ref b626), .val (.ref b640), .unset, .unset, .unset] [(.ref b659), (.ref b659)])) rfl (by rw [hml]; rfl) (Steps.refl _) (a := b659) (argsL := []) (rest := [(.ref b659)]) (lenOf pd_0 rfl) rfl (by show 2 * 0 + _ ≤ _; exact Nat.le_of_eq rfl) (hb hby at_74) (fun _ _ => ⟨rfl, e659, (by decide : 3 + 2 ≤ _), (by decide : 12 + 2 ≤ _)⟩)
        dsimp only [Pt.U, Pt.locs, Pt.cells, Pt.slots] at X671 l671 y671 z671 st671 hQ671
        subst l671 y671 z671
        obtain ⟨x_671, y_671, rfl, Nq671, Kq671, w671_0, w671_1, w671_2, w671_3, w671_4, w671_5, w671_6, w671_7, w671_8, w671_9⟩ := hQ671
        have N672 := Fr.app N654 Nq671
        obtain ⟨h671, e671⟩ : ∃ z, T671.heap = z := ⟨_, rfl⟩
        rw [e671] at Kq671 w671_3 w671_4 w671_5 w671_6 w671_7 w671_8 w671_9
        have ne673 : b626 ≠ x_671 := Nat.ne_of_lt (Nat.lt_of_lt_of_le f664.lt w671_0)
        have ne674 : b640 ≠ x_671 := Nat.ne_of_lt (Nat.lt_of_lt_of_le f666.lt w671_0)
        have ne675 : b659 ≠ x_671 := Nat.ne_of_lt (Nat.lt_of_lt_of_le A659.lt w671_0)
        have g676 : n0 ≤ x_671 := Nat.le_trans (own_old O668) w671_0
        have ne678 : b626 ≠ y_671 := Nat.ne_of_lt (Nat.lt_of_lt_of_le f664.lt w671_1)
        have ne679 : b640 ≠ y_671 := Nat.ne_of_lt (Nat.lt_of_lt_of_le f666.lt w671_1)
        have ne680 : b659 ≠ y_671 := Nat.ne_of_lt (Nat.lt_of_lt_of_le A659.lt w671_1)
        have g681 : n0 ≤ y_671 := Nat.le_trans (own_old O668) w671_1
        have f683 : Exa Z h671 b626 "com/example/closemark/closemark/tape/TapeRow" := f664.keep Kq671
        have f684 : Fld Z h671 b626 "com/example/closemark/closemark/tape/TapeRow" "kind" "Lcom/example/closemark/closemark/tape/TapeRow$Kind;" (.ref A_BID) := f665.keep Kq671 (ninS ne660 nin0)
        have f685 : Exa Z h671 b640 "com/example/closemark/closemark/tape/TapeRow" := f666.keep Kq671
        have f686 : Fld Z h671 b640 "com/example/closemark/closemark/tape/TapeRow" "kind" "Lcom/example/closemark/closemark/tape/TapeRow$Kind;" (.ref A_ASK) := f667.keep Kq671 (ninS ne661 nin0)
        have f687 : Exa Z h671 b659 "com/example/closemark/closemark/prices/StandingQuotes" := A659.keep Kq671
        have O688 := O668.keep Kq671 (allS g662 all0)
        refine gv (fun tQ kQ => st671.trans kQ) ?_
        show G (T671.setTop (mkF me_ 77 #[.val (.int p0), .val (.long p1), .second, .val (.int (1 : Int32)), .val (.int (1 : Int32)), .val (.int (0 : Int32)), .val (.ref b626), .val (.ref b640), .unset, .unset, .unset] [(.ref b659)]))
        refine gv (fun tQ kQ => XS.astore X671.here hx rfl (hb hby at_77) rfl rfl (l' := #[.val (.int p0), .val (.long p1), .second, .val (.int (1 : Int32)), .val (.int (1 : Int32)), .val (.int (0 : Int32)), .val (.ref b626), .val (.ref b640), .val (.ref b659), .unset, .unset]) rfl kQ) ?_
        show G (T671.setTop (mkF me_ 79 #[.val (.int p0), .val (.long p1), .second, .val (.int (1 : Int32)), .val (.int (1 : Int32)), .val (.int (0 : Int32)), .val (.ref b626), .val (.ref b640), .val (.ref b659), .unset, .unset] []))
        refine gv (fun tQ kQ => XS.aload X671.here hx rfl (hb hby at_79) rfl rfl kQ) ?_
        show G (T671.setTop (mkF me_ 81 #[.val (.int p0), .val (.long p1), .second, .val (.int (1 : Int32)), .val (.int (1 : Int32)), .val (.int (0 : Int32)), .val (.ref b626), .val (.ref b640), .val (.ref b659), .unset, .unset] [(.ref b659)]))
        obtain ⟨cq689, kq689, q689a, q689b, q689c⟩ := isOf hZ e671 w671_3
        obtain ⟨_, _, ⟨T689, L689, k689, n689⟩, -, X689, ⟨Lc689, hQ689, l689, y689, z689⟩, st689⟩ := X671.virtualBack hx (y := (⟨"com/example/closemark/closemark/prices/StandingQuotes", "hasBidAndAsk", "()Z"⟩ : MethodName)) (z := (⟨"com/example/closemark/closemark/prices/StandingQuotes", "hasBidAndAsk", "()Z"⟩ : MethodName)) hown (mvT hZ (hw _ (List.mem_of_getElem? (i := 47) rfl))) (mvT hZ (hw _ (List.mem_of_getElem? (i := 48) rfl))) (notFace_of_selects (args := #[]) (mvT hZ (hw _ (List.mem_of_getElem? (i := 50) rfl)))) (mvT hZ (hw _ (List.mem_of_getElem? (i := 50) rfl))) (mvT hZ (hw _ (List.mem_of_getElem? (i := 49) rfl))) (by decide) (backOf (W := 0) (rm_hb0 l Z a0 hw [] b659 x_671 h671 n0 O688 w671_4 w671_6 w671_8) hZ (hw _ (List.mem_of_getElem? (i := 51) rfl)) (hw _ (List.mem_of_getElem? (i := 31) rfl)) (by decide) (by decide)) q689a q689c (g := (mkF me_ 81 #[.val (.int p0), .val (.long p1), .second, .val (.int (1 : Int32)), .val (.int (1 : Int32)), .val (.int (0 : Int32)), .val (.ref b626), .val (.ref b640), .val (.ref b659), .unset, .unset] [(.ref b659)])) rfl (by rw [hml]; rfl) (Steps.refl _) (argsL := []) (rest := []) (lenOf pd_5 rfl) rfl (by show 2 * 0 + _ ≤ _; exact Nat.le_of_eq rfl) (hb hby at_81) (fun _ _ => ⟨rfl, e671, (by decide : 5 + 0 ≤ _), (by decide : 14 + 0 ≤ _)⟩)
        dsimp only [Pt.U, Pt.locs, Pt.cells, Pt.slots] at X689 l689 y689 z689 st689 hQ689
        subst l689 y689 z689
        obtain ⟨rfl, Nq689, eq689⟩ := hQ689
        have N690 := Fr.app N672 Nq689
        refine gv (fun tQ kQ => st689.trans kQ) ?_
        show G (T689.setTop (mkF me_ 84 #[.val (.int p0), .val (.long p1), .second, .val (.int (1 : Int32)), .val (.int (1 : Int32)), .val (.int (0 : Int32)), .val (.ref b626), .val (.ref b640), .val (.ref b659), .unset, .unset] [(.int (0 : Int32))]))
        refine gv (fun tQ kQ => XS.ifNo X689.here hx rfl (hb hby at_84) rfl ((if0 _ _).trans (teq (by decide : (0 : Int32) = (0 : Int32))).2) kQ) ?_
        show G (T689.setTop (mkF me_ 87 #[.val (.int p0), .val (.long p1), .second, .val (.int (1 : Int32)), .val (.int (1 : Int32)), .val (.int (0 : Int32)), .val (.ref b626), .val (.ref b640), .val (.ref b659), .unset, .unset] []))
        refine gv (fun tQ kQ => XS.iconst X689.here hx rfl (hb hby at_87) kQ) ?_
        show G (T689.setTop (mkF me_ 88 #[.val (.int p0), .val (.long p1), .second, .val (.int (1 : Int32)), .val (.int (1 : Int32)), .val (.int (0 : Int32)), .val (.ref b626), .val (.ref b640), .val (.ref b659), .unset, .unset] [(.int (1 : Int32))]))
        refine gv (fun tQ kQ => XS.goto X689.here hx rfl (pc0 := 88) (pc' := 92) rfl (hb hby at_88) (by decide) (by decide) kQ) ?_
        show G (T689.setTop (mkF me_ 92 #[.val (.int p0), .val (.long p1), .second, .val (.int (1 : Int32)), .val (.int (1 : Int32)), .val (.int (0 : Int32)), .val (.ref b626), .val (.ref b640), .val (.ref b659), .unset, .unset] [(.int (1 : Int32))]))
        refine gv (fun tQ kQ => XS.istore X689.here hx rfl (hb hby at_92) rfl (l' := #[.val (.int p0), .val (.long p1), .second, .val (.int (1 : Int32)), .val (.int (1 : Int32)), .val (.int (0 : Int32)), .val (.ref b626), .val (.ref b640), .val (.ref b659), .val (.int (1 : Int32)), .unset]) rfl kQ) ?_
        show G (T689.setTop (mkF me_ 94 #[.val (.int p0), .val (.long p1), .second, .val (.int (1 : Int32)), .val (.int (1 : Int32)), .val (.int (0 : Int32)), .val (.ref b626), .val (.ref b640), .val (.ref b659), .val (.int (1 : Int32)), .unset] []))
        refine gv (fun tQ kQ => XS.iload X689.here hx rfl (hb hby at_94) rfl kQ) ?_
        show G (T689.setTop (mkF me_ 96 #[.val (.int p0), .val (.long p1), .second, .val (.int (1 : Int32)), .val (.int (1 : Int32)), .val (.int (0 : Int32)), .val (.ref b626), .val (.ref b640), .val (.ref b659), .val (.int (1 : Int32)), .unset] [(.int (0 : Int32))]))
        refine gv (fun tQ kQ => XS.ifYes X689.here hx rfl (pc0 := 96) (pc' := 145) rfl (hb hby at_96) rfl ((if0 _ _).trans (teq (by decide : (0 : Int32) = (0 : Int32))).1) (by decide) (by decide) kQ) ?_
        show G (T689.setTop (mkF me_ 145 #[.val (.int p0), .val (.long p1), .second, .val (.int (1 : Int32)), .val (.int (1 : Int32)), .val (.int (0 : Int32)), .val (.ref b626), .val (.ref b640), .val (.ref b659), .val (.int (1 : Int32)), .unset] []))
        refine gv (fun tQ kQ => XS.iloadN X689.here hx rfl (hb hby at_145) rfl kQ) ?_
        show G (T689.setTop (mkF me_ 146 #[.val (.int p0), .val (.long p1), .second, .val (.int (1 : Int32)), .val (.int (1 : Int32)), .val (.int (0 : Int32)), .val (.ref b626), .val (.ref b640), .val (.ref b659), .val (.int (1 : Int32)), .unset] [(.int (1 : Int32))]))
        refine gv (fun tQ kQ => XS.ifNo X689.here hx rfl (hb hby at_146) rfl ((if0 _ _).trans (feq (by decide : ¬ ((1 : Int32) = (0 : Int32)))).1) kQ) ?_
        show G (T689.setTop (mkF me_ 149 #[.val (.int p0), .val (.long p1), .second, .val (.int (1 : Int32)), .val (.int (1 : Int32)), .val (.int (0 : Int32)), .val (.ref b626), .val (.ref b640), .val (.ref b659), .val (.int (1 : Int32)), .unset] []))
        refine gv (fun tQ kQ => XS.aload X689.here hx rfl (hb hby at_149) rfl rfl kQ) ?_
        show G (T689.setTop (mkF me_ 151 #[.val (.int p0), .val (.long p1), .second, .val (.int (1 : Int32)), .val (.int (1 : Int32)), .val (.int (0 : Int32)), .val (.ref b626), .val (.ref b640), .val (.ref b659), .val (.int (1 : Int32)), .unset] [(.ref b659)]))
        refine gv (fun tQ kQ => XS.aload X689.here hx rfl (hb hby at_151) rfl rfl kQ) ?_
        show G (T689.setTop (mkF me_ 153 #[.val (.int p0), .val (.long p1), .second, .val (.int (1 : Int32)), .val (.int (1 : Int32)), .val (.int (0 : Int32)), .val (.ref b626), .val (.ref b640), .val (.ref b659), .val (.int (1 : Int32)), .unset] [(.ref b626), (.ref b659)]))
        obtain ⟨cq691, kq691, q691a, q691b, q691c⟩ := isOf hZ eq689 w671_3
        obtain ⟨_, _, ⟨T691, L691, k691, n691⟩, -, X691, ⟨Lc691, hQ691, l691, y691, z691⟩, st691⟩ := X689.virtualBack hx (y := (⟨"com/example/closemark/closemark/prices/StandingQuotes", "add", "(Lcom/example/closemark/closemark/tape/TapeRow;)V"⟩ : MethodName)) (z := (⟨"com/example/closemark/closemark/prices/StandingQuotes", "add", "(Lcom/example/closemark/closemark/tape/TapeRow;)V"⟩ : MethodName)) hown (mvT hZ (hw _ (List.mem_of_getElem? (i := 59) rfl))) (mvT hZ (hw _ (List.mem_of_getElem? (i := 60) rfl))) (notFace_of_selects (args := #[]) (mvT hZ (hw _ (List.mem_of_getElem? (i := 62) rfl)))) (mvT hZ (hw _ (List.mem_of_getElem? (i := 62) rfl))) (mvT hZ (hw _ (List.mem_of_getElem? (i := 61) rfl))) (by decide) (backOf (W := 0) (rm_addB l Z a0 hw [] b659 b626 x_671 A_BID h671 n0 O688 f683 u0 f684 w671_4 w671_6 w671_8 g676) hZ (hw _ (List.mem_of_getElem? (i := 63) rfl)) (hw _ (List.mem_of_getElem? (i := 31) rfl)) (by decide) (by decide)) q691a q691c (g := (mkF me_ 153 #[.val (.int p0), .val (.long p1), .second, .val (.int (1 : Int32)), .val (.int (1 : Int32)), .val (.int (0 : Int32)), .val (.ref b626), .val (.ref b640), .val (.ref b659), .val (.int (1 : Int32)), .unset] [(.ref b626), (.ref b659)])) rfl (by rw [hml]; rfl) (Steps.refl _) (argsL := [(.ref b626)]) (rest := []) (lenOf pd_3 rfl) rfl (by show 2 * 0 + _ ≤ _; exact Nat.le_of_eq rfl) (hb hby at_153) (fun _ _ => ⟨rfl, eq689, (by decide : 5 + 0 ≤ _), (by decide : 14 + 0 ≤ _)⟩)
        dsimp only [Pt.U, Pt.locs, Pt.cells, Pt.slots] at X691 l691 y691 z691 st691 hQ691
        subst l691 y691 z691
        obtain ⟨rfl, Nq691, Kq691, w691_0, w691_1⟩ := hQ691
        have N692 := Fr.app N690 Nq691
        obtain ⟨h691, e691⟩ : ∃ z, T691.heap = z := ⟨_, rfl⟩
        rw [e691] at Kq691 w691_0 w691_1
        have f693 : Exa Z h691 b626 "com/example/closemark/closemark/tape/TapeRow" := f683.keep Kq691
        have f694 : Fld Z h691 b626 "com/example/closemark/closemark/tape/TapeRow" "kind" "Lcom/example/closemark/closemark/tape/TapeRow$Kind;" (.ref A_BID) := f684.keep Kq691 (ninS ne673 nin0)
        have f695 : Exa Z h691 b640 "com/example/closemark/closemark/tape/TapeRow" := f685.keep Kq691
        have f696 : Fld Z h691 b640 "com/example/closemark/closemark/tape/TapeRow" "kind" "Lcom/example/closemark/closemark/tape/TapeRow$Kind;" (.ref A_ASK) := f686.keep Kq691 (ninS ne674 nin0)
        have f697 : Exa Z h691 b659 "com/example/closemark/closemark/prices/StandingQuotes" := w671_3.keep Kq691
        have f698 : Fld Z h691 b659 "com/example/closemark/closemark/prices/StandingQuotes" "bid" "Lcom/example/closemark/closemark/prices/LatestRow;" (.ref x_671) := w671_4.keep Kq691 (ninS ne675 nin0)
        have f699 : Fld Z h691 b659 "com/example/closemark/closemark/prices/StandingQuotes" "ask" "Lcom/example/closemark/closemark/prices/LatestRow;" (.ref y_671) := w671_5.keep Kq691 (ninS ne675 nin0)
        have f700 : Exa Z h691 x_671 "com/example/closemark/closemark/prices/LatestRow" := w671_6.keep Kq691
        have f701 : Exa Z h691 y_671 "com/example/closemark/closemark/prices/LatestRow" := w671_7.keep Kq691
        have f702 : Fld Z h691 y_671 "com/example/closemark/closemark/prices/LatestRow" "row" "Lcom/example/closemark/closemark/tape/TapeRow;" .null := w671_9.keep Kq691 (ninS (Ne.symm w671_2) nin0)
        have O703 := O688.keep Kq691 (allS g676 all0)
        refine gv (fun tQ kQ => st691.trans kQ) ?_
        show G (T691.setTop (mkF me_ 156 #[.val (.int p0), .val (.long p1), .second, .val (.int (1 : Int32)), .val (.int (1 : Int32)), .val (.int (0 : Int32)), .val (.ref b626), .val (.ref b640), .val (.ref b659), .val (.int (1 : Int32)), .unset] []))
        refine gv (fun tQ kQ => XS.iload X691.here hx rfl (hb hby at_156) rfl kQ) ?_
        show G (T691.setTop (mkF me_ 158 #[.val (.int p0), .val (.long p1), .second, .val (.int (1 : Int32)), .val (.int (1 : Int32)), .val (.int (0 : Int32)), .val (.ref b626), .val (.ref b640), .val (.ref b659), .val (.int (1 : Int32)), .unset] [(.int (1 : Int32))]))
        refine gv (fun tQ kQ => XS.ifNo X691.here hx rfl (hb hby at_158) rfl ((if0 _ _).trans (feq (by decide : ¬ ((1 : Int32) = (0 : Int32)))).1) kQ) ?_
        show G (T691.setTop (mkF me_ 161 #[.val (.int p0), .val (.long p1), .second, .val (.int (1 : Int32)), .val (.int (1 : Int32)), .val (.int (0 : Int32)), .val (.ref b626), .val (.ref b640), .val (.ref b659), .val (.int (1 : Int32)), .unset] []))
        refine gv (fun tQ kQ => XS.aload X691.here hx rfl (hb hby at_161) rfl rfl kQ) ?_
        show G (T691.setTop (mkF me_ 163 #[.val (.int p0), .val (.long p1), .second, .val (.int (1 : Int32)), .val (.int (1 : Int32)), .val (.int (0 : Int32)), .val (.ref b626), .val (.ref b640), .val (.ref b659), .val (.int (1 : Int32)), .unset] [(.ref b659)]))
        obtain ⟨cq704, kq704, q704a, q704b, q704c⟩ := isOf hZ e691 f697
        obtain ⟨_, _, ⟨T704, L704, k704, n704⟩, -, X704, ⟨Lc704, hQ704, l704, y704, z704⟩, st704⟩ := X691.virtualBack hx (y := (⟨"com/example/closemark/closemark/prices/StandingQuotes", "hasBidAndAsk", "()Z"⟩ : MethodName)) (z := (⟨"com/example/closemark/closemark/prices/StandingQuotes", "hasBidAndAsk", "()Z"⟩ : MethodName)) hown (mvT hZ (hw _ (List.mem_of_getElem? (i := 47) rfl))) (mvT hZ (hw _ (List.mem_of_getElem? (i := 48) rfl))) (notFace_of_selects (args := #[]) (mvT hZ (hw _ (List.mem_of_getElem? (i := 50) rfl)))) (mvT hZ (hw _ (List.mem_of_getElem? (i := 50) rfl))) (mvT hZ (hw _ (List.mem_of_getElem? (i := 49) rfl))) (by decide) (backOf (W := 0) (rm_hb1 l Z a0 hw [] b659 x_671 y_671 b626 h691 n0 O703 f698 w691_0 w691_1 f699 f701 f702) hZ (hw _ (List.mem_of_getElem? (i := 51) rfl)) (hw _ (List.mem_of_getElem? (i := 31) rfl)) (by decide) (by decide)) q704a q704c (g := (mkF me_ 163 #[.val (.int p0), .val (.long p1), .second, .val (.int (1 : Int32)), .val (.int (1 : Int32)), .val (.int (0 : Int32)), .val (.ref b626), .val (.ref b640), .val (.ref b659), .val (.int (1 : Int32)), .unset] [(.ref b659)])) rfl (by rw [hml]; rfl) (Steps.refl _) (argsL := []) (rest := []) (lenOf pd_5 rfl) rfl (by show 2 * 0 + _ ≤ _; exact Nat.le_of_eq rfl) (hb hby at_163) (fun _ _ => ⟨rfl, e691, (by decide : 5 + 0 ≤ _), (by decide : 14 + 0 ≤ _)⟩)
        dsimp only [Pt.U, Pt.locs, Pt.cells, Pt.slots] at X704 l704 y704 z704 st704 hQ704
        subst l704 y704 z704
        obtain ⟨rfl, Nq704, eq704⟩ := hQ704
        have N705 := Fr.app N692 Nq704
        refine gv (fun tQ kQ => st704.trans kQ) ?_
        show G (T704.setTop (mkF me_ 166 #[.val (.int p0), .val (.long p1), .second, .val (.int (1 : Int32)), .val (.int (1 : Int32)), .val (.int (0 : Int32)), .val (.ref b626), .val (.ref b640), .val (.ref b659), .val (.int (1 : Int32)), .unset] [(.int (0 : Int32))]))
        refine gv (fun tQ kQ => XS.ifNo X704.here hx rfl (hb hby at_166) rfl ((if0 _ _).trans (teq (by decide : (0 : Int32) = (0 : Int32))).2) kQ) ?_
        show G (T704.setTop (mkF me_ 169 #[.val (.int p0), .val (.long p1), .second, .val (.int (1 : Int32)), .val (.int (1 : Int32)), .val (.int (0 : Int32)), .val (.ref b626), .val (.ref b640), .val (.ref b659), .val (.int (1 : Int32)), .unset] []))
        refine gv (fun tQ kQ => XS.iconst X704.here hx rfl (hb hby at_169) kQ) ?_
        show G (T704.setTop (mkF me_ 170 #[.val (.int p0), .val (.long p1), .second, .val (.int (1 : Int32)), .val (.int (1 : Int32)), .val (.int (0 : Int32)), .val (.ref b626), .val (.ref b640), .val (.ref b659), .val (.int (1 : Int32)), .unset] [(.int (1 : Int32))]))
        refine gv (fun tQ kQ => XS.goto X704.here hx rfl (pc0 := 170) (pc' := 174) rfl (hb hby at_170) (by decide) (by decide) kQ) ?_
        show G (T704.setTop (mkF me_ 174 #[.val (.int p0), .val (.long p1), .second, .val (.int (1 : Int32)), .val (.int (1 : Int32)), .val (.int (0 : Int32)), .val (.ref b626), .val (.ref b640), .val (.ref b659), .val (.int (1 : Int32)), .unset] [(.int (1 : Int32))]))
        refine gv (fun tQ kQ => XS.istore X704.here hx rfl (hb hby at_174) rfl (l' := #[.val (.int p0), .val (.long p1), .second, .val (.int (1 : Int32)), .val (.int (1 : Int32)), .val (.int (0 : Int32)), .val (.ref b626), .val (.ref b640), .val (.ref b659), .val (.int (1 : Int32)), .unset]) rfl kQ) ?_
        show G (T704.setTop (mkF me_ 176 #[.val (.int p0), .val (.long p1), .second, .val (.int (1 : Int32)), .val (.int (1 : Int32)), .val (.int (0 : Int32)), .val (.ref b626), .val (.ref b640), .val (.ref b659), .val (.int (1 : Int32)), .unset] []))
        refine gv (fun tQ kQ => XS.iload X704.here hx rfl (hb hby at_176) rfl kQ) ?_
        show G (T704.setTop (mkF me_ 178 #[.val (.int p0), .val (.long p1), .second, .val (.int (1 : Int32)), .val (.int (1 : Int32)), .val (.int (0 : Int32)), .val (.ref b626), .val (.ref b640), .val (.ref b659), .val (.int (1 : Int32)), .unset] [(.int (1 : Int32))]))
        refine gv (fun tQ kQ => XS.ifNo X704.here hx rfl (hb hby at_178) rfl ((if0 _ _).trans (feq (by decide : ¬ ((1 : Int32) = (0 : Int32)))).1) kQ) ?_
        show G (T704.setTop (mkF me_ 181 #[.val (.int p0), .val (.long p1), .second, .val (.int (1 : Int32)), .val (.int (1 : Int32)), .val (.int (0 : Int32)), .val (.ref b626), .val (.ref b640), .val (.ref b659), .val (.int (1 : Int32)), .unset] []))
        refine gv (fun tQ kQ => XS.aload X704.here hx rfl (hb hby at_181) rfl rfl kQ) ?_
        show G (T704.setTop (mkF me_ 183 #[.val (.int p0), .val (.long p1), .second, .val (.int (1 : Int32)), .val (.int (1 : Int32)), .val (.int (0 : Int32)), .val (.ref b626), .val (.ref b640), .val (.ref b659), .val (.int (1 : Int32)), .unset] [(.ref b659)]))
        refine gv (fun tQ kQ => XS.aload X704.here hx rfl (hb hby at_183) rfl rfl kQ) ?_
        show G (T704.setTop (mkF me_ 185 #[.val (.int p0), .val (.long p1), .second, .val (.int (1 : Int32)), .val (.int (1 : Int32)), .val (.int (0 : Int32)), .val (.ref b626), .val (.ref b640), .val (.ref b659), .val (.int (1 : Int32)), .unset] [(.ref b640), (.ref b659)]))
        obtain ⟨cq706, kq706, q706a, q706b, q706c⟩ := isOf hZ eq704 f697
        obtain ⟨_, _, ⟨T706, L706, k706, n706⟩, -, X706, ⟨Lc706, hQ706, l706, y706, z706⟩, st706⟩ := X704.virtualBack hx (y := (⟨"com/example/closemark/closemark/prices/StandingQuotes", "add", "(Lcom/example/closemark/closemark/tape/TapeRow;)V"⟩ : MethodName)) (z := (⟨"com/example/closemark/closemark/prices/StandingQuotes", "add", "(Lcom/example/closemark/closemark/tape/TapeRow;)V"⟩ : MethodName)) hown (mvT hZ (hw _ (List.mem_of_getElem? (i := 59) rfl))) (mvT hZ (hw _ (List.mem_of_getElem? (i := 60) rfl))) (notFace_of_selects (args := #[]) (mvT hZ (hw _ (List.mem_of_getElem? (i := 62) rfl)))) (mvT hZ (hw _ (List.mem_of_getElem? (i := 62) rfl))) (mvT hZ (hw _ (List.mem_of_getElem? (i := 61) rfl))) (by decide) (backOf (W := 0) (rm_addA l Z a0 hw [] b659 b640 y_671 A_BID A_ASK h691 n0 O703 f695 u0 u1 f696 u2 f699 f701 f702 g681) hZ (hw _ (List.mem_of_getElem? (i := 63) rfl)) (hw _ (List.mem_of_getElem? (i := 31) rfl)) (by decide) (by decide)) q706a q706c (g := (mkF me_ 185 #[.val (.int p0), .val (.long p1), .second, .val (.int (1 : Int32)), .val (.int (1 : Int32)), .val (.int (0 : Int32)), .val (.ref b626), .val (.ref b640), .val (.ref b659), .val (.int (1 : Int32)), .unset] [(.ref b640), (.ref b659)])) rfl (by rw [hml]; rfl) (Steps.refl _) (argsL := [(.ref b640)]) (rest := []) (lenOf pd_3 rfl) rfl (by show 2 * 0 + _ ≤ _; exact Nat.le_of_eq rfl) (hb hby at_185) (fun _ _ => ⟨rfl, eq704, (by decide : 5 + 0 ≤ _), (by decide : 14 + 0 ≤ _)⟩)
        dsimp only [Pt.U, Pt.locs, Pt.cells, Pt.slots] at X706 l706 y706 z706 st706 hQ706
        subst l706 y706 z706
        obtain ⟨rfl, Nq706, Kq706, w706_0, w706_1⟩ := hQ706
        have N707 := Fr.app N705 Nq706
        obtain ⟨h706, e706⟩ : ∃ z, T706.heap = z := ⟨_, rfl⟩
        rw [e706] at Kq706 w706_0 w706_1
        have f708 : Exa Z h706 b626 "com/example/closemark/closemark/tape/TapeRow" := f693.keep Kq706
        have f709 : Fld Z h706 b626 "com/example/closemark/closemark/tape/TapeRow" "kind" "Lcom/example/closemark/closemark/tape/TapeRow$Kind;" (.ref A_BID) := f694.keep Kq706 (ninS ne678 nin0)
        have f710 : Exa Z h706 b640 "com/example/closemark/closemark/tape/TapeRow" := f695.keep Kq706
        have f711 : Fld Z h706 b640 "com/example/closemark/closemark/tape/TapeRow" "kind" "Lcom/example/closemark/closemark/tape/TapeRow$Kind;" (.ref A_ASK) := f696.keep Kq706 (ninS ne679 nin0)
        have f712 : Exa Z h706 b659 "com/example/closemark/closemark/prices/StandingQuotes" := f697.keep Kq706
        have f713 : Fld Z h706 b659 "com/example/closemark/closemark/prices/StandingQuotes" "bid" "Lcom/example/closemark/closemark/prices/LatestRow;" (.ref x_671) := f698.keep Kq706 (ninS ne680 nin0)
        have f714 : Fld Z h706 b659 "com/example/closemark/closemark/prices/StandingQuotes" "ask" "Lcom/example/closemark/closemark/prices/LatestRow;" (.ref y_671) := f699.keep Kq706 (ninS ne680 nin0)
        have f715 : Exa Z h706 x_671 "com/example/closemark/closemark/prices/LatestRow" := w691_0.keep Kq706
        have f716 : Exa Z h706 y_671 "com/example/closemark/closemark/prices/LatestRow" := f701.keep Kq706
        have f717 : Fld Z h706 x_671 "com/example/closemark/closemark/prices/LatestRow" "row" "Lcom/example/closemark/closemark/tape/TapeRow;" (.ref b626) := w691_1.keep Kq706 (ninS w671_2 nin0)
        have O718 := O703.keep Kq706 (allS g681 all0)
        refine gv (fun tQ kQ => st706.trans kQ) ?_
        show G (T706.setTop (mkF me_ 188 #[.val (.int p0), .val (.long p1), .second, .val (.int (1 : Int32)), .val (.int (1 : Int32)), .val (.int (0 : Int32)), .val (.ref b626), .val (.ref b640), .val (.ref b659), .val (.int (1 : Int32)), .unset] []))
        refine gv (fun tQ kQ => XS.iloadN X706.here hx rfl (hb hby at_188) rfl kQ) ?_
        show G (T706.setTop (mkF me_ 189 #[.val (.int p0), .val (.long p1), .second, .val (.int (1 : Int32)), .val (.int (1 : Int32)), .val (.int (0 : Int32)), .val (.ref b626), .val (.ref b640), .val (.ref b659), .val (.int (1 : Int32)), .unset] [(.int (1 : Int32))]))
        refine gv (fun tQ kQ => XS.ifNo X706.here hx rfl (hb hby at_189) rfl ((if0 _ _).trans (feq (by decide : ¬ ((1 : Int32) = (0 : Int32)))).1) kQ) ?_
        show G (T706.setTop (mkF me_ 192 #[.val (.int p0), .val (.long p1), .second, .val (.int (1 : Int32)), .val (.int (1 : Int32)), .val (.int (0 : Int32)), .val (.ref b626), .val (.ref b640), .val (.ref b659), .val (.int (1 : Int32)), .unset] []))
        refine gv (fun tQ kQ => XS.iload X706.here hx rfl (hb hby at_192) rfl kQ) ?_
        show G (T706.setTop (mkF me_ 194 #[.val (.int p0), .val (.long p1), .second, .val (.int (1 : Int32)), .val (.int (1 : Int32)), .val (.int (0 : Int32)), .val (.ref b626), .val (.ref b640), .val (.ref b659), .val (.int (1 : Int32)), .unset] [(.int (1 : Int32))]))
        refine gv (fun tQ kQ => XS.ifNo X706.here hx rfl (hb hby at_194) rfl ((if0 _ _).trans (feq (by decide : ¬ ((1 : Int32) = (0 : Int32)))).1) kQ) ?_
        show G (T706.setTop (mkF me_ 197 #[.val (.int p0), .val (.long p1), .second, .val (.int (1 : Int32)), .val (.int (1 : Int32)), .val (.int (0 : Int32)), .val (.ref b626), .val (.ref b640), .val (.ref b659), .val (.int (1 : Int32)), .unset] []))
        refine gv (fun tQ kQ => XS.iconst X706.here hx rfl (hb hby at_197) kQ) ?_
        show G (T706.setTop (mkF me_ 198 #[.val (.int p0), .val (.long p1), .second, .val (.int (1 : Int32)), .val (.int (1 : Int32)), .val (.int (0 : Int32)), .val (.ref b626), .val (.ref b640), .val (.ref b659), .val (.int (1 : Int32)), .unset] [(.int (1 : Int32))]))
        refine gv (fun tQ kQ => XS.goto X706.here hx rfl (pc0 := 198) (pc' := 202) rfl (hb hby at_198) (by decide) (by decide) kQ) ?_
        show G (T706.setTop (mkF me_ 202 #[.val (.int p0), .val (.long p1), .second, .val (.int (1 : Int32)), .val (.int (1 : Int32)), .val (.int (0 : Int32)), .val (.ref b626), .val (.ref b640), .val (.ref b659), .val (.int (1 : Int32)), .unset] [(.int (1 : Int32))]))
        refine gv (fun tQ kQ => XS.istore X706.here hx rfl (hb hby at_202) rfl (l' := #[.val (.int p0), .val (.long p1), .second, .val (.int (1 : Int32)), .val (.int (1 : Int32)), .val (.int (0 : Int32)), .val (.ref b626), .val (.ref b640), .val (.ref b659), .val (.int (1 : Int32)), .val (.int (1 : Int32))]) rfl kQ) ?_
        show G (T706.setTop (mkF me_ 204 #[.val (.int p0), .val (.long p1), .second, .val (.int (1 : Int32)), .val (.int (1 : Int32)), .val (.int (0 : Int32)), .val (.ref b626), .val (.ref b640), .val (.ref b659), .val (.int (1 : Int32)), .val (.int (1 : Int32))] []))
        refine gv (fun tQ kQ => XS.iload X706.here hx rfl (hb hby at_204) rfl kQ) ?_
        show G (T706.setTop (mkF me_ 206 #[.val (.int p0), .val (.long p1), .second, .val (.int (1 : Int32)), .val (.int (1 : Int32)), .val (.int (0 : Int32)), .val (.ref b626), .val (.ref b640), .val (.ref b659), .val (.int (1 : Int32)), .val (.int (1 : Int32))] [(.int (1 : Int32))]))
        refine gv (fun tQ kQ => XS.ifNo X706.here hx rfl (hb hby at_206) rfl ((if0 _ _).trans (feq (by decide : ¬ ((1 : Int32) = (0 : Int32)))).1) kQ) ?_
        show G (T706.setTop (mkF me_ 209 #[.val (.int p0), .val (.long p1), .second, .val (.int (1 : Int32)), .val (.int (1 : Int32)), .val (.int (0 : Int32)), .val (.ref b626), .val (.ref b640), .val (.ref b659), .val (.int (1 : Int32)), .val (.int (1 : Int32))] []))
        refine gv (fun tQ kQ => XS.aload X706.here hx rfl (hb hby at_209) rfl rfl kQ) ?_
        show G (T706.setTop (mkF me_ 211 #[.val (.int p0), .val (.long p1), .second, .val (.int (1 : Int32)), .val (.int (1 : Int32)), .val (.int (0 : Int32)), .val (.ref b626), .val (.ref b640), .val (.ref b659), .val (.int (1 : Int32)), .val (.int (1 : Int32))] [(.ref b659)]))
        obtain ⟨cq719, kq719, q719a, q719b, q719c⟩ := isOf hZ e706 f712
        obtain ⟨_, _, ⟨T719, L719, k719, n719⟩, -, X719, ⟨Lc719, hQ719, l719, y719, z719⟩, st719⟩ := X706.virtualBack hx (y := (⟨"com/example/closemark/closemark/prices/StandingQuotes", "hasBidAndAsk", "()Z"⟩ : MethodName)) (z := (⟨"com/example/closemark/closemark/prices/StandingQuotes", "hasBidAndAsk", "()Z"⟩ : MethodName)) hown (mvT hZ (hw _ (List.mem_of_getElem? (i := 47) rfl))) (mvT hZ (hw _ (List.mem_of_getElem? (i := 48) rfl))) (notFace_of_selects (args := #[]) (mvT hZ (hw _ (List.mem_of_getElem? (i := 50) rfl)))) (mvT hZ (hw _ (List.mem_of_getElem? (i := 50) rfl))) (mvT hZ (hw _ (List.mem_of_getElem? (i := 49) rfl))) (by decide) (backOf (W := 0) (rm_hb2 l Z a0 hw [] b659 x_671 y_671 b626 b640 h706 n0 O718 f713 f715 f717 f714 w706_0 w706_1) hZ (hw _ (List.mem_of_getElem? (i := 51) rfl)) (hw _ (List.mem_of_getElem? (i := 31) rfl)) (by decide) (by decide)) q719a q719c (g := (mkF me_ 211 #[.val (.int p0), .val (.long p1), .second, .val (.int (1 : Int32)), .val (.int (1 : Int32)), .val (.int (0 : Int32)), .val (.ref b626), .val (.ref b640), .val (.ref b659), .val (.int (1 : Int32)), .val (.int (1 : Int32))] [(.ref b659)])) rfl (by rw [hml]; rfl) (Steps.refl _) (argsL := []) (rest := []) (lenOf pd_5 rfl) rfl (by show 2 * 0 + _ ≤ _; exact Nat.le_of_eq rfl) (hb hby at_211) (fun _ _ => ⟨rfl, e706, (by decide : 5 + 0 ≤ _), (by decide : 14 + 0 ≤ _)⟩)
        dsimp only [Pt.U, Pt.locs, Pt.cells, Pt.slots] at X719 l719 y719 z719 st719 hQ719
        subst l719 y719 z719
        obtain ⟨rfl, Nq719, eq719⟩ := hQ719
        have N720 := Fr.app N707 Nq719
        refine gv (fun tQ kQ => st719.trans kQ) ?_
        show G (T719.setTop (mkF me_ 214 #[.val (.int p0), .val (.long p1), .second, .val (.int (1 : Int32)), .val (.int (1 : Int32)), .val (.int (0 : Int32)), .val (.ref b626), .val (.ref b640), .val (.ref b659), .val (.int (1 : Int32)), .val (.int (1 : Int32))] [(.int (1 : Int32))]))
        refine gv (fun tQ kQ => XS.iload X719.here hx rfl (hb hby at_214) rfl kQ) ?_
        show G (T719.setTop (mkF me_ 216 #[.val (.int p0), .val (.long p1), .second, .val (.int (1 : Int32)), .val (.int (1 : Int32)), .val (.int (0 : Int32)), .val (.ref b626), .val (.ref b640), .val (.ref b659), .val (.int (1 : Int32)), .val (.int (1 : Int32))] [(.int (1 : Int32)), (.int (1 : Int32))]))
        refine gv (fun tQ kQ => XS.icmpNo X719.here hx rfl (hb hby at_216) rfl (teq (by decide : (1 : Int32) = (1 : Int32))).2 kQ) ?_
        show G (T719.setTop (mkF me_ 219 #[.val (.int p0), .val (.long p1), .second, .val (.int (1 : Int32)), .val (.int (1 : Int32)), .val (.int (0 : Int32)), .val (.ref b626), .val (.ref b640), .val (.ref b659), .val (.int (1 : Int32)), .val (.int (1 : Int32))] []))
        refine gv (fun tQ kQ => XS.iconst X719.here hx rfl (hb hby at_219) kQ) ?_
        show G (T719.setTop (mkF me_ 220 #[.val (.int p0), .val (.long p1), .second, .val (.int (1 : Int32)), .val (.int (1 : Int32)), .val (.int (0 : Int32)), .val (.ref b626), .val (.ref b640), .val (.ref b659), .val (.int (1 : Int32)), .val (.int (1 : Int32))] [(.int (1 : Int32))]))
        refine gv (fun tQ kQ => XS.goto X719.here hx rfl (pc0 := 220) (pc' := 224) rfl (hb hby at_220) (by decide) (by decide) kQ) ?_
        show G (T719.setTop (mkF me_ 224 #[.val (.int p0), .val (.long p1), .second, .val (.int (1 : Int32)), .val (.int (1 : Int32)), .val (.int (0 : Int32)), .val (.ref b626), .val (.ref b640), .val (.ref b659), .val (.int (1 : Int32)), .val (.int (1 : Int32))] [(.int (1 : Int32))]))
        refine gf _ (own_ret X719 Bd.notSynchronized (v := some (.int (1 : Int32))) (fun h => by rw [Bd.returns] at h; cases h) ?_ (by decide) (by decide) (fun fs hr => retN X719 hx (t := .boolean) Bd.returns (by simp) (hb hby at_224) hr))
        show Q0 Z p0 p1 A_BID A_ASK h0 n0 _ T719.heap _
        rw [eq719]
        exact ⟨rfl, N720⟩
      · refine gv (fun tQ kQ => XS.ifNo X0.here hx rfl (hb hby at_28) rfl ((if0 _ _).trans (feq hc625).1) kQ) ?_
        show G (s₁.setTop (mkF me_ 31 #[.val (.int p0), .val (.long p1), .second, .val (.int (1 : Int32)), .val (.int (1 : Int32)), .unset, .unset, .unset, .unset, .unset, .unset] []))
        refine gv (fun tQ kQ => XS.iconst X0.here hx rfl (hb hby at_31) kQ) ?_
        show G (s₁.setTop (mkF me_ 32 #[.val (.int p0), .val (.long p1), .second, .val (.int (1 : Int32)), .val (.int (1 : Int32)), .unset, .unset, .unset, .unset, .unset, .unset] [(.int (1 : Int32))]))
        refine gv (fun tQ kQ => XS.goto X0.here hx rfl (pc0 := 32) (pc' := 36) rfl (hb hby at_32) (by decide) (by decide) kQ) ?_
        show G (s₁.setTop (mkF me_ 36 #[.val (.int p0), .val (.long p1), .second, .val (.int (1 : Int32)), .val (.int (1 : Int32)), .unset, .unset, .unset, .unset, .unset, .unset] [(.int (1 : Int32))]))
        refine gv (fun tQ kQ => XS.istore X0.here hx rfl (hb hby at_36) rfl (l' := #[.val (.int p0), .val (.long p1), .second, .val (.int (1 : Int32)), .val (.int (1 : Int32)), .val (.int (1 : Int32)), .unset, .unset, .unset, .unset, .unset]) rfl kQ) ?_
        show G (s₁.setTop (mkF me_ 38 #[.val (.int p0), .val (.long p1), .second, .val (.int (1 : Int32)), .val (.int (1 : Int32)), .val (.int (1 : Int32)), .unset, .unset, .unset, .unset, .unset] []))
        obtain ⟨T721, h721, X721, e721, E721, A721, D721, -, st721⟩ := newO X0 hx hZ hown (hw _ (List.mem_of_getElem? (i := 0) rfl)) (hw _ (List.mem_of_getElem? (i := 1) rfl)) (hw _ (List.mem_of_getElem? (i := 2) rfl)) e0 (g := (mkF me_ 38 #[.val (.int p0), .val (.long p1), .second, .val (.int (1 : Int32)), .val (.int (1 : Int32)), .val (.int (1 : Int32)), .unset, .unset, .unset, .unset, .unset] [])) rfl (hb hby at_38) (by decide) (by decide)
        obtain ⟨b721, g721⟩ : ∃ z, z = h0.size := ⟨_, rfl⟩
        rw [← g721] at A721 D721 st721
        refine gv st721 ?_
        have g722 : n0 ≤ b721 := Nat.le_trans (own_old O0) (Nat.le_of_eq g721.symm)
        have O724 := O0.ext E721
        have f725 : Fld Z h721 b721 "com/example/closemark/closemark/tape/TapeRow" "time" "Ljava/time/Instant;" .null := D721 (Or.inr (hw _ (List.mem_of_getElem? (i := 18) rfl))) (ty := (.object "java/time/Instant")) (by decide)
        have f726 : Fld Z h721 b721 "com/example/closemark/closemark/tape/TapeRow" "symbol" "Ljava/lang/String;" .null := D721 (Or.inr (hw _ (List.mem_of_getElem? (i := 20) rfl))) (ty := (.object "java/lang/String")) (by decide)
        have f727 : Fld Z h721 b721 "com/example/closemark/closemark/tape/TapeRow" "kind" "Lcom/example/closemark/closemark/tape/TapeRow$Kind;" .null := D721 (Or.inr (hw _ (List.mem_of_getElem? (i := 22) rfl))) (ty := (.object "com/example/closemark/closemark/tape/TapeRow$Kind")) (by decide)
        have f728 : Fld Z h721 b721 "com/example/closemark/closemark/tape/TapeRow" "price" "Ljava/math/BigDecimal;" .null := D721 (Or.inr (hw _ (List.mem_of_getElem? (i := 24) rfl))) (ty := (.object "java/math/BigDecimal")) (by decide)
        have f729 : Fld Z h721 b721 "com/example/closemark/closemark/tape/TapeRow" "qty" "J" (.long (0 : Int64)) := D721 (Or.inr (hw _ (List.mem_of_getElem? (i := 26) rfl))) (ty := .long) (by decide)
        show G (T721.setTop (mkF me_ 41 #[.val (.int p0), .val (.long p1), .second, .val (.int (1 : Int32)), .val (.int (1 : Int32)), .val (.int (1 : Int32)), .unset, .unset, .unset, .unset, .unset] [(.ref b721)]))
        refine gv (fun tQ kQ => XS.dup X721.here hx rfl (hb hby at_41) rfl rfl kQ) ?_
        show G (T721.setTop (mkF me_ 42 #[.val (.int p0), .val (.long p1), .second, .val (.int (1 : Int32)), .val (.int (1 : Int32)), .val (.int (1 : Int32)), .unset, .unset, .unset, .unset, .unset] [(.ref b721), (.ref b721)]))
        refine gv (fun tQ kQ => XS.aconstNull X721.here hx rfl (hb hby at_42) kQ) ?_
        show G (T721.setTop (mkF me_ 43 #[.val (.int p0), .val (.long p1), .second, .val (.int (1 : Int32)), .val (.int (1 : Int32)), .val (.int (1 : Int32)), .unset, .unset, .unset, .unset, .unset] [.null, (.ref b721), (.ref b721)]))
        refine gv (fun tQ kQ => XS.aconstNull X721.here hx rfl (hb hby at_43) kQ) ?_
        show G (T721.setTop (mkF me_ 44 #[.val (.int p0), .val (.long p1), .second, .val (.int (1 : Int32)), .val (.int (1 : Int32)), .val (.int (1 : Int32)), .unset, .unset, .unset, .unset, .unset] [.null, .null, (.ref b721), (.ref b721)]))
        obtain ⟨T730, X730, e730, st730⟩ := getS2 X721 hx hZ hown (host := "") (Or.inl (hw _ (List.mem_of_getElem? (i := 3) rfl))) Via.refl e721 (u0.ext O724.2) (g := (mkF me_ 44 #[.val (.int p0), .val (.long p1), .second, .val (.int (1 : Int32)), .val (.int (1 : Int32)), .val (.int (1 : Int32)), .unset, .unset, .unset, .unset, .unset] [.null, .null, (.ref b721), (.ref b721)])) rfl (hb hby at_44)
        refine gv st730 ?_
        show G (T730.setTop (mkF me_ 47 #[.val (.int p0), .val (.long p1), .second, .val (.int (1 : Int32)), .val (.int (1 : Int32)), .val (.int (1 : Int32)), .unset, .unset, .unset, .unset, .unset] [(.ref A_BID), .null, .null, (.ref b721), (.ref b721)]))
        refine gv (fun tQ kQ => XS.aconstNull X730.here hx rfl (hb hby at_47) kQ) ?_
        show G (T730.setTop (mkF me_ 48 #[.val (.int p0), .val (.long p1), .second, .val (.int (1 : Int32)), .val (.int (1 : Int32)), .val (.int (1 : Int32)), .unset, .unset, .unset, .unset, .unset] [.null, (.ref A_BID), .null, .null, (.ref b721), (.ref b721)]))
        refine gv (fun tQ kQ => XS.lloadN X730.here hx rfl (hb hby at_48) rfl kQ) ?_
        show G (T730.setTop (mkF me_ 49 #[.val (.int p0), .val (.long p1), .second, .val (.int (1 : Int32)), .val (.int (1 : Int32)), .val (.int (1 : Int32)), .unset, .unset, .unset, .unset, .unset] [(.long p1), .null, (.ref A_BID), .null, .null, (.ref b721), (.ref b721)]))
        obtain ⟨_, _, ⟨T731, L731, k731, n731⟩, -, X731, ⟨Lc731, hQ731, l731, y731, z731⟩, st731⟩ := X730.specialBack hx (y := (⟨"com/example/closemark/closemark/tape/TapeRow", "<init>", "(Ljava/time/Instant;Ljava/lang/String;Lcom/example/closemark/closemark/tape/TapeRow$Kind;Ljava/math/BigDecimal;J)V"⟩ : MethodName)) rfl hown (mvT hZ (hw _ (List.mem_of_getElem? (i := 6) rfl))) (mvT hZ (hw _ (List.mem_of_getElem? (i := 7) rfl))) (mvT hZ (hw _ (List.mem_of_getElem? (i := 8) rfl))) (by decide) (backOf (W := 1) (rm_tri l Z a0 hw [] b721 A_BID p1 h721 n0 O724 A721 f725 f726 f727 f728 f729 g722) hZ (hw _ (List.mem_of_getElem? (i := 8) rfl)) (hw _ (List.mem_of_getElem? (i := 2) rfl)) (by decide) (by decide)) (g := (mkF me_ 49 #[.val (.int p0), .val (.long p1), .second, .val (.int (1 : Int32)), .val (.int (1 : Int32)), .val (.int (1 : Int32)), .unset, .unset, .unset, .unset, .unset] [(.long p1), .null, (.ref A_BID), .null, .null, (.ref b721), (.ref b721)])) rfl (by rw [hml]; rfl) (Steps.refl _) (a := b721) (argsL := [.null, .null, (.ref A_BID), .null, (.long p1)]) (rest := [(.ref b721)]) (lenOf pd_4 rfl) rfl (by show 2 * 0 + _ ≤ _; exact Nat.le_of_eq rfl) (hb hby at_49) (fun _ _ => ⟨rfl, e730, (by decide : 1 + 0 ≤ _), (by decide : 5 + 0 ≤ _)⟩)
        dsimp only [Pt.U, Pt.locs, Pt.cells, Pt.slots] at X731 l731 y731 z731 st731 hQ731
        subst l731 y731 z731
        obtain ⟨rfl, Nq731, Kq731, w731_0, w731_1⟩ := hQ731
        have N732 := Fr.app N0 Nq731
        obtain ⟨h731, e731⟩ : ∃ z, T731.heap = z := ⟨_, rfl⟩
        rw [e731] at Kq731 w731_0 w731_1
        have f733 : Exa Z h731 b721 "com/example/closemark/closemark/tape/TapeRow" := A721.keep Kq731
        have O734 := O724.keep Kq731 (allS g722 all0)
        refine gv (fun tQ kQ => st731.trans kQ) ?_
        show G (T731.setTop (mkF me_ 52 #[.val (.int p0), .val (.long p1), .second, .val (.int (1 : Int32)), .val (.int (1 : Int32)), .val (.int (1 : Int32)), .unset, .unset, .unset, .unset, .unset] [(.ref b721)]))
        refine gv (fun tQ kQ => XS.astore X731.here hx rfl (hb hby at_52) rfl rfl (l' := #[.val (.int p0), .val (.long p1), .second, .val (.int (1 : Int32)), .val (.int (1 : Int32)), .val (.int (1 : Int32)), .val (.ref b721), .unset, .unset, .unset, .unset]) rfl kQ) ?_
        show G (T731.setTop (mkF me_ 54 #[.val (.int p0), .val (.long p1), .second, .val (.int (1 : Int32)), .val (.int (1 : Int32)), .val (.int (1 : Int32)), .val (.ref b721), .unset, .unset, .unset, .unset] []))
        obtain ⟨T735, h735, X735, e735, E735, A735, D735, -, st735⟩ := newO X731 hx hZ hown (hw _ (List.mem_of_getElem? (i := 0) rfl)) (hw _ (List.mem_of_getElem? (i := 1) rfl)) (hw _ (List.mem_of_getElem? (i := 2) rfl)) e731 (g := (mkF me_ 54 #[.val (.int p0), .val (.long p1), .second, .val (.int (1 : Int32)), .val (.int (1 : Int32)), .val (.int (1 : Int32)), .val (.ref b721), .unset, .unset, .unset, .unset] [])) rfl (hb hby at_54) (by decide) (by decide)
        obtain ⟨b735, g735⟩ : ∃ z, z = h731.size := ⟨_, rfl⟩
        rw [← g735] at A735 D735 st735
        refine gv st735 ?_
        have ne736 : b721 ≠ b735 := Nat.ne_of_lt (Nat.lt_of_lt_of_le w731_0.lt (Nat.le_of_eq g735.symm))
        have g737 : n0 ≤ b735 := Nat.le_trans (own_old O734) (Nat.le_of_eq g735.symm)
        have f739 : Exa Z h735 b721 "com/example/closemark/closemark/tape/TapeRow" := w731_0.ext E735
        have f740 : Fld Z h735 b721 "com/example/closemark/closemark/tape/TapeRow" "kind" "Lcom/example/closemark/closemark/tape/TapeRow$Kind;" (.ref A_BID) := w731_1.ext E735
        have O741 := O734.ext E735
        have f742 : Fld Z h735 b735 "com/example/closemark/closemark/tape/TapeRow" "time" "Ljava/time/Instant;" .null := D735 (Or.inr (hw _ (List.mem_of_getElem? (i := 18) rfl))) (ty := (.object "java/time/Instant")) (by decide)
        have f743 : Fld Z h735 b735 "com/example/closemark/closemark/tape/TapeRow" "symbol" "Ljava/lang/String;" .null := D735 (Or.inr (hw _ (List.mem_of_getElem? (i := 20) rfl))) (ty := (.object "java/lang/String")) (by decide)
        have f744 : Fld Z h735 b735 "com/example/closemark/closemark/tape/TapeRow" "kind" "Lcom/example/closemark/closemark/tape/TapeRow$Kind;" .null := D735 (Or.inr (hw _ (List.mem_of_getElem? (i := 22) rfl))) (ty := (.object "com/example/closemark/closemark/tape/TapeRow$Kind")) (by decide)
        have f745 : Fld Z h735 b735 "com/example/closemark/closemark/tape/TapeRow" "price" "Ljava/math/BigDecimal;" .null := D735 (Or.inr (hw _ (List.mem_of_getElem? (i := 24) rfl))) (ty := (.object "java/math/BigDecimal")) (by decide)
        have f746 : Fld Z h735 b735 "com/example/closemark/closemark/tape/TapeRow" "qty" "J" (.long (0 : Int64)) := D735 (Or.inr (hw _ (List.mem_of_getElem? (i := 26) rfl))) (ty := .long) (by decide)
        show G (T735.setTop (mkF me_ 57 #[.val (.int p0), .val (.long p1), .second, .val (.int (1 : Int32)), .val (.int (1 : Int32)), .val (.int (1 : Int32)), .val (.ref b721), .unset, .unset, .unset, .unset] [(.ref b735)]))
        refine gv (fun tQ kQ => XS.dup X735.here hx rfl (hb hby at_57) rfl rfl kQ) ?_
        show G (T735.setTop (mkF me_ 58 #[.val (.int p0), .val (.long p1), .second, .val (.int (1 : Int32)), .val (.int (1 : Int32)), .val (.int (1 : Int32)), .val (.ref b721), .unset, .unset, .unset, .unset] [(.ref b735), (.ref b735)]))
        refine gv (fun tQ kQ => XS.aconstNull X735.here hx rfl (hb hby at_58) kQ) ?_
        show G (T735.setTop (mkF me_ 59 #[.val (.int p0), .val (.long p1), .second, .val (.int (1 : Int32)), .val (.int (1 : Int32)), .val (.int (1 : Int32)), .val (.ref b721), .unset, .unset, .unset, .unset] [.null, (.ref b735), (.ref b735)]))
        refine gv (fun tQ kQ => XS.aconstNull X735.here hx rfl (hb hby at_59) kQ) ?_
        show G (T735.setTop (mkF me_ 60 #[.val (.int p0), .val (.long p1), .second, .val (.int (1 : Int32)), .val (.int (1 : Int32)), .val (.int (1 : Int32)), .val (.ref b721), .unset, .unset, .unset, .unset] [.null, .null, (.ref b735), (.ref b735)]))
        obtain ⟨T747, X747, e747, st747⟩ := getS2 X735 hx hZ hown (host := "") (Or.inl (hw _ (List.mem_of_getElem? (i := 27) rfl))) Via.refl e735 (u1.ext O741.2) (g := (mkF me_ 60 #[.val (.int p0), .val (.long p1), .second, .val (.int (1 : Int32)), .val (.int (1 : Int32)), .val (.int (1 : Int32)), .val (.ref b721), .unset, .unset, .unset, .unset] [.null, .null, (.ref b735), (.ref b735)])) rfl (hb hby at_60)
        refine gv st747 ?_
        show G (T747.setTop (mkF me_ 63 #[.val (.int p0), .val (.long p1), .second, .val (.int (1 : Int32)), .val (.int (1 : Int32)), .val (.int (1 : Int32)), .val (.ref b721), .unset, .unset, .unset, .unset] [(.ref A_ASK), .null, .null, (.ref b735), (.ref b735)]))
        refine gv (fun tQ kQ => XS.aconstNull X747.here hx rfl (hb hby at_63) kQ) ?_
        show G (T747.setTop (mkF me_ 64 #[.val (.int p0), .val (.long p1), .second, .val (.int (1 : Int32)), .val (.int (1 : Int32)), .val (.int (1 : Int32)), .val (.ref b721), .unset, .unset, .unset, .unset] [.null, (.ref A_ASK), .null, .null, (.ref b735), (.ref b735)]))
        refine gv (fun tQ kQ => XS.lloadN X747.here hx rfl (hb hby at_64) rfl kQ) ?_
        show G (T747.setTop (mkF me_ 65 #[.val (.int p0), .val (.long p1), .second, .val (.int (1 : Int32)), .val (.int (1 : Int32)), .val (.int (1 : Int32)), .val (.ref b721), .unset, .unset, .unset, .unset] [(.long p1), .null, (.ref A_ASK), .null, .null, (.ref b735), (.ref b735)]))
        obtain ⟨_, _, ⟨T748, L748, k748, n748⟩, -, X748, ⟨Lc748, hQ748, l748, y748, z748⟩, st748⟩ := X747.specialBack hx (y := (⟨"com/example/closemark/closemark/tape/TapeRow", "<init>", "(Ljava/time/Instant;Ljava/lang/String;Lcom/example/closemark/closemark/tape/TapeRow$Kind;Ljava/math/BigDecimal;J)V"⟩ : MethodName)) rfl hown (mvT hZ (hw _ (List.mem_of_getElem? (i := 6) rfl))) (mvT hZ (hw _ (List.mem_of_getElem? (i := 7) rfl))) (mvT hZ (hw _ (List.mem_of_getElem? (i := 8) rfl))) (by decide) (backOf (W := 1) (rm_tri l Z a0 hw [] b735 A_ASK p1 h735 n0 O741 A735 f742 f743 f744 f745 f746 g737) hZ (hw _ (List.mem_of_getElem? (i := 8) rfl)) (hw _ (List.mem_of_getElem? (i := 2) rfl)) (by decide) (by decide)) (g := (mkF me_ 65 #[.val (.int p0), .val (.long p1), .second, .val (.int (1 : Int32)), .val (.int (1 : Int32)), .val (.int (1 : Int32)), .val (.ref b721), .unset, .unset, .unset, .unset] [(.long p1), .null, (.ref A_ASK), .null, .null, (.ref b735), (.ref b735)])) rfl (by rw [hml]; rfl) (Steps.refl _) (a := b735) (argsL := [.null, .null, (.ref A_ASK), .null, (.long p1)]) (rest := [(.ref b735)]) (lenOf pd_4 rfl) rfl (by show 2 * 0 + _ ≤ _; exact Nat.le_of_eq rfl) (hb hby at_65) (fun _ _ => ⟨rfl, e747, (by decide : 2 + 0 ≤ _), (by decide : 10 + 0 ≤ _)⟩)
        dsimp only [Pt.U, Pt.locs, Pt.cells, Pt.slots] at X748 l748 y748 z748 st748 hQ748
        subst l748 y748 z748
        obtain ⟨rfl, Nq748, Kq748, w748_0, w748_1⟩ := hQ748
        have N749 := Fr.app N732 Nq748
        obtain ⟨h748, e748⟩ : ∃ z, T748.heap = z := ⟨_, rfl⟩
        rw [e748] at Kq748 w748_0 w748_1
        have f750 : Exa Z h748 b721 "com/example/closemark/closemark/tape/TapeRow" := f739.keep Kq748
        have f751 : Fld Z h748 b721 "com/example/closemark/closemark/tape/TapeRow" "kind" "Lcom/example/closemark/closemark/tape/TapeRow$Kind;" (.ref A_BID) := f740.keep Kq748 (ninS ne736 nin0)
        have f752 : Exa Z h748 b735 "com/example/closemark/closemark/tape/TapeRow" := A735.keep Kq748
        have O753 := O741.keep Kq748 (allS g737 all0)
        refine gv (fun tQ kQ => st748.trans kQ) ?_
        show G (T748.setTop (mkF me_ 68 #[.val (.int p0), .val (.long p1), .second, .val (.int (1 : Int32)), .val (.int (1 : Int32)), .val (.int (1 : Int32)), .val (.ref b721), .unset, .unset, .unset, .unset] [(.ref b735)]))
        refine gv (fun tQ kQ => XS.astore X748.here hx rfl (hb hby at_68) rfl rfl (l' := #[.val (.int p0), .val (.long p1), .second, .val (.int (1 : Int32)), .val (.int (1 : Int32)), .val (.int (1 : Int32)), .val (.ref b721), .val (.ref b735), .unset, .unset, .unset]) rfl kQ) ?_
        show G (T748.setTop (mkF me_ 70 #[.val (.int p0), .val (.long p1), .second, .val (.int (1 : Int32)), .val (.int (1 : Int32)), .val (.int (1 : Int32)), .val (.ref b721), .val (.ref b735), .unset, .unset, .unset] []))
        obtain ⟨T754, h754, X754, e754, E754, A754, D754, -, st754⟩ := newO X748 hx hZ hown (hw _ (List.mem_of_getElem? (i := 29) rfl)) (hw _ (List.mem_of_getElem? (i := 30) rfl)) (hw _ (List.mem_of_getElem? (i := 31) rfl)) e748 (g := (mkF me_ 70 #[.val (.int p0), .val (.long p1), .second, .val (.int (1 : Int32)), .val (.int (1 : Int32)), .val (.int (1 : Int32)), .val (.ref b721), .val (.ref b735), .unset, .unset, .unset] [])) rfl (hb hby at_70) (by decide) (by decide)
        obtain ⟨b754, g754⟩ : ∃ z, z = h748.size := ⟨_, rfl⟩
        rw [← g754] at A754 D754 st754
        refine gv st754 ?_
        have ne755 : b721 ≠ b754 := Nat.ne_of_lt (Nat.lt_of_lt_of_le f750.lt (Nat.le_of_eq g754.symm))
        have ne756 : b735 ≠ b754 := Nat.ne_of_lt (Nat.lt_of_lt_of_le w748_0.lt (Nat.le_of_eq g754.symm))
        have g757 : n0 ≤ b754 := Nat.le_trans (own_old O753) (Nat.le_of_eq g754.symm)
        have f759 : Exa Z h754 b721 "com/example/closemark/closemark/tape/TapeRow" := f750.ext E754
        have f760 : Fld Z h754 b721 "com/example/closemark/closemark/tape/TapeRow" "kind" "Lcom/example/closemark/closemark/tape/TapeRow$Kind;" (.ref A_BID) := f751.ext E754
        have f761 : Exa Z h754 b735 "com/example/closemark/closemark/tape/TapeRow" := w748_0.ext E754
        have f762 : Fld Z h754 b735 "com/example/closemark/closemark/tape/TapeRow" "kind" "Lcom/example/closemark/closemark/tape/TapeRow$Kind;" (.ref A_ASK) := w748_1.ext E754
        have O763 := O753.ext E754
        have f764 : Fld Z h754 b754 "com/example/closemark/closemark/prices/StandingQuotes" "bid" "Lcom/example/closemark/closemark/prices/LatestRow;" .null := D754 (Or.inr (hw _ (List.mem_of_getElem? (i := 44) rfl))) (ty := (.object "com/example/closemark/closemark/prices/LatestRow")) (by decide)
        have f765 : Fld Z h754 b754 "com/example/closemark/closemark/prices/StandingQuotes" "ask" "Lcom/example/closemark/closemark/prices/LatestRow;" .null := D754 (Or.inr (hw _ (List.mem_of_getElem? (i := 46) rfl))) (ty := (.object "com/example/closemark/closemark/prices/LatestRow")) (by decide)
        show G (T754.setTop (mkF me_ 73 #[.val (.int p0), .val (.long p1), .second, .val (.int (1 : Int32)), .val (.int (1 : Int32)), .val (.int (1 : Int32)), .val (.ref b721), .val (.ref b735), .unset, .unset, .unset] [(.ref b754)]))
        refine gv (fun tQ kQ => XS.dup X754.here hx rfl (hb hby at_73) rfl rfl kQ) ?_
        show G (T754.setTop (mkF me_ 74 #[.val (.int p0), .val (.long p1), .second, .val (.int (1 : Int32)), .val (.int (1 : Int32)), .val (.int (1 : Int32)), .val (.ref b721), .val (.ref b735), .unset, .unset, .unset] [(.ref b754), (.ref b754)]))
        obtain ⟨_, _, ⟨T766, L766, k766, n766⟩, -, X766, ⟨Lc766, hQ766, l766, y766, z766⟩, st766⟩ := X754.specialBack hx (y := (⟨"com/example/closemark/closemark/prices/StandingQuotes", "<init>", "()V"⟩ : MethodName)) rfl hown (mvT hZ (hw _ (List.mem_of_getElem? (i := 32) rfl))) (mvT hZ (hw _ (List.mem_of_getElem? (i := 33) rfl))) (mvT hZ (hw _ (List.mem_of_getElem? (i := 34) rfl))) (by decide) (backOf (W := 1) (rm_sqi l Z a0 hw [] b754 h754 n0 O763 A754 f764 f765 g757) hZ (hw _ (List.mem_of_getElem? (i := 34) rfl)) (hw _ (List.mem_of_getElem? (i := 31) rfl)) (by decide) (by decide)) (g := (mkF me_ 74 #[.val (.int p0), .val (.long p1), .second, .val (.int (1 : Int32)), .val (.int (1 : Int32)), .val (.int (1 : Int32)), .val (.ref b721), .val (.ref b735), .unset, .unset, .unset] [(.ref b754), (.ref b754)])) rfl (by rw [hml]; rfl) (Steps.refl _) (a := b754) (argsL := []) (rest := [(.ref b754)]) (lenOf pd_0 rfl) rfl (by show 2 * 0 + _ ≤ _; exact Nat.le_of_eq rfl) (hb hby at_74) (fun _ _ => ⟨rfl, e754, (by decide : 3 + 2 ≤ _), (by decide : 12 + 2 ≤ _)⟩)
        dsimp only [Pt.U, Pt.locs, Pt.cells, Pt.slots] at X766 l766 y766 z766 st766 hQ766
        subst l766 y766 z766
        obtain ⟨x_766, y_766, rfl, Nq766, Kq766, w766_0, w766_1, w766_2, w766_3, w766_4, w766_5, w766_6, w766_7, w766_8, w766_9⟩ := hQ766
        have N767 := Fr.app N749 Nq766
        obtain ⟨h766, e766⟩ : ∃ z, T766.heap = z := ⟨_, rfl⟩
        rw [e766] at Kq766 w766_3 w766_4 w766_5 w766_6 w766_7 w766_8 w766_9
        have ne768 : b721 ≠ x_766 := Nat.ne_of_lt (Nat.lt_of_lt_of_le f759.lt w766_0)
        have ne769 : b735 ≠ x_766 := Nat.ne_of_lt (Nat.lt_of_lt_of_le f761.lt w766_0)
        have ne770 : b754 ≠ x_766 := Nat.ne_of_lt (Nat.lt_of_lt_of_le A754.lt w766_0)
        have g771 : n0 ≤ x_766 := Nat.le_trans (own_old O763) w766_0
        have ne773 : b721 ≠ y_766 := Nat.ne_of_lt (Nat.lt_of_lt_of_le f759.lt w766_1)
        have ne774 : b735 ≠ y_766 := Nat.ne_of_lt (Nat.lt_of_lt_of_le f761.lt w766_1)
        have ne775 : b754 ≠ y_766 := Nat.ne_of_lt (Nat.lt_of_lt_of_le A754.lt w766_1)
        have g776 : n0 ≤ y_766 := Nat.le_trans (own_old O763) w766_1
        have f778 : Exa Z h766 b721 "com/example/closemark/closemark/tape/TapeRow" := f759.keep Kq766
        have f779 : Fld Z h766 b721 "com/example/closemark/closemark/tape/TapeRow" "kind" "Lcom/example/closemark/closemark/tape/TapeRow$Kind;" (.ref A_BID) := f760.keep Kq766 (ninS ne755 nin0)
        have f780 : Exa Z h766 b735 "com/example/closemark/closemark/tape/TapeRow" := f761.keep Kq766
        have f781 : Fld Z h766 b735 "com/example/closemark/closemark/tape/TapeRow" "kind" "Lcom/example/closemark/closemark/tape/TapeRow$Kind;" (.ref A_ASK) := f762.keep Kq766 (ninS ne756 nin0)
        have f782 : Exa Z h766 b754 "com/example/closemark/closemark/prices/StandingQuotes" := A754.keep Kq766
        have O783 := O763.keep Kq766 (allS g757 all0)
        refine gv (fun tQ kQ => st766.trans kQ) ?_
        show G (T766.setTop (mkF me_ 77 #[.val (.int p0), .val (.long p1), .second, .val (.int (1 : Int32)), .val (.int (1 : Int32)), .val (.int (1 : Int32)), .val (.ref b721), .val (.ref b735), .unset, .unset, .unset] [(.ref b754)]))
        refine gv (fun tQ kQ => XS.astore X766.here hx rfl (hb hby at_77) rfl rfl (l' := #[.val (.int p0), .val (.long p1), .second, .val (.int (1 : Int32)), .val (.int (1 : Int32)), .val (.int (1 : Int32)), .val (.ref b721), .val (.ref b735), .val (.ref b754), .unset, .unset]) rfl kQ) ?_
        show G (T766.setTop (mkF me_ 79 #[.val (.int p0), .val (.long p1), .second, .val (.int (1 : Int32)), .val (.int (1 : Int32)), .val (.int (1 : Int32)), .val (.ref b721), .val (.ref b735), .val (.ref b754), .unset, .unset] []))
        refine gv (fun tQ kQ => XS.aload X766.here hx rfl (hb hby at_79) rfl rfl kQ) ?_
        show G (T766.setTop (mkF me_ 81 #[.val (.int p0), .val (.long p1), .second, .val (.int (1 : Int32)), .val (.int (1 : Int32)), .val (.int (1 : Int32)), .val (.ref b721), .val (.ref b735), .val (.ref b754), .unset, .unset] [(.ref b754)]))
        obtain ⟨cq784, kq784, q784a, q784b, q784c⟩ := isOf hZ e766 w766_3
        obtain ⟨_, _, ⟨T784, L784, k784, n784⟩, -, X784, ⟨Lc784, hQ784, l784, y784, z784⟩, st784⟩ := X766.virtualBack hx (y := (⟨"com/example/closemark/closemark/prices/StandingQuotes", "hasBidAndAsk", "()Z"⟩ : MethodName)) (z := (⟨"com/example/closemark/closemark/prices/StandingQuotes", "hasBidAndAsk", "()Z"⟩ : MethodName)) hown (mvT hZ (hw _ (List.mem_of_getElem? (i := 47) rfl))) (mvT hZ (hw _ (List.mem_of_getElem? (i := 48) rfl))) (notFace_of_selects (args := #[]) (mvT hZ (hw _ (List.mem_of_getElem? (i := 50) rfl)))) (mvT hZ (hw _ (List.mem_of_getElem? (i := 50) rfl))) (mvT hZ (hw _ (List.mem_of_getElem? (i := 49) rfl))) (by decide) (backOf (W := 0) (rm_hb0 l Z a0 hw [] b754 x_766 h766 n0 O783 w766_4 w766_6 w766_8) hZ (hw _ (List.mem_of_getElem? (i := 51) rfl)) (hw _ (List.mem_of_getElem? (i := 31) rfl)) (by decide) (by decide)) q784a q784c (g := (mkF me_ 81 #[.val (.int p0), .val (.long p1), .second, .val (.int (1 : Int32)), .val (.int (1 : Int32)), .val (.int (1 : Int32)), .val (.ref b721), .val (.ref b735), .val (.ref b754), .unset, .unset] [(.ref b754)])) rfl (by rw [hml]; rfl) (Steps.refl _) (argsL := []) (rest := []) (lenOf pd_5 rfl) rfl (by show 2 * 0 + _ ≤ _; exact Nat.le_of_eq rfl) (hb hby at_81) (fun _ _ => ⟨rfl, e766, (by decide : 5 + 0 ≤ _), (by decide : 14 + 0 ≤ _)⟩)
        dsimp only [Pt.U, Pt.locs, Pt.cells, Pt.slots] at X784 l784 y784 z784 st784 hQ784
        subst l784 y784 z784
        obtain ⟨rfl, Nq784, eq784⟩ := hQ784
        have N785 := Fr.app N767 Nq784
        refine gv (fun tQ kQ => st784.trans kQ) ?_
        show G (T784.setTop (mkF me_ 84 #[.val (.int p0), .val (.long p1), .second, .val (.int (1 : Int32)), .val (.int (1 : Int32)), .val (.int (1 : Int32)), .val (.ref b721), .val (.ref b735), .val (.ref b754), .unset, .unset] [(.int (0 : Int32))]))
        refine gv (fun tQ kQ => XS.ifNo X784.here hx rfl (hb hby at_84) rfl ((if0 _ _).trans (teq (by decide : (0 : Int32) = (0 : Int32))).2) kQ) ?_
        show G (T784.setTop (mkF me_ 87 #[.val (.int p0), .val (.long p1), .second, .val (.int (1 : Int32)), .val (.int (1 : Int32)), .val (.int (1 : Int32)), .val (.ref b721), .val (.ref b735), .val (.ref b754), .unset, .unset] []))
        refine gv (fun tQ kQ => XS.iconst X784.here hx rfl (hb hby at_87) kQ) ?_
        show G (T784.setTop (mkF me_ 88 #[.val (.int p0), .val (.long p1), .second, .val (.int (1 : Int32)), .val (.int (1 : Int32)), .val (.int (1 : Int32)), .val (.ref b721), .val (.ref b735), .val (.ref b754), .unset, .unset] [(.int (1 : Int32))]))
        refine gv (fun tQ kQ => XS.goto X784.here hx rfl (pc0 := 88) (pc' := 92) rfl (hb hby at_88) (by decide) (by decide) kQ) ?_
        show G (T784.setTop (mkF me_ 92 #[.val (.int p0), .val (.long p1), .second, .val (.int (1 : Int32)), .val (.int (1 : Int32)), .val (.int (1 : Int32)), .val (.ref b721), .val (.ref b735), .val (.ref b754), .unset, .unset] [(.int (1 : Int32))]))
        refine gv (fun tQ kQ => XS.istore X784.here hx rfl (hb hby at_92) rfl (l' := #[.val (.int p0), .val (.long p1), .second, .val (.int (1 : Int32)), .val (.int (1 : Int32)), .val (.int (1 : Int32)), .val (.ref b721), .val (.ref b735), .val (.ref b754), .val (.int (1 : Int32)), .unset]) rfl kQ) ?_
        show G (T784.setTop (mkF me_ 94 #[.val (.int p0), .val (.long p1), .second, .val (.int (1 : Int32)), .val (.int (1 : Int32)), .val (.int (1 : Int32)), .val (.ref b721), .val (.ref b735), .val (.ref b754), .val (.int (1 : Int32)), .unset] []))
        refine gv (fun tQ kQ => XS.iload X784.here hx rfl (hb hby at_94) rfl kQ) ?_
        show G (T784.setTop (mkF me_ 96 #[.val (.int p0), .val (.long p1), .second, .val (.int (1 : Int32)), .val (.int (1 : Int32)), .val (.int (1 : Int32)), .val (.ref b721), .val (.ref b735), .val (.ref b754), .val (.int (1 : Int32)), .unset] [(.int (1 : Int32))]))
        refine gv (fun tQ kQ => XS.ifNo X784.here hx rfl (hb hby at_96) rfl ((if0 _ _).trans (feq (by decide : ¬ ((1 : Int32) = (0 : Int32)))).1) kQ) ?_
        show G (T784.setTop (mkF me_ 99 #[.val (.int p0), .val (.long p1), .second, .val (.int (1 : Int32)), .val (.int (1 : Int32)), .val (.int (1 : Int32)), .val (.ref b721), .val (.ref b735), .val (.ref b754), .val (.int (1 : Int32)), .unset] []))
        refine gv (fun tQ kQ => XS.iload X784.here hx rfl (hb hby at_99) rfl kQ) ?_
        show G (T784.setTop (mkF me_ 101 #[.val (.int p0), .val (.long p1), .second, .val (.int (1 : Int32)), .val (.int (1 : Int32)), .val (.int (1 : Int32)), .val (.ref b721), .val (.ref b735), .val (.ref b754), .val (.int (1 : Int32)), .unset] [(.int (1 : Int32))]))
        refine gv (fun tQ kQ => XS.ifNo X784.here hx rfl (hb hby at_101) rfl ((if0 _ _).trans (feq (by decide : ¬ ((1 : Int32) = (0 : Int32)))).1) kQ) ?_
        show G (T784.setTop (mkF me_ 104 #[.val (.int p0), .val (.long p1), .second, .val (.int (1 : Int32)), .val (.int (1 : Int32)), .val (.int (1 : Int32)), .val (.ref b721), .val (.ref b735), .val (.ref b754), .val (.int (1 : Int32)), .unset] []))
        refine gv (fun tQ kQ => XS.aload X784.here hx rfl (hb hby at_104) rfl rfl kQ) ?_
        show G (T784.setTop (mkF me_ 106 #[.val (.int p0), .val (.long p1), .second, .val (.int (1 : Int32)), .val (.int (1 : Int32)), .val (.int (1 : Int32)), .val (.ref b721), .val (.ref b735), .val (.ref b754), .val (.int (1 : Int32)), .unset] [(.ref b754)]))
        refine gv (fun tQ kQ => XS.aload X784.here hx rfl (hb hby at_106) rfl rfl kQ) ?_
        show G (T784.setTop (mkF me_ 108 #[.val (.int p0), .val (.long p1), .second, .val (.int (1 : Int32)), .val (.int (1 : Int32)), .val (.int (1 : Int32)), .val (.ref b721), .val (.ref b735), .val (.ref b754), .val (.int (1 : Int32)), .unset] [(.ref b735), (.ref b754)]))
        obtain ⟨cq786, kq786, q786a, q786b, q786c⟩ := isOf hZ eq784 w766_3
        obtain ⟨_, _, ⟨T786, L786, k786, n786⟩, -, X786, ⟨Lc786, hQ786, l786, y786, z786⟩, st786⟩ := X784.virtualBack hx (y := (⟨"com/example/closemark/closemark/prices/StandingQuotes", "add", "(Lcom/example/closemark/closemark/tape/TapeRow;)V"⟩ : MethodName)) (z := (⟨"com/example/closemark/closemark/prices/StandingQuotes", "add", "(Lcom/example/closemark/closemark/tape/TapeRow;)V"⟩ : MethodName)) hown (mvT hZ (hw _ (List.mem_of_getElem? (i := 59) rfl))) (mvT hZ (hw _ (List.mem_of_getElem? (i := 60) rfl))) (notFace_of_selects (args := #[]) (mvT hZ (hw _ (List.mem_of_getElem? (i := 62) rfl)))) (mvT hZ (hw _ (List.mem_of_getElem? (i := 62) rfl))) (mvT hZ (hw _ (List.mem_of_getElem? (i := 61) rfl))) (by decide) (backOf (W := 0) (rm_addA l Z a0 hw [] b754 b735 y_766 A_BID A_ASK h766 n0 O783 f780 u0 u1 f781 u2 w766_5 w766_7 w766_9 g776) hZ (hw _ (List.mem_of_getElem? (i := 63) rfl)) (hw _ (List.mem_of_getElem? (i := 31) rfl)) (by decide) (by decide)) q786a q786c (g := (mkF me_ 108 #[.val (.int p0), .val (.long p1), .second, .val (.int (1 : Int32)), .val (.int (1 : Int32)), .val (.int (1 : Int32)), .val (.ref b721), .val (.ref b735), .val (.ref b754), .val (.int (1 : Int32)), .unset] [(.ref b735), (.ref b754)])) rfl (by rw [hml]; rfl) (Steps.refl _) (argsL := [(.ref b735)]) (rest := []) (lenOf pd_3 rfl) rfl (by show 2 * 0 + _ ≤ _; exact Nat.le_of_eq rfl) (hb hby at_108) (fun _ _ => ⟨rfl, eq784, (by decide : 5 + 0 ≤ _), (by decide : 14 + 0 ≤ _)⟩)
        dsimp only [Pt.U, Pt.locs, Pt.cells, Pt.slots] at X786 l786 y786 z786 st786 hQ786
        subst l786 y786 z786
        obtain ⟨rfl, Nq786, Kq786, w786_0, w786_1⟩ := hQ786
        have N787 := Fr.app N785 Nq786
        obtain ⟨h786, e786⟩ : ∃ z, T786.heap = z := ⟨_, rfl⟩
        rw [e786] at Kq786 w786_0 w786_1
        have f788 : Exa Z h786 b721 "com/example/closemark/closemark/tape/TapeRow" := f778.keep Kq786
        have f789 : Fld Z h786 b721 "com/example/closemark/closemark/tape/TapeRow" "kind" "Lcom/example/closemark/closemark/tape/TapeRow$Kind;" (.ref A_BID) := f779.keep Kq786 (ninS ne773 nin0)
        have f790 : Exa Z h786 b735 "com/example/closemark/closemark/tape/TapeRow" := f780.keep Kq786
        have f791 : Fld Z h786 b735 "com/example/closemark/closemark/tape/TapeRow" "kind" "Lcom/example/closemark/closemark/tape/TapeRow$Kind;" (.ref A_ASK) := f781.keep Kq786 (ninS ne774 nin0)
        have f792 : Exa Z h786 b754 "com/example/closemark/closemark/prices/StandingQuotes" := w766_3.keep Kq786
        have f793 : Fld Z h786 b754 "com/example/closemark/closemark/prices/StandingQuotes" "bid" "Lcom/example/closemark/closemark/prices/LatestRow;" (.ref x_766) := w766_4.keep Kq786 (ninS ne775 nin0)
        have f794 : Fld Z h786 b754 "com/example/closemark/closemark/prices/StandingQuotes" "ask" "Lcom/example/closemark/closemark/prices/LatestRow;" (.ref y_766) := w766_5.keep Kq786 (ninS ne775 nin0)
        have f795 : Exa Z h786 x_766 "com/example/closemark/closemark/prices/LatestRow" := w766_6.keep Kq786
        have f796 : Exa Z h786 y_766 "com/example/closemark/closemark/prices/LatestRow" := w766_7.keep Kq786
        have f797 : Fld Z h786 x_766 "com/example/closemark/closemark/prices/LatestRow" "row" "Lcom/example/closemark/closemark/tape/TapeRow;" .null := w766_8.keep Kq786 (ninS w766_2 nin0)
        have O798 := O783.keep Kq786 (allS g776 all0)
        refine gv (fun tQ kQ => st786.trans kQ) ?_
        show G (T786.setTop (mkF me_ 111 #[.val (.int p0), .val (.long p1), .second, .val (.int (1 : Int32)), .val (.int (1 : Int32)), .val (.int (1 : Int32)), .val (.ref b721), .val (.ref b735), .val (.ref b754), .val (.int (1 : Int32)), .unset] []))
        refine gv (fun tQ kQ => XS.iload X786.here hx rfl (hb hby at_111) rfl kQ) ?_
        show G (T786.setTop (mkF me_ 113 #[.val (.int p0), .val (.long p1), .second, .val (.int (1 : Int32)), .val (.int (1 : Int32)), .val (.int (1 : Int32)), .val (.ref b721), .val (.ref b735), .val (.ref b754), .val (.int (1 : Int32)), .unset] [(.int (1 : Int32))]))
        refine gv (fun tQ kQ => XS.ifNo X786.here hx rfl (hb hby at_113) rfl ((if0 _ _).trans (feq (by decide : ¬ ((1 : Int32) = (0 : Int32)))).1) kQ) ?_
        show G (T786.setTop (mkF me_ 116 #[.val (.int p0), .val (.long p1), .second, .val (.int (1 : Int32)), .val (.int (1 : Int32)), .val (.int (1 : Int32)), .val (.ref b721), .val (.ref b735), .val (.ref b754), .val (.int (1 : Int32)), .unset] []))
        refine gv (fun tQ kQ => XS.aload X786.here hx rfl (hb hby at_116) rfl rfl kQ) ?_
        show G (T786.setTop (mkF me_ 118 #[.val (.int p0), .val (.long p1), .second, .val (.int (1 : Int32)), .val (.int (1 : Int32)), .val (.int (1 : Int32)), .val (.ref b721), .val (.ref b735), .val (.ref b754), .val (.int (1 : Int32)), .unset] [(.ref b754)]))
        obtain ⟨cq799, kq799, q799a, q799b, q799c⟩ := isOf hZ e786 f792
        obtain ⟨_, _, ⟨T799, L799, k799, n799⟩, -, X799, ⟨Lc799, hQ799, l799, y799, z799⟩, st799⟩ := X786.virtualBack hx (y := (⟨"com/example/closemark/closemark/prices/StandingQuotes", "hasBidAndAsk", "()Z"⟩ : MethodName)) (z := (⟨"com/example/closemark/closemark/prices/StandingQuotes", "hasBidAndAsk", "()Z"⟩ : MethodName)) hown (mvT hZ (hw _ (List.mem_of_getElem? (i := 47) rfl))) (mvT hZ (hw _ (List.mem_of_getElem? (i := 48) rfl))) (notFace_of_selects (args := #[]) (mvT hZ (hw _ (List.mem_of_getElem? (i := 50) rfl)))) (mvT hZ (hw _ (List.mem_of_getElem? (i := 50) rfl))) (mvT hZ (hw _ (List.mem_of_getElem? (i := 49) rfl))) (by decide) (backOf (W := 0) (rm_hb0 l Z a0 hw [] b754 x_766 h786 n0 O798 f793 f795 f797) hZ (hw _ (List.mem_of_getElem? (i := 51) rfl)) (hw _ (List.mem_of_getElem? (i := 31) rfl)) (by decide) (by decide)) q799a q799c (g := (mkF me_ 118 #[.val (.int p0), .val (.long p1), .second, .val (.int (1 : Int32)), .val (.int (1 : Int32)), .val (.int (1 : Int32)), .val (.ref b721), .val (.ref b735), .val (.ref b754), .val (.int (1 : Int32)), .unset] [(.ref b754)])) rfl (by rw [hml]; rfl) (Steps.refl _) (argsL := []) (rest := []) (lenOf pd_5 rfl) rfl (by show 2 * 0 + _ ≤ _; exact Nat.le_of_eq rfl) (hb hby at_118) (fun _ _ => ⟨rfl, e786, (by decide : 5 + 0 ≤ _), (by decide : 14 + 0 ≤ _)⟩)
        dsimp only [Pt.U, Pt.locs, Pt.cells, Pt.slots] at X799 l799 y799 z799 st799 hQ799
        subst l799 y799 z799
        obtain ⟨rfl, Nq799, eq799⟩ := hQ799
        have N800 := Fr.app N787 Nq799
        refine gv (fun tQ kQ => st799.trans kQ) ?_
        show G (T799.setTop (mkF me_ 121 #[.val (.int p0), .val (.long p1), .second, .val (.int (1 : Int32)), .val (.int (1 : Int32)), .val (.int (1 : Int32)), .val (.ref b721), .val (.ref b735), .val (.ref b754), .val (.int (1 : Int32)), .unset] [(.int (0 : Int32))]))
        refine gv (fun tQ kQ => XS.ifNo X799.here hx rfl (hb hby at_121) rfl ((if0 _ _).trans (teq (by decide : (0 : Int32) = (0 : Int32))).2) kQ) ?_
        show G (T799.setTop (mkF me_ 124 #[.val (.int p0), .val (.long p1), .second, .val (.int (1 : Int32)), .val (.int (1 : Int32)), .val (.int (1 : Int32)), .val (.ref b721), .val (.ref b735), .val (.ref b754), .val (.int (1 : Int32)), .unset] []))
        refine gv (fun tQ kQ => XS.iconst X799.here hx rfl (hb hby at_124) kQ) ?_
        show G (T799.setTop (mkF me_ 125 #[.val (.int p0), .val (.long p1), .second, .val (.int (1 : Int32)), .val (.int (1 : Int32)), .val (.int (1 : Int32)), .val (.ref b721), .val (.ref b735), .val (.ref b754), .val (.int (1 : Int32)), .unset] [(.int (1 : Int32))]))
        refine gv (fun tQ kQ => XS.goto X799.here hx rfl (pc0 := 125) (pc' := 129) rfl (hb hby at_125) (by decide) (by decide) kQ) ?_
        show G (T799.setTop (mkF me_ 129 #[.val (.int p0), .val (.long p1), .second, .val (.int (1 : Int32)), .val (.int (1 : Int32)), .val (.int (1 : Int32)), .val (.ref b721), .val (.ref b735), .val (.ref b754), .val (.int (1 : Int32)), .unset] [(.int (1 : Int32))]))
        refine gv (fun tQ kQ => XS.istore X799.here hx rfl (hb hby at_129) rfl (l' := #[.val (.int p0), .val (.long p1), .second, .val (.int (1 : Int32)), .val (.int (1 : Int32)), .val (.int (1 : Int32)), .val (.ref b721), .val (.ref b735), .val (.ref b754), .val (.int (1 : Int32)), .unset]) rfl kQ) ?_
        show G (T799.setTop (mkF me_ 131 #[.val (.int p0), .val (.long p1), .second, .val (.int (1 : Int32)), .val (.int (1 : Int32)), .val (.int (1 : Int32)), .val (.ref b721), .val (.ref b735), .val (.ref b754), .val (.int (1 : Int32)), .unset] []))
        refine gv (fun tQ kQ => XS.iloadN X799.here hx rfl (hb hby at_131) rfl kQ) ?_
        show G (T799.setTop (mkF me_ 132 #[.val (.int p0), .val (.long p1), .second, .val (.int (1 : Int32)), .val (.int (1 : Int32)), .val (.int (1 : Int32)), .val (.ref b721), .val (.ref b735), .val (.ref b754), .val (.int (1 : Int32)), .unset] [(.int (1 : Int32))]))
        refine gv (fun tQ kQ => XS.ifNo X799.here hx rfl (hb hby at_132) rfl ((if0 _ _).trans (feq (by decide : ¬ ((1 : Int32) = (0 : Int32)))).1) kQ) ?_
        show G (T799.setTop (mkF me_ 135 #[.val (.int p0), .val (.long p1), .second, .val (.int (1 : Int32)), .val (.int (1 : Int32)), .val (.int (1 : Int32)), .val (.ref b721), .val (.ref b735), .val (.ref b754), .val (.int (1 : Int32)), .unset] []))
        refine gv (fun tQ kQ => XS.aload X799.here hx rfl (hb hby at_135) rfl rfl kQ) ?_
        show G (T799.setTop (mkF me_ 137 #[.val (.int p0), .val (.long p1), .second, .val (.int (1 : Int32)), .val (.int (1 : Int32)), .val (.int (1 : Int32)), .val (.ref b721), .val (.ref b735), .val (.ref b754), .val (.int (1 : Int32)), .unset] [(.ref b754)]))
        refine gv (fun tQ kQ => XS.aload X799.here hx rfl (hb hby at_137) rfl rfl kQ) ?_
        show G (T799.setTop (mkF me_ 139 #[.val (.int p0), .val (.long p1), .second, .val (.int (1 : Int32)), .val (.int (1 : Int32)), .val (.int (1 : Int32)), .val (.ref b721), .val (.ref b735), .val (.ref b754), .val (.int (1 : Int32)), .unset] [(.ref b721), (.ref b754)]))
        obtain ⟨cq801, kq801, q801a, q801b, q801c⟩ := isOf hZ eq799 f792
        obtain ⟨_, _, ⟨T801, L801, k801, n801⟩, -, X801, ⟨Lc801, hQ801, l801, y801, z801⟩, st801⟩ := X799.virtualBack hx (y := (⟨"com/example/closemark/closemark/prices/StandingQuotes", "add", "(Lcom/example/closemark/closemark/tape/TapeRow;)V"⟩ : MethodName)) (z := (⟨"com/example/closemark/closemark/prices/StandingQuotes", "add", "(Lcom/example/closemark/closemark/tape/TapeRow;)V"⟩ : MethodName)) hown (mvT hZ (hw _ (List.mem_of_getElem? (i := 59) rfl))) (mvT hZ (hw _ (List.mem_of_getElem? (i := 60) rfl))) (notFace_of_selects (args := #[]) (mvT hZ (hw _ (List.mem_of_getElem? (i := 62) rfl)))) (mvT hZ (hw _ (List.mem_of_getElem? (i := 62) rfl))) (mvT hZ (hw _ (List.mem_of_getElem? (i := 61) rfl))) (by decide) (backOf (W := 0) (rm_addB l Z a0 hw [] b754 b721 x_766 A_BID h786 n0 O798 f788 u0 f789 f793 f795 f797 g771) hZ (hw _ (List.mem_of_getElem? (i := 63) rfl)) (hw _ (List.mem_of_getElem? (i := 31) rfl)) (by decide) (by decide)) q801a q801c (g := (mkF me_ 139 #[.val (.int p0), .val (.long p1), .second, .val (.int (1 : Int32)), .val (.int (1 : Int32)), .val (.int (1 : Int32)), .val (.ref b721), .val (.ref b735), .val (.ref b754), .val (.int (1 : Int32)), .unset] [(.ref b721), (.ref b754)])) rfl (by rw [hml]; rfl) (Steps.refl _) (argsL := [(.ref b721)]) (rest := []) (lenOf pd_3 rfl) rfl (by show 2 * 0 + _ ≤ _; exact Nat.le_of_eq rfl) (hb hby at_139) (fun _ _ => ⟨rfl, eq799, (by decide : 5 + 0 ≤ _), (by decide : 14 + 0 ≤ _)⟩)
        dsimp only [Pt.U, Pt.locs, Pt.cells, Pt.slots] at X801 l801 y801 z801 st801 hQ801
        subst l801 y801 z801
        obtain ⟨rfl, Nq801, Kq801, w801_0, w801_1⟩ := hQ801
        have N802 := Fr.app N800 Nq801
        obtain ⟨h801, e801⟩ : ∃ z, T801.heap = z := ⟨_, rfl⟩
        rw [e801] at Kq801 w801_0 w801_1
        have f803 : Exa Z h801 b721 "com/example/closemark/closemark/tape/TapeRow" := f788.keep Kq801
        have f804 : Fld Z h801 b721 "com/example/closemark/closemark/tape/TapeRow" "kind" "Lcom/example/closemark/closemark/tape/TapeRow$Kind;" (.ref A_BID) := f789.keep Kq801 (ninS ne768 nin0)
        have f805 : Exa Z h801 b735 "com/example/closemark/closemark/tape/TapeRow" := f790.keep Kq801
        have f806 : Fld Z h801 b735 "com/example/closemark/closemark/tape/TapeRow" "kind" "Lcom/example/closemark/closemark/tape/TapeRow$Kind;" (.ref A_ASK) := f791.keep Kq801 (ninS ne769 nin0)
        have f807 : Exa Z h801 b754 "com/example/closemark/closemark/prices/StandingQuotes" := f792.keep Kq801
        have f808 : Fld Z h801 b754 "com/example/closemark/closemark/prices/StandingQuotes" "bid" "Lcom/example/closemark/closemark/prices/LatestRow;" (.ref x_766) := f793.keep Kq801 (ninS ne770 nin0)
        have f809 : Fld Z h801 b754 "com/example/closemark/closemark/prices/StandingQuotes" "ask" "Lcom/example/closemark/closemark/prices/LatestRow;" (.ref y_766) := f794.keep Kq801 (ninS ne770 nin0)
        have f810 : Exa Z h801 x_766 "com/example/closemark/closemark/prices/LatestRow" := f795.keep Kq801
        have f811 : Exa Z h801 y_766 "com/example/closemark/closemark/prices/LatestRow" := w786_0.keep Kq801
        have f812 : Fld Z h801 y_766 "com/example/closemark/closemark/prices/LatestRow" "row" "Lcom/example/closemark/closemark/tape/TapeRow;" (.ref b735) := w786_1.keep Kq801 (ninS (Ne.symm w766_2) nin0)
        have O813 := O798.keep Kq801 (allS g771 all0)
        refine gv (fun tQ kQ => st801.trans kQ) ?_
        show G (T801.setTop (mkF me_ 142 #[.val (.int p0), .val (.long p1), .second, .val (.int (1 : Int32)), .val (.int (1 : Int32)), .val (.int (1 : Int32)), .val (.ref b721), .val (.ref b735), .val (.ref b754), .val (.int (1 : Int32)), .unset] []))
        refine gv (fun tQ kQ => XS.goto X801.here hx rfl (pc0 := 142) (pc' := 188) rfl (hb hby at_142) (by decide) (by decide) kQ) ?_
        show G (T801.setTop (mkF me_ 188 #[.val (.int p0), .val (.long p1), .second, .val (.int (1 : Int32)), .val (.int (1 : Int32)), .val (.int (1 : Int32)), .val (.ref b721), .val (.ref b735), .val (.ref b754), .val (.int (1 : Int32)), .unset] []))
        refine gv (fun tQ kQ => XS.iloadN X801.here hx rfl (hb hby at_188) rfl kQ) ?_
        show G (T801.setTop (mkF me_ 189 #[.val (.int p0), .val (.long p1), .second, .val (.int (1 : Int32)), .val (.int (1 : Int32)), .val (.int (1 : Int32)), .val (.ref b721), .val (.ref b735), .val (.ref b754), .val (.int (1 : Int32)), .unset] [(.int (1 : Int32))]))
        refine gv (fun tQ kQ => XS.ifNo X801.here hx rfl (hb hby at_189) rfl ((if0 _ _).trans (feq (by decide : ¬ ((1 : Int32) = (0 : Int32)))).1) kQ) ?_
        show G (T801.setTop (mkF me_ 192 #[.val (.int p0), .val (.long p1), .second, .val (.int (1 : Int32)), .val (.int (1 : Int32)), .val (.int (1 : Int32)), .val (.ref b721), .val (.ref b735), .val (.ref b754), .val (.int (1 : Int32)), .unset] []))
        refine gv (fun tQ kQ => XS.iload X801.here hx rfl (hb hby at_192) rfl kQ) ?_
        show G (T801.setTop (mkF me_ 194 #[.val (.int p0), .val (.long p1), .second, .val (.int (1 : Int32)), .val (.int (1 : Int32)), .val (.int (1 : Int32)), .val (.ref b721), .val (.ref b735), .val (.ref b754), .val (.int (1 : Int32)), .unset] [(.int (1 : Int32))]))
        refine gv (fun tQ kQ => XS.ifNo X801.here hx rfl (hb hby at_194) rfl ((if0 _ _).trans (feq (by decide : ¬ ((1 : Int32) = (0 : Int32)))).1) kQ) ?_
        show G (T801.setTop (mkF me_ 197 #[.val (.int p0), .val (.long p1), .second, .val (.int (1 : Int32)), .val (.int (1 : Int32)), .val (.int (1 : Int32)), .val (.ref b721), .val (.ref b735), .val (.ref b754), .val (.int (1 : Int32)), .unset] []))
        refine gv (fun tQ kQ => XS.iconst X801.here hx rfl (hb hby at_197) kQ) ?_
        show G (T801.setTop (mkF me_ 198 #[.val (.int p0), .val (.long p1), .second, .val (.int (1 : Int32)), .val (.int (1 : Int32)), .val (.int (1 : Int32)), .val (.ref b721), .val (.ref b735), .val (.ref b754), .val (.int (1 : Int32)), .unset] [(.int (1 : Int32))]))
        refine gv (fun tQ kQ => XS.goto X801.here hx rfl (pc0 := 198) (pc' := 202) rfl (hb hby at_198) (by decide) (by decide) kQ) ?_
        show G (T801.setTop (mkF me_ 202 #[.val (.int p0), .val (.long p1), .second, .val (.int (1 : Int32)), .val (.int (1 : Int32)), .val (.int (1 : Int32)), .val (.ref b721), .val (.ref b735), .val (.ref b754), .val (.int (1 : Int32)), .unset] [(.int (1 : Int32))]))
        refine gv (fun tQ kQ => XS.istore X801.here hx rfl (hb hby at_202) rfl (l' := #[.val (.int p0), .val (.long p1), .second, .val (.int (1 : Int32)), .val (.int (1 : Int32)), .val (.int (1 : Int32)), .val (.ref b721), .val (.ref b735), .val (.ref b754), .val (.int (1 : Int32)), .val (.int (1 : Int32))]) rfl kQ) ?_
        show G (T801.setTop (mkF me_ 204 #[.val (.int p0), .val (.long p1), .second, .val (.int (1 : Int32)), .val (.int (1 : Int32)), .val (.int (1 : Int32)), .val (.ref b721), .val (.ref b735), .val (.ref b754), .val (.int (1 : Int32)), .val (.int (1 : Int32))] []))
        refine gv (fun tQ kQ => XS.iload X801.here hx rfl (hb hby at_204) rfl kQ) ?_
        show G (T801.setTop (mkF me_ 206 #[.val (.int p0), .val (.long p1), .second, .val (.int (1 : Int32)), .val (.int (1 : Int32)), .val (.int (1 : Int32)), .val (.ref b721), .val (.ref b735), .val (.ref b754), .val (.int (1 : Int32)), .val (.int (1 : Int32))] [(.int (1 : Int32))]))
        refine gv (fun tQ kQ => XS.ifNo X801.here hx rfl (hb hby at_206) rfl ((if0 _ _).trans (feq (by decide : ¬ ((1 : Int32) = (0 : Int32)))).1) kQ) ?_
        show G (T801.setTop (mkF me_ 209 #[.val (.int p0), .val (.long p1), .second, .val (.int (1 : Int32)), .val (.int (1 : Int32)), .val (.int (1 : Int32)), .val (.ref b721), .val (.ref b735), .val (.ref b754), .val (.int (1 : Int32)), .val (.int (1 : Int32))] []))
        refine gv (fun tQ kQ => XS.aload X801.here hx rfl (hb hby at_209) rfl rfl kQ) ?_
        show G (T801.setTop (mkF me_ 211 #[.val (.int p0), .val (.long p1), .second, .val (.int (1 : Int32)), .val (.int (1 : Int32)), .val (.int (1 : Int32)), .val (.ref b721), .val (.ref b735), .val (.ref b754), .val (.int (1 : Int32)), .val (.int (1 : Int32))] [(.ref b754)]))
        obtain ⟨cq814, kq814, q814a, q814b, q814c⟩ := isOf hZ e801 f807
        obtain ⟨_, _, ⟨T814, L814, k814, n814⟩, -, X814, ⟨Lc814, hQ814, l814, y814, z814⟩, st814⟩ := X801.virtualBack hx (y := (⟨"com/example/closemark/closemark/prices/StandingQuotes", "hasBidAndAsk", "()Z"⟩ : MethodName)) (z := (⟨"com/example/closemark/closemark/prices/StandingQuotes", "hasBidAndAsk", "()Z"⟩ : MethodName)) hown (mvT hZ (hw _ (List.mem_of_getElem? (i := 47) rfl))) (mvT hZ (hw _ (List.mem_of_getElem? (i := 48) rfl))) (notFace_of_selects (args := #[]) (mvT hZ (hw _ (List.mem_of_getElem? (i := 50) rfl)))) (mvT hZ (hw _ (List.mem_of_getElem? (i := 50) rfl))) (mvT hZ (hw _ (List.mem_of_getElem? (i := 49) rfl))) (by decide) (backOf (W := 0) (rm_hb2 l Z a0 hw [] b754 x_766 y_766 b721 b735 h801 n0 O813 f808 w801_0 w801_1 f809 f811 f812) hZ (hw _ (List.mem_of_getElem? (i := 51) rfl)) (hw _ (List.mem_of_getElem? (i := 31) rfl)) (by decide) (by decide)) q814a q814c (g := (mkF me_ 211 #[.val (.int p0), .val (.long p1), .second, .val (.int (1 : Int32)), .val (.int (1 : Int32)), .val (.int (1 : Int32)), .val (.ref b721), .val (.ref b735), .val (.ref b754), .val (.int (1 : Int32)), .val (.int (1 : Int32))] [(.ref b754)])) rfl (by rw [hml]; rfl) (Steps.refl _) (argsL := []) (rest := []) (lenOf pd_5 rfl) rfl (by show 2 * 0 + _ ≤ _; exact Nat.le_of_eq rfl) (hb hby at_211) (fun _ _ => ⟨rfl, e801, (by decide : 5 + 0 ≤ _), (by decide : 14 + 0 ≤ _)⟩)
        dsimp only [Pt.U, Pt.locs, Pt.cells, Pt.slots] at X814 l814 y814 z814 st814 hQ814
        subst l814 y814 z814
        obtain ⟨rfl, Nq814, eq814⟩ := hQ814
        have N815 := Fr.app N802 Nq814
        refine gv (fun tQ kQ => st814.trans kQ) ?_
        show G (T814.setTop (mkF me_ 214 #[.val (.int p0), .val (.long p1), .second, .val (.int (1 : Int32)), .val (.int (1 : Int32)), .val (.int (1 : Int32)), .val (.ref b721), .val (.ref b735), .val (.ref b754), .val (.int (1 : Int32)), .val (.int (1 : Int32))] [(.int (1 : Int32))]))
        refine gv (fun tQ kQ => XS.iload X814.here hx rfl (hb hby at_214) rfl kQ) ?_
        show G (T814.setTop (mkF me_ 216 #[.val (.int p0), .val (.long p1), .second, .val (.int (1 : Int32)), .val (.int (1 : Int32)), .val (.int (1 : Int32)), .val (.ref b721), .val (.ref b735), .val (.ref b754), .val (.int (1 : Int32)), .val (.int (1 : Int32))] [(.int (1 : Int32)), (.int (1 : Int32))]))
        refine gv (fun tQ kQ => XS.icmpNo X814.here hx rfl (hb hby at_216) rfl (teq (by decide : (1 : Int32) = (1 : Int32))).2 kQ) ?_
        show G (T814.setTop (mkF me_ 219 #[.val (.int p0), .val (.long p1), .second, .val (.int (1 : Int32)), .val (.int (1 : Int32)), .val (.int (1 : Int32)), .val (.ref b721), .val (.ref b735), .val (.ref b754), .val (.int (1 : Int32)), .val (.int (1 : Int32))] []))
        refine gv (fun tQ kQ => XS.iconst X814.here hx rfl (hb hby at_219) kQ) ?_
        show G (T814.setTop (mkF me_ 220 #[.val (.int p0), .val (.long p1), .second, .val (.int (1 : Int32)), .val (.int (1 : Int32)), .val (.int (1 : Int32)), .val (.ref b721), .val (.ref b735), .val (.ref b754), .val (.int (1 : Int32)), .val (.int (1 : Int32))] [(.int (1 : Int32))]))
        refine gv (fun tQ kQ => XS.goto X814.here hx rfl (pc0 := 220) (pc' := 224) rfl (hb hby at_220) (by decide) (by decide) kQ) ?_
        show G (T814.setTop (mkF me_ 224 #[.val (.int p0), .val (.long p1), .second, .val (.int (1 : Int32)), .val (.int (1 : Int32)), .val (.int (1 : Int32)), .val (.ref b721), .val (.ref b735), .val (.ref b754), .val (.int (1 : Int32)), .val (.int (1 : Int32))] [(.int (1 : Int32))]))
        refine gf _ (own_ret X814 Bd.notSynchronized (v := some (.int (1 : Int32))) (fun h => by rw [Bd.returns] at h; cases h) ?_ (by decide) (by decide) (fun fs hr => retN X814 hx (t := .boolean) Bd.returns (by simp) (hb hby at_224) hr))
        show Q0 Z p0 p1 A_BID A_ASK h0 n0 _ T814.heap _
        rw [eq814]
        exact ⟨rfl, N815⟩
set_option maxRecDepth 65536 in
set_option maxHeartbeats 40000000 in
theorem comes_1 {Post : Tables → Env → Array Value → State → Outcome → State → Prop} (hpost : ∀ tb e args s v u, (limb_1_1.after args s (.returned v) u = true ∧ limb_1_2.after args s (.returned v) u = true ∧ True) → FrameEnd s (.returned v) u (Jvm.fieldLocs frame_1_writes args s ++ Jvm.arrayLocs frame_1_arrays args s ++ Jvm.staticLocs frame_1_statics s) 24 128 → Post tb e args s (.returned v) u) :
    ArmFor flags0 classFile x code maxLocals ret World_1 tables_1 room_1 Calls_1 rest_1 Pre_1 Post := by
  intro l hfl _ _ p e ha hc hk s m args below hf hA hF happ hP
  obtain ⟨hcalls, hrest, hpre⟩ := hP
  obtain ⟨-, -, -, hnamed, -, -, -, hat⟩ := (Spec.applies_iff hf).mp happ
  obtain ⟨hg, hn⟩ := and_e (Cond.before_iff.mp (show (Jvm.Cond.and given_1 narrow_1).before args s = true from hpre))
  obtain ⟨g1, g2⟩ := and_e hg
  obtain ⟨g3, g4⟩ := and_e g2
  obtain ⟨g5, g6⟩ := and_e hn
  obtain ⟨g7, g8⟩ := and_e g6
  obtain ⟨g9, g10⟩ := and_e g8
  obtain ⟨w0, w1, rfl⟩ : ∃ w0 w1 : Value, args = #[w0, w1] := by
    have hs : args.size = 2 := by simpa [Cond.value, given_1] using g1
    obtain ⟨L⟩ := args
    match L, hs with
    | [w0, w1], _ => exact ⟨w0, w1, rfl⟩
  have hw := fun d (hd : d ∈ tables_1) => atoms_spec (ws := Jvm.Cond.code x code maxLocals ret :: tables_1) hat d (List.mem_cons_of_mem _ hd)
  have hfit : Fit s := fun {y c} hc i hi => by
    obtain ⟨ha, rfl⟩ := Array.getElem?_eq_some_iff.mp hc
    have q := List.all_eq_true.mp ((Array.all_eq_true_iff_forall_mem.mp hF) _ (Array.getElem_mem ha)) i (List.mem_range.mpr hi)
    simpa [Array.getElem?_eq_getElem hi] using q
  obtain ⟨i0, ei0⟩ := is_v g3
  obtain rfl : w0 = (.int i0) := Option.some.inj ei0
  obtain ⟨i1, ei1⟩ := isL_v g4
  obtain rfl : w1 = (.long i1) := Option.some.inj ei1
  obtain ⟨A_BID, ev_BID, E_BID⟩ := own_exa g5
  have S_BID : Sta s s.heap "com/example/closemark/closemark/tape/TapeRow$Kind" "BID" "Lcom/example/closemark/closemark/tape/TapeRow$Kind;" (.ref A_BID) := Sta.start ev_BID (Or.inr ⟨(hw _ (List.mem_of_getElem? (i := 4) rfl)), (hw _ (List.mem_of_getElem? (i := 5) rfl))⟩)
  obtain ⟨A_ASK, ev_ASK, E_ASK⟩ := own_exa g7
  have S_ASK : Sta s s.heap "com/example/closemark/closemark/tape/TapeRow$Kind" "ASK" "Lcom/example/closemark/closemark/tape/TapeRow$Kind;" (.ref A_ASK) := Sta.start ev_ASK (Or.inr ⟨(hw _ (List.mem_of_getElem? (i := 4) rfl)), (hw _ (List.mem_of_getElem? (i := 28) rfl))⟩)
  have F_ASK_ordinal := own_fint ev_ASK g9
  have F_BID_ordinal := own_fint ev_BID g10
  obtain ⟨n, o, h1, h2, h3, _, L, rfl, ⟨rfl, N⟩, hq⟩ := rm0 l s _ hw tables_1 i0 i1 A_BID A_ASK s.heap s.heap.size (Old.start s) S_BID S_ASK (Fld.ne F_ASK_ordinal F_BID_ordinal (by simp)) p e ha hc hk s m _ below hf ((Spec.applies_iff_loose hf).mp happ).1 ⟨rfl, State.Warmed39.refl s, rfl⟩ trivial
  refine ⟨n, _, h1, h2, h3, hpost _ _ _ _ _ _ ⟨Cond.after_iff.mpr rfl, Cond.after_iff.mpr (eq_i res_at (Term.int_eval (1)) rfl), trivial⟩ ⟨hq.1, hq.2.1, (hq.2.2.sift fun y hy => Or.inr (N y hy)).mono (by decide) (by decide)⟩⟩
theorem main_1_1 : Claimed_1_1 := comes_1 fun _ _ _ _ _ _ h hF => ⟨h.1, hF⟩
theorem main_1_2 : Claimed_1_2 := comes_1 fun _ _ _ _ _ _ h hF => ⟨h.2.1, hF⟩
end Jvm.Pilot.@@N@@
namespace Jvm.Pilot.@@N@@
open Jvm Jvm.ClassFile Sem Op Lib Jvm.Free Jvm.Stand Jvm.Pilot.@@N@@.Jvm.D
/-! MADE BY PROGRAM (witnessworld.py) out of the Statement's table words and the real class files: 16 classes; the members and pool entries that the words name. The judged class is class 1, her method 1. -/
namespace start1
open Jvm.ClassFile
def u (s : String) : CpInfo := .utf8 (stringToUtf16 s)
/-- a pool by its gaps: so many unusable entries, then the entry; so many at the end -/
def gap : Nat → List CpInfo → List CpInfo
  | 0, r => r
  | n + 1, r => .unusable :: gap n r
def poolList (es : List (Nat × CpInfo)) (last : Nat) : List CpInfo := es.foldr (fun e r => gap e.1 (e.2 :: r)) (gap last [])
def pool (es : List (Nat × CpInfo)) (last : Nat) : Array CpInfo := ⟨poolList es last⟩
def fileOf (pool : Array CpInfo) (this : Nat) (attrs : Array Attribute := #[]) (ms : Array MethodInfo := #[]) (fl : Nat := 33) (sup : Nat := 0) (ifs : Array Nat := #[]) (fds : Array FieldInfo := #[]) : ClassFile where
  minorVersion := 0
  majorVersion := 65
  constantPool := pool
  accessFlags := fl
  thisClass := this
  superClass := sup
  interfaces := ifs
  fields := fds
  methods := ms
  attributes := attrs
def plain (name : String) (sup : Option ClassId) : Class where
  name := name
  kind := .ordinary
  loader := none
  accessFlags := 33
  super := sup
  interfaces := #[]
  cf := none
  fields := #[]
  methods := #[]
  instanceTypes := #[]
  staticTypes := #[]
  resolved := #[]
  callSites := []
  init := .initialized
  statics := none
  mirror := none

def pool0 : Array CpInfo := pool [(5, u "<init>"), (0, u "()V"), (1, .class_ 10), (1, u "java/lang/Object")] 113

def k0c0 : Code := { maxStack := 0, maxLocals := 1, code := object_method_1_code, exceptionTable := #[], attributes := #[] }
def k0m0 : Method := { name := "<init>", desc := "()V", sig := { parameters := [], returnType := none }, accessFlags := 1, code := some k0c0 }
/-- java/lang/Object -/
def k0 : Class := { plain "java/lang/Object" none with
  accessFlags := 33
  interfaces := #[]
  cf := some (fileOf pool0 8 #[] #[{ accessFlags := 1, nameIndex := 5, descriptorIndex := 6, attributes := #[] }] 33 0 #[] #[])
  fields := #[]
  methods := #[k0m0]
  instanceTypes := #[]
  staticTypes := #[]
  resolved := Array.replicate 124 none
  statics := none }

def pool1 : Array CpInfo := pool [(2, .class_ 4), (0, .nameAndType 5 6), (0, u "java/lang/Object"), (0, u "<init>"), (0, u "()V"), (0, .class_ 8), (0, u "com/example/closemark/closemark/tape/TapeRow"), (0, .fieldref 10 11), (0, .class_ 12), (0, .nameAndType 13 14), (0, u "com/example/closemark/closemark/tape/TapeRow$Kind"), (0, u "BID"), (0, u "Lcom/example/closemark/closemark/tape/TapeRow$Kind;"), (0, .methodref 7 16), (0, .nameAndType 5 17), (0, u "(Ljava/time/Instant;Ljava/lang/String;Lcom/example/closemark/closemark/tape/TapeRow$Kind;Ljava/math/BigDecimal;J)V"), (0, .fieldref 10 19), (0, .nameAndType 20 14), (0, u "ASK"), (0, .class_ 22), (0, u "com/example/closemark/closemark/prices/StandingQuotes"), (0, .methodref 21 3), (0, .methodref 21 25), (0, .nameAndType 26 27), (0, u "hasBidAndAsk"), (0, u "()Z"), (0, .methodref 21 29), (0, .nameAndType 30 31), (0, u "add"), (0, u "(Lcom/example/closemark/closemark/tape/TapeRow;)V"), (0, .class_ 33), (0, u "com/example/closemark/closemark/prices/StandingQuotesHasBidAndAskPinLaw"), (2, u "law"), (0, u "(IJ)Z")] 5

def k1m0 : Method := { name := "<init>", desc := "()V", sig := { parameters := [], returnType := none }, accessFlags := 1, code := none }
def k1c1 : Code := { maxStack := 8, maxLocals := 11, code := code, exceptionTable := #[], attributes := #[] }
def k1m1 : Method := { name := "law", desc := "(IJ)Z", sig := { parameters := [.int, .long], returnType := some .boolean }, accessFlags := 9, code := some k1c1 }
/-- com/example/closemark/closemark/prices/StandingQuotesHasBidAndAskPinLaw -/
def k1 : Class := { plain "com/example/closemark/closemark/prices/StandingQuotesHasBidAndAskPinLaw" (some 0) with
  accessFlags := 49
  interfaces := #[]
  cf := some (fileOf pool1 32 #[] #[{ accessFlags := 1, nameIndex := 5, descriptorIndex := 6, attributes := #[] }, { accessFlags := 9, nameIndex := 36, descriptorIndex := 37, attributes := #[] }] 49 2 #[] #[])
  fields := #[]
  methods := #[k1m0, k1m1]
  instanceTypes := #[]
  staticTypes := #[]
  resolved := Array.replicate 43 none
  statics := none }

def pool2 : Array CpInfo := pool [(1, .methodref 2 3), (0, .class_ 4), (0, .nameAndType 5 6), (0, u "java/lang/Object"), (0, u "<init>"), (0, u "()V"), (0, .class_ 8), (0, u "java/lang/Record")] 13

def k2c0 : Code := { maxStack := 1, maxLocals := 1, code := jdk_30_method_1_code, exceptionTable := #[], attributes := #[] }
def k2m0 : Method := { name := "<init>", desc := "()V", sig := { parameters := [], returnType := none }, accessFlags := 4, code := some k2c0 }
/-- java/lang/Record -/
def k2 : Class := { plain "java/lang/Record" (some 0) with
  accessFlags := 1057
  interfaces := #[]
  cf := some (fileOf pool2 7 #[] #[{ accessFlags := 4, nameIndex := 5, descriptorIndex := 6, attributes := #[] }] 1057 2 #[] #[])
  fields := #[]
  methods := #[k2m0]
  instanceTypes := #[]
  staticTypes := #[]
  resolved := Array.replicate 22 none
  statics := none }

def pool3 : Array CpInfo := pool [(1, .methodref 2 3), (0, .class_ 4), (0, .nameAndType 5 6), (0, u "java/lang/Record"), (0, u "<init>"), (0, u "()V"), (0, .fieldref 8 9), (0, .class_ 10), (0, .nameAndType 11 12), (0, u "com/example/closemark/closemark/tape/TapeRow"), (0, u "time"), (0, u "Ljava/time/Instant;"), (0, .fieldref 8 14), (0, .nameAndType 15 16), (0, u "symbol"), (0, u "Ljava/lang/String;"), (0, .fieldref 8 18), (0, .nameAndType 19 20), (0, u "kind"), (0, u "Lcom/example/closemark/closemark/tape/TapeRow$Kind;"), (0, .fieldref 8 22), (0, .nameAndType 23 24), (0, u "price"), (0, u "Ljava/math/BigDecimal;"), (0, .fieldref 8 26), (0, .nameAndType 27 28), (0, u "qty"), (0, u "J"), (12, u "(Ljava/time/Instant;Ljava/lang/String;Lcom/example/closemark/closemark/tape/TapeRow$Kind;Ljava/math/BigDecimal;J)V"), (7, u "()Lcom/example/closemark/closemark/tape/TapeRow$Kind;"), (5, .class_ 56), (0, u "com/example/closemark/closemark/tape/TapeRow$Kind")] 23

def k3c0 : Code := { maxStack := 3, maxLocals := 7, code := prog_65_method_1_code, exceptionTable := #[], attributes := #[] }
def k3m0 : Method := { name := "<init>", desc := "(Ljava/time/Instant;Ljava/lang/String;Lcom/example/closemark/closemark/tape/TapeRow$Kind;Ljava/math/BigDecimal;J)V", sig := { parameters := [(.object "java/time/Instant"), (.object "java/lang/String"), (.object "com/example/closemark/closemark/tape/TapeRow$Kind"), (.object "java/math/BigDecimal"), .long], returnType := none }, accessFlags := 1, code := some k3c0 }
def k3c1 : Code := { maxStack := 1, maxLocals := 1, code := prog_65_method_7_code, exceptionTable := #[], attributes := #[] }
def k3m1 : Method := { name := "kind", desc := "()Lcom/example/closemark/closemark/tape/TapeRow$Kind;", sig := { parameters := [], returnType := some (.object "com/example/closemark/closemark/tape/TapeRow$Kind") }, accessFlags := 1, code := some k3c1 }
/-- com/example/closemark/closemark/tape/TapeRow -/
def k3 : Class := { plain "com/example/closemark/closemark/tape/TapeRow" (some 2) with
  accessFlags := 49
  interfaces := #[]
  cf := some (fileOf pool3 8 #[.nestMembers #[55]] #[{ accessFlags := 1, nameIndex := 5, descriptorIndex := 41, attributes := #[] }, { accessFlags := 1, nameIndex := 19, descriptorIndex := 49, attributes := #[] }] 49 2 #[] #[{ accessFlags := 18, nameIndex := 11, descriptorIndex := 12, attributes := #[] }, { accessFlags := 18, nameIndex := 15, descriptorIndex := 16, attributes := #[] }, { accessFlags := 18, nameIndex := 19, descriptorIndex := 20, attributes := #[] }, { accessFlags := 18, nameIndex := 23, descriptorIndex := 24, attributes := #[] }, { accessFlags := 18, nameIndex := 27, descriptorIndex := 28, attributes := #[] }])
  fields := #[{ name := "time", type := (.object "java/time/Instant"), accessFlags := 18, slot := 0, constantValue := 0 }, { name := "symbol", type := (.object "java/lang/String"), accessFlags := 18, slot := 1, constantValue := 0 }, { name := "kind", type := (.object "com/example/closemark/closemark/tape/TapeRow$Kind"), accessFlags := 18, slot := 2, constantValue := 0 }, { name := "price", type := (.object "java/math/BigDecimal"), accessFlags := 18, slot := 3, constantValue := 0 }, { name := "qty", type := .long, accessFlags := 18, slot := 4, constantValue := 0 }]
  methods := #[k3m0, k3m1]
  instanceTypes := #[(.object "java/time/Instant"), (.object "java/lang/String"), (.object "com/example/closemark/closemark/tape/TapeRow$Kind"), (.object "java/math/BigDecimal"), .long]
  staticTypes := #[]
  resolved := Array.replicate 80 none
  statics := none }

def pool4 : Array CpInfo := pool [(1, .class_ 2), (0, u "java/lang/constant/Constable"), (0, .class_ 4), (0, u "java/lang/Object")] 6

/-- java/lang/constant/Constable -/
def k4 : Class := { plain "java/lang/constant/Constable" (some 0) with
  accessFlags := 1537
  interfaces := #[]
  cf := some (fileOf pool4 1 #[] #[] 1537 3 #[] #[])
  fields := #[]
  methods := #[]
  instanceTypes := #[]
  staticTypes := #[]
  resolved := Array.replicate 11 none
  statics := none }

def pool5 : Array CpInfo := pool [(1, .class_ 2), (0, u "java/lang/Comparable"), (0, .class_ 4), (0, u "java/lang/Object")] 7

/-- java/lang/Comparable -/
def k5 : Class := { plain "java/lang/Comparable" (some 0) with
  accessFlags := 1537
  interfaces := #[]
  cf := some (fileOf pool5 1 #[] #[] 1537 3 #[] #[])
  fields := #[]
  methods := #[]
  instanceTypes := #[]
  staticTypes := #[]
  resolved := Array.replicate 12 none
  statics := none }

def pool6 : Array CpInfo := pool [(1, .class_ 2), (0, u "java/io/Serializable"), (0, .class_ 4), (0, u "java/lang/Object")] 2

/-- java/io/Serializable -/
def k6 : Class := { plain "java/io/Serializable" (some 0) with
  accessFlags := 1537
  interfaces := #[]
  cf := some (fileOf pool6 1 #[] #[] 1537 3 #[] #[])
  fields := #[]
  methods := #[]
  instanceTypes := #[]
  staticTypes := #[]
  resolved := Array.replicate 7 none
  statics := none }

def pool7 : Array CpInfo := pool [(2, .class_ 4), (1, u "java/lang/Enum"), (0, u "name"), (0, u "Ljava/lang/String;"), (2, u "ordinal"), (0, u "I"), (1, .class_ 14), (1, u "java/lang/Object"), (4, u "hash"), (86, .class_ 108), (1, u "java/lang/Enum$EnumDesc"), (2, .class_ 112), (0, u "java/lang/constant/Constable"), (0, .class_ 114), (0, u "java/lang/Comparable"), (0, .class_ 116), (0, u "java/io/Serializable")] 87

/-- java/lang/Enum -/
def k7 : Class := { plain "java/lang/Enum" (some 0) with
  accessFlags := 1057
  interfaces := #[4, 5, 6]
  cf := some (fileOf pool7 2 #[.nestMembers #[106]] #[] 1057 12 #[111, 113, 115] #[{ accessFlags := 18, nameIndex := 5, descriptorIndex := 6, attributes := #[] }, { accessFlags := 18, nameIndex := 9, descriptorIndex := 10, attributes := #[] }, { accessFlags := 2, nameIndex := 19, descriptorIndex := 10, attributes := #[] }])
  fields := #[{ name := "name", type := (.object "java/lang/String"), accessFlags := 18, slot := 0, constantValue := 0 }, { name := "ordinal", type := .int, accessFlags := 18, slot := 1, constantValue := 0 }, { name := "hash", type := .int, accessFlags := 2, slot := 2, constantValue := 0 }]
  methods := #[]
  instanceTypes := #[(.object "java/lang/String"), .int, .int]
  staticTypes := #[]
  resolved := Array.replicate 204 none
  statics := none }

def pool8 : Array CpInfo := pool [(1, .class_ 2), (0, u "com/example/closemark/closemark/tape/TapeRow$Kind"), (2, u "TRADE"), (0, u "Lcom/example/closemark/closemark/tape/TapeRow$Kind;"), (2, u "TAS"), (2, u "TAM"), (2, u "BID"), (2, u "ASK"), (2, u "$VALUES"), (0, u "[Lcom/example/closemark/closemark/tape/TapeRow$Kind;"), (6, .class_ 31), (1, u "java/lang/Enum"), (45, .class_ 78), (0, u "com/example/closemark/closemark/tape/TapeRow")] 2

/-- com/example/closemark/closemark/tape/TapeRow$Kind -/
def k8 : Class := { plain "com/example/closemark/closemark/tape/TapeRow$Kind" (some 7) with
  accessFlags := 16433
  interfaces := #[]
  cf := some (fileOf pool8 1 #[.nestHost 77] #[] 16433 29 #[] #[{ accessFlags := 16409, nameIndex := 5, descriptorIndex := 6, attributes := #[] }, { accessFlags := 16409, nameIndex := 9, descriptorIndex := 6, attributes := #[] }, { accessFlags := 16409, nameIndex := 12, descriptorIndex := 6, attributes := #[] }, { accessFlags := 16409, nameIndex := 15, descriptorIndex := 6, attributes := #[] }, { accessFlags := 16409, nameIndex := 18, descriptorIndex := 6, attributes := #[] }, { accessFlags := 4122, nameIndex := 21, descriptorIndex := 22, attributes := #[] }])
  fields := #[{ name := "TRADE", type := (.object "com/example/closemark/closemark/tape/TapeRow$Kind"), accessFlags := 16409, slot := 0, constantValue := 0 }, { name := "TAS", type := (.object "com/example/closemark/closemark/tape/TapeRow$Kind"), accessFlags := 16409, slot := 1, constantValue := 0 }, { name := "TAM", type := (.object "com/example/closemark/closemark/tape/TapeRow$Kind"), accessFlags := 16409, slot := 2, constantValue := 0 }, { name := "BID", type := (.object "com/example/closemark/closemark/tape/TapeRow$Kind"), accessFlags := 16409, slot := 3, constantValue := 0 }, { name := "ASK", type := (.object "com/example/closemark/closemark/tape/TapeRow$Kind"), accessFlags := 16409, slot := 4, constantValue := 0 }, { name := "$VALUES", type := (.array (.object "com/example/closemark/closemark/tape/TapeRow$Kind")), accessFlags := 4122, slot := 5, constantValue := 0 }]
  methods := #[]
  instanceTypes := #[(.object "java/lang/String"), .int, .int]
  staticTypes := #[(.object "com/example/closemark/closemark/tape/TapeRow$Kind"), (.object "com/example/closemark/closemark/tape/TapeRow$Kind"), (.object "com/example/closemark/closemark/tape/TapeRow$Kind"), (.object "com/example/closemark/closemark/tape/TapeRow$Kind"), (.object "com/example/closemark/closemark/tape/TapeRow$Kind"), (.array (.object "com/example/closemark/closemark/tape/TapeRow$Kind"))]
  resolved := Array.replicate 81 none
  statics := some 0 }

def pool9 : Array CpInfo := pool [(1, .methodref 2 3), (0, .class_ 4), (0, .nameAndType 5 6), (0, u "java/lang/Object"), (0, u "<init>"), (0, u "()V"), (0, .class_ 8), (0, u "com/example/closemark/closemark/prices/LatestRow"), (0, .methodref 7 3), (0, .fieldref 11 12), (0, .class_ 13), (0, .nameAndType 14 15), (0, u "com/example/closemark/closemark/prices/StandingQuotes"), (0, u "bid"), (0, u "Lcom/example/closemark/closemark/prices/LatestRow;"), (0, .fieldref 11 17), (0, .nameAndType 18 15), (0, u "ask"), (0, .methodref 20 21), (0, .class_ 22), (0, .nameAndType 23 24), (0, u "com/example/closemark/closemark/tape/TapeRow"), (0, u "kind"), (0, u "()Lcom/example/closemark/closemark/tape/TapeRow$Kind;"), (0, .fieldref 26 27), (0, .class_ 28), (0, .nameAndType 29 30), (0, u "com/example/closemark/closemark/tape/TapeRow$Kind"), (0, u "BID"), (0, u "Lcom/example/closemark/closemark/tape/TapeRow$Kind;"), (0, .methodref 7 32), (0, .nameAndType 33 34), (0, u "add"), (0, u "(Lcom/example/closemark/closemark/tape/TapeRow;)V"), (0, .fieldref 26 36), (0, .nameAndType 37 30), (0, u "ASK"), (19, .methodref 7 58), (0, .nameAndType 59 60), (0, u "row"), (0, u "()Lcom/example/closemark/closemark/tape/TapeRow;"), (2, u "hasBidAndAsk"), (0, u "()Z"), (18, u "TWO"), (0, u "Ljava/math/BigDecimal;")] 32

def k9c0 : Code := { maxStack := 3, maxLocals := 1, code := prog_45_method_1_code, exceptionTable := #[], attributes := #[] }
def k9m0 : Method := { name := "<init>", desc := "()V", sig := { parameters := [], returnType := none }, accessFlags := 1, code := some k9c0 }
def k9c1 : Code := { maxStack := 4, maxLocals := 2, code := prog_45_method_2_code, exceptionTable := #[], attributes := #[] }
def k9m1 : Method := { name := "add", desc := "(Lcom/example/closemark/closemark/tape/TapeRow;)V", sig := { parameters := [(.object "com/example/closemark/closemark/tape/TapeRow")], returnType := none }, accessFlags := 1, code := some k9c1 }
def k9c2 : Code := { maxStack := 1, maxLocals := 1, code := prog_45_method_5_code, exceptionTable := #[], attributes := #[] }
def k9m2 : Method := { name := "hasBidAndAsk", desc := "()Z", sig := { parameters := [], returnType := some .boolean }, accessFlags := 1, code := some k9c2 }
/-- com/example/closemark/closemark/prices/StandingQuotes -/
def k9 : Class := { plain "com/example/closemark/closemark/prices/StandingQuotes" (some 0) with
  accessFlags := 49
  interfaces := #[]
  cf := some (fileOf pool9 11 #[] #[{ accessFlags := 1, nameIndex := 5, descriptorIndex := 6, attributes := #[] }, { accessFlags := 1, nameIndex := 33, descriptorIndex := 34, attributes := #[] }, { accessFlags := 1, nameIndex := 63, descriptorIndex := 64, attributes := #[] }] 49 2 #[] #[{ accessFlags := 26, nameIndex := 83, descriptorIndex := 84, attributes := #[] }, { accessFlags := 18, nameIndex := 14, descriptorIndex := 15, attributes := #[] }, { accessFlags := 18, nameIndex := 18, descriptorIndex := 15, attributes := #[] }])
  fields := #[{ name := "TWO", type := (.object "java/math/BigDecimal"), accessFlags := 26, slot := 0, constantValue := 0 }, { name := "bid", type := (.object "com/example/closemark/closemark/prices/LatestRow"), accessFlags := 18, slot := 0, constantValue := 0 }, { name := "ask", type := (.object "com/example/closemark/closemark/prices/LatestRow"), accessFlags := 18, slot := 1, constantValue := 0 }]
  methods := #[k9m0, k9m1, k9m2]
  instanceTypes := #[(.object "com/example/closemark/closemark/prices/LatestRow"), (.object "com/example/closemark/closemark/prices/LatestRow")]
  staticTypes := #[(.object "java/math/BigDecimal")]
  resolved := Array.replicate 117 none
  statics := none }

def pool10 : Array CpInfo := pool [(1, .methodref 2 3), (0, .class_ 4), (0, .nameAndType 5 6), (0, u "java/lang/Object"), (0, u "<init>"), (0, u "()V"), (0, .fieldref 8 9), (0, .class_ 10), (0, .nameAndType 11 12), (0, u "com/example/closemark/closemark/prices/LatestRow"), (0, u "row"), (0, u "Lcom/example/closemark/closemark/tape/TapeRow;"), (14, u "add"), (0, u "(Lcom/example/closemark/closemark/tape/TapeRow;)V"), (1, u "()Lcom/example/closemark/closemark/tape/TapeRow;")] 2

def k10c0 : Code := { maxStack := 1, maxLocals := 1, code := prog_43_method_1_code, exceptionTable := #[], attributes := #[] }
def k10m0 : Method := { name := "<init>", desc := "()V", sig := { parameters := [], returnType := none }, accessFlags := 1, code := some k10c0 }
def k10c1 : Code := { maxStack := 2, maxLocals := 2, code := prog_43_method_2_code, exceptionTable := #[], attributes := #[] }
def k10m1 : Method := { name := "add", desc := "(Lcom/example/closemark/closemark/tape/TapeRow;)V", sig := { parameters := [(.object "com/example/closemark/closemark/tape/TapeRow")], returnType := none }, accessFlags := 1, code := some k10c1 }
def k10c2 : Code := { maxStack := 1, maxLocals := 1, code := prog_43_method_3_code, exceptionTable := #[], attributes := #[] }
def k10m2 : Method := { name := "row", desc := "()Lcom/example/closemark/closemark/tape/TapeRow;", sig := { parameters := [], returnType := some (.object "com/example/closemark/closemark/tape/TapeRow") }, accessFlags := 1, code := some k10c2 }
/-- com/example/closemark/closemark/prices/LatestRow -/
def k10 : Class := { plain "com/example/closemark/closemark/prices/LatestRow" (some 0) with
  accessFlags := 49
  interfaces := #[]
  cf := some (fileOf pool10 8 #[] #[{ accessFlags := 1, nameIndex := 5, descriptorIndex := 6, attributes := #[] }, { accessFlags := 1, nameIndex := 27, descriptorIndex := 28, attributes := #[] }, { accessFlags := 1, nameIndex := 11, descriptorIndex := 30, attributes := #[] }] 49 2 #[] #[{ accessFlags := 2, nameIndex := 11, descriptorIndex := 12, attributes := #[] }])
  fields := #[{ name := "row", type := (.object "com/example/closemark/closemark/tape/TapeRow"), accessFlags := 2, slot := 0, constantValue := 0 }]
  methods := #[k10m0, k10m1, k10m2]
  instanceTypes := #[(.object "com/example/closemark/closemark/tape/TapeRow")]
  staticTypes := #[]
  resolved := Array.replicate 33 none
  statics := none }

def pool11 : Array CpInfo := pool [(1, u "java/lang/Cloneable"), (0, .class_ 1), (0, u "java/lang/Object"), (0, .class_ 3)] 3

/-- java/lang/Cloneable -/
def k11 : Class := { plain "java/lang/Cloneable" (some 0) with
  accessFlags := 1537
  interfaces := #[]
  cf := some (fileOf pool11 2 #[] #[] 1537 4 #[] #[])
  fields := #[]
  methods := #[]
  instanceTypes := #[]
  staticTypes := #[]
  resolved := Array.replicate 8 none
  statics := none }

/-- the primitive byte -/
def k12 : Class := { plain "byte" none with kind := .primitive 'B', accessFlags := 0x411 }
/-- [B -/
def k13 : Class := { plain "[B" (some 0) with kind := .array 12 .byte, interfaces := #[11, 6], accessFlags := 1041 }

/-- the primitive int -/
def k14 : Class := { plain "int" none with kind := .primitive 'I', accessFlags := 0x411 }
/-- [I -/
def k15 : Class := { plain "[I" (some 0) with kind := .array 14 .int, interfaces := #[11, 6], accessFlags := 1041 }

def heap : Heap := #[{ cls := 8, slots := #[.null, .null, .null, .ref 1, .ref 2, .null], vm := .statics 8 },
  { cls := 8, slots := #[.null, .int 3, .int 0], vm := .none },
  { cls := 8, slots := #[.null, .int 4, .int 0], vm := .none }]
def classes : Array Class := #[k0, k1, k2, k3, k4, k5, k6, k7, k8, k9, k10, k11, k12, k13, k14, k15]
def interned : List (Array UInt16 × Addr) := []
def slotsUsed : Nat := 12
def theMethod : MethodId := ⟨1, 1⟩
def args0 : Array Value := #[.int 5, .long 3]
def aboutOver (below : List Frame) : State where
  vm := { classes := classes, interned := interned.toArray }
  heap := heap
  slotsUsed := slotsUsed
  threads := #[{ frames := .invoking theMethod args0 :: below }]
def below0 : List Frame := [.native { method := ⟨0, 0⟩, args := #[] }]
def about1 : State := aboutOver below0
def p0 : Program := .bare "" "" ""
def e0 : Env := launch0.env 0 0 0
theorem w_frames : about1.frames = Frame.invoking theMethod args0 :: below0 := rfl
set_option maxRecDepth 65536 in
theorem w_args : argsFit about1.vm theMethod args0 = true := by decide +kernel
set_option maxRecDepth 65536 in
theorem w_heap : heapFits about1 = true := by decide +kernel
set_option maxRecDepth 65536 in
theorem w_runnable : about1.curStatus? = some .runnable := by decide +kernel
set_option maxRecDepth 65536 in
theorem w_alone : about1.alone = true := by decide +kernel
set_option maxRecDepth 65536 in
theorem w_named : about1.methodNamed? x = some theMethod := by decide +kernel
set_option maxRecDepth 65536 in
theorem w_hears : about1.hears theMethod below0 = true := by decide +kernel
set_option maxRecDepth 65536 in
theorem w_ripe : about1.ripe theMethod args0 below0 = true := by decide +kernel
theorem w_running : about1.status = .running := rfl
set_option maxRecDepth 65536 in
theorem w_room : about1.hasRoom e0.platform room_1 = true :=
  launch0.hasRoom_least _ room_1 (by decide +kernel) (by decide +kernel) (by decide +kernel) (by decide +kernel) (by decide +kernel) (by decide +kernel)
theorem allAtoms_all (ts : List Jvm.Cond) (a : Array Jvm.Value) (st : Jvm.State) : (allAtoms ts).before a st = ts.all (fun c => c.before a st) := by
  induction ts with
  | nil => rfl
  | cons c t ih =>
    show (Jvm.Cond.and c (allAtoms t)).before a st = _
    rw [Jvm.Cond.before_and, ih, List.all_cons]
def words1 : List Jvm.Cond := Jvm.Cond.code x code maxLocals ret :: tables_1
/-- a 'code' word, met by the world's own term for the bytes: nothing is compared byte by byte -/
theorem code_word {y : MethodName} {bytes : ByteArray} {mx : Nat} {rt : Option FieldType} {a : Array Value} {s : State} {m : MethodId} {meth : Method} {c : Code} (h1 : s.methodNamed? y = some m) (h2 : s.vm.method? m = some meth) (h3 : meth.code = some c) (h4 : c.code = bytes)
    (h5 : (c.maxLocals == mx && c.exceptionTable.isEmpty && decide (c.maxStack ≤ mostOperands) && decide (meth.sig.returnType = rt) && !meth.locks && decide (parseMethodDescriptor y.desc = some meth.sig)) = true) : (Jvm.Cond.code y bytes mx rt).before a s = true := by
  simp only [Bool.and_eq_true, beq_iff_eq, Bool.not_eq_true', decide_eq_true_eq] at h5
  obtain ⟨⟨⟨⟨⟨g1, g2⟩, g3⟩, g4⟩, g5⟩, g6⟩ := h5
  simp [Cond.before, Cond.holds, Cond.value, h1, h2, h3, h4, g1, g2, g3, g4, g5, g6]
def isCode : Jvm.Cond → Bool
  | .code _ _ _ _ => true
  | _ => false
theorem all_split {L : List Jvm.Cond} {P : Jvm.Cond → Bool} (h1 : L.all (fun c => isCode c || P c) = true) (h2 : ∀ c ∈ L.filter isCode, P c = true) : L.all P = true := by
  refine List.all_eq_true.mpr fun c hc => ?_
  have h := List.all_eq_true.mp h1 c hc
  rcases Bool.eq_false_or_eq_true (isCode c) with hi | hi
  · exact h2 c (List.mem_filter.mpr ⟨hc, hi⟩)
  · simpa [hi] using h
set_option maxRecDepth 65536 in
theorem w_c0 : (Jvm.Cond.code x code maxLocals ret).before args0 about1 = true := code_word (m := ⟨1, 1⟩) (meth := k1m1) (c := k1c1) (by decide +kernel) rfl rfl rfl (by decide +kernel)
set_option maxRecDepth 65536 in
theorem w_c1 : (Jvm.Cond.code ({ cls := "com/example/closemark/closemark/tape/TapeRow", name := "<init>", desc := "(Ljava/time/Instant;Ljava/lang/String;Lcom/example/closemark/closemark/tape/TapeRow$Kind;Ljava/math/BigDecimal;J)V" } : Jvm.MethodName) prog_65_method_1_code (7 : Nat) (Option.none : Option Jvm.ClassFile.FieldType)).before args0 about1 = true := code_word (m := ⟨3, 0⟩) (meth := k3m0) (c := k3c0) (by decide +kernel) rfl rfl rfl (by decide +kernel)
set_option maxRecDepth 65536 in
theorem w_c2 : (Jvm.Cond.code ({ cls := "java/lang/Record", name := "<init>", desc := "()V" } : Jvm.MethodName) jdk_30_method_1_code (1 : Nat) (Option.none : Option Jvm.ClassFile.FieldType)).before args0 about1 = true := code_word (m := ⟨2, 0⟩) (meth := k2m0) (c := k2c0) (by decide +kernel) rfl rfl rfl (by decide +kernel)
set_option maxRecDepth 65536 in
theorem w_c3 : (Jvm.Cond.code ({ cls := "java/lang/Object", name := "<init>", desc := "()V" } : Jvm.MethodName) object_method_1_code (1 : Nat) (Option.none : Option Jvm.ClassFile.FieldType)).before args0 about1 = true := code_word (m := ⟨0, 0⟩) (meth := k0m0) (c := k0c0) (by decide +kernel) rfl rfl rfl (by decide +kernel)
set_option maxRecDepth 65536 in
theorem w_c4 : (Jvm.Cond.code ({ cls := "com/example/closemark/closemark/prices/StandingQuotes", name := "<init>", desc := "()V" } : Jvm.MethodName) prog_45_method_1_code (1 : Nat) (Option.none : Option Jvm.ClassFile.FieldType)).before args0 about1 = true := code_word (m := ⟨9, 0⟩) (meth := k9m0) (c := k9c0) (by decide +kernel) rfl rfl rfl (by decide +kernel)
set_option maxRecDepth 65536 in
theorem w_c5 : (Jvm.Cond.code ({ cls := "com/example/closemark/closemark/prices/LatestRow", name := "<init>", desc := "()V" } : Jvm.MethodName) prog_43_method_1_code (1 : Nat) (Option.none : Option Jvm.ClassFile.FieldType)).before args0 about1 = true := code_word (m := ⟨10, 0⟩) (meth := k10m0) (c := k10c0) (by decide +kernel) rfl rfl rfl (by decide +kernel)
set_option maxRecDepth 65536 in
theorem w_c6 : (Jvm.Cond.code ({ cls := "com/example/closemark/closemark/prices/StandingQuotes", name := "hasBidAndAsk", desc := "()Z" } : Jvm.MethodName) prog_45_method_5_code (1 : Nat) (Option.some Jvm.ClassFile.FieldType.boolean)).before args0 about1 = true := code_word (m := ⟨9, 2⟩) (meth := k9m2) (c := k9c2) (by decide +kernel) rfl rfl rfl (by decide +kernel)
set_option maxRecDepth 65536 in
theorem w_c7 : (Jvm.Cond.code ({ cls := "com/example/closemark/closemark/prices/LatestRow", name := "row", desc := "()Lcom/example/closemark/closemark/tape/TapeRow;" } : Jvm.MethodName) prog_43_method_3_code (1 : Nat) (Option.some (Jvm.ClassFile.FieldType.object "com/example/closemark/closemark/tape/TapeRow"))).before args0 about1 = true := code_word (m := ⟨10, 2⟩) (meth := k10m2) (c := k10c2) (by decide +kernel) rfl rfl rfl (by decide +kernel)
set_option maxRecDepth 65536 in
theorem w_c8 : (Jvm.Cond.code ({ cls := "com/example/closemark/closemark/prices/StandingQuotes", name := "add", desc := "(Lcom/example/closemark/closemark/tape/TapeRow;)V" } : Jvm.MethodName) prog_45_method_2_code (2 : Nat) (Option.none : Option Jvm.ClassFile.FieldType)).before args0 about1 = true := code_word (m := ⟨9, 1⟩) (meth := k9m1) (c := k9c1) (by decide +kernel) rfl rfl rfl (by decide +kernel)
set_option maxRecDepth 65536 in
theorem w_c9 : (Jvm.Cond.code ({ cls := "com/example/closemark/closemark/tape/TapeRow", name := "kind", desc := "()Lcom/example/closemark/closemark/tape/TapeRow$Kind;" } : Jvm.MethodName) prog_65_method_7_code (1 : Nat) (Option.some (Jvm.ClassFile.FieldType.object "com/example/closemark/closemark/tape/TapeRow$Kind"))).before args0 about1 = true := code_word (m := ⟨3, 1⟩) (meth := k3m1) (c := k3c1) (by decide +kernel) rfl rfl rfl (by decide +kernel)
set_option maxRecDepth 65536 in
theorem w_c10 : (Jvm.Cond.code ({ cls := "com/example/closemark/closemark/prices/LatestRow", name := "add", desc := "(Lcom/example/closemark/closemark/tape/TapeRow;)V" } : Jvm.MethodName) prog_43_method_2_code (2 : Nat) (Option.none : Option Jvm.ClassFile.FieldType)).before args0 about1 = true := code_word (m := ⟨10, 1⟩) (meth := k10m1) (c := k10c1) (by decide +kernel) rfl rfl rfl (by decide +kernel)
def codes1 : List Jvm.Cond := [Jvm.Cond.code x code maxLocals ret, Jvm.Cond.code ({ cls := "com/example/closemark/closemark/tape/TapeRow", name := "<init>", desc := "(Ljava/time/Instant;Ljava/lang/String;Lcom/example/closemark/closemark/tape/TapeRow$Kind;Ljava/math/BigDecimal;J)V" } : Jvm.MethodName) prog_65_method_1_code (7 : Nat) (Option.none : Option Jvm.ClassFile.FieldType), Jvm.Cond.code ({ cls := "java/lang/Record", name := "<init>", desc := "()V" } : Jvm.MethodName) jdk_30_method_1_code (1 : Nat) (Option.none : Option Jvm.ClassFile.FieldType), Jvm.Cond.code ({ cls := "java/lang/Object", name := "<init>", desc := "()V" } : Jvm.MethodName) object_method_1_code (1 : Nat) (Option.none : Option Jvm.ClassFile.FieldType), Jvm.Cond.code ({ cls := "com/example/closemark/closemark/prices/StandingQuotes", name := "<init>", desc := "()V" } : Jvm.MethodName) prog_45_method_1_code (1 : Nat) (Option.none : Option Jvm.ClassFile.FieldType), Jvm.Cond.code ({ cls := "com/example/closemark/closemark/prices/LatestRow", name := "<init>", desc := "()V" } : Jvm.MethodName) prog_43_method_1_code (1 : Nat) (Option.none : Option Jvm.ClassFile.FieldType), Jvm.Cond.code ({ cls := "com/example/closemark/closemark/prices/StandingQuotes", name := "hasBidAndAsk", desc := "()Z" } : Jvm.MethodName) prog_45_method_5_code (1 : Nat) (Option.some Jvm.ClassFile.FieldType.boolean), Jvm.Cond.code ({ cls := "com/example/closemark/closemark/prices/LatestRow", name := "row", desc := "()Lcom/example/closemark/closemark/tape/TapeRow;" } : Jvm.MethodName) prog_43_method_3_code (1 : Nat) (Option.some (Jvm.ClassFile.FieldType.object "com/example/closemark/closemark/tape/TapeRow")), Jvm.Cond.code ({ cls := "com/example/closemark/closemark/prices/StandingQuotes", name := "add", desc := "(Lcom/example/closemark/closemark/tape/TapeRow;)V" } : Jvm.MethodName) prog_45_method_2_code (2 : Nat) (Option.none : Option Jvm.ClassFile.FieldType), Jvm.Cond.code ({ cls := "com/example/closemark/closemark/tape/TapeRow", name := "kind", desc := "()Lcom/example/closemark/closemark/tape/TapeRow$Kind;" } : Jvm.MethodName) prog_65_method_7_code (1 : Nat) (Option.some (Jvm.ClassFile.FieldType.object "com/example/closemark/closemark/tape/TapeRow$Kind")), Jvm.Cond.code ({ cls := "com/example/closemark/closemark/prices/LatestRow", name := "add", desc := "(Lcom/example/closemark/closemark/tape/TapeRow;)V" } : Jvm.MethodName) prog_43_method_2_code (2 : Nat) (Option.none : Option Jvm.ClassFile.FieldType)]
set_option maxRecDepth 65536 in
theorem codes_eq : words1.filter isCode = codes1 := rfl
theorem w_codes : ∀ c ∈ words1.filter isCode, c.before args0 about1 = true := by
  rw [codes_eq]
  intro c hc
  simp only [codes1, List.mem_cons, List.not_mem_nil, or_false] at hc
  rcases hc with rfl | rfl | rfl | rfl | rfl | rfl | rfl | rfl | rfl | rfl | rfl
  · exact w_c0
  · exact w_c1
  · exact w_c2
  · exact w_c3
  · exact w_c4
  · exact w_c5
  · exact w_c6
  · exact w_c7
  · exact w_c8
  · exact w_c9
  · exact w_c10
set_option maxRecDepth 65536 in
theorem w_t1 : (words1.take 24).all (fun c => isCode c || c.before args0 about1) = true := by decide +kernel
set_option maxRecDepth 65536 in
theorem w_t2 : ((words1.drop 24).take 24).all (fun c => isCode c || c.before args0 about1) = true := by decide +kernel
set_option maxRecDepth 65536 in
theorem w_t3 : (((words1.drop 24).drop 24).take 24).all (fun c => isCode c || c.before args0 about1) = true := by decide +kernel
set_option maxRecDepth 65536 in
theorem w_t4 : (((words1.drop 24).drop 24).drop 24).all (fun c => isCode c || c.before args0 about1) = true := by decide +kernel
theorem w_tables : (allAtoms (Jvm.Cond.code x code maxLocals ret :: tables_1)).before args0 about1 = true := by
  rw [allAtoms_all]
  show words1.all (fun c => c.before args0 about1) = true
  refine all_split ?_ w_codes
  rw [← List.take_append_drop 24 words1, List.all_append, w_t1, ← List.take_append_drop 24 (words1.drop 24), List.all_append, w_t2, ← List.take_append_drop 24 ((words1.drop 24).drop 24), List.all_append, w_t3, w_t4]
  rfl
set_option maxRecDepth 65536 in
theorem w_case : (Jvm.Cond.and given_1 narrow_1).before args0 about1 = true := by decide +kernel
theorem w_applies : (headSpec (Jvm.Cond.code x code maxLocals ret :: tables_1) room_1).applies x e0.platform about1 = true :=
  (Spec.applies_iff w_frames).mpr ⟨w_running, w_runnable, w_alone, w_named, w_hears, w_ripe, w_room, w_tables⟩
theorem atStart : AtStart classFile x code maxLocals ret World_1 tables_1 room_1 Calls_1 rest_1 Pre_1 launch0 p0 e0 about1 theMethod args0 below0 :=
  ⟨lists_1, trivial, launch0.admits_env _ _ _, launch0.least_env, fairChoices_fair.cas, fairChoices_fair.clock, w_frames, w_args, w_heap, w_applies, trivial, trivial, w_case⟩
end start1
theorem witness_1 : WitnessClaimed_1 := ⟨start1.p0, start1.e0, start1.about1, start1.theMethod, start1.args0, start1.below0, start1.atStart⟩
end Jvm.Pilot.@@N@@
