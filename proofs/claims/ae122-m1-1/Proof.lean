import JvmDerived
import JvmDerived.Pilot.@@N@@Statement
import JvmDerived.Pilot.@@N@@Code
set_option linter.unusedVariables false
set_option linter.unusedSimpArgs false
namespace Jvm.Pilot.@@N@@
open Jvm Jvm.ClassFile Sem Op Lib Jvm.Free Jvm.Stand Jvm.LawKit Jvm.RoadKit Bundle Jvm.Pilot.@@N@@.Jvm.D
/-- from the state A the body comes to its end as Q says -/
def own_Fin (tb : Tables) (e : Env) (below : List Frame) (s : State) (Q : Option Value → Heap → List Loc → Prop) (kc ks : Nat) (A : State) : Prop :=
  ∃ s₂ o, Steps tb e below A s₂ ∧ s₂.status = .running ∧ Ended s₂ below o ∧ ∃ v L, o = .returned v ∧ Q v s₂.heap L ∧ FrameEnd s o s₂ L kc ks
theorem own_G (tb : Tables) (e : Env) (below : List Frame) (s : State) (Q : Option Value → Heap → List Loc → Prop) (kc ks : Nat) :
    ∃ G : State → Prop, (∀ {A B : State}, (∀ t, Steps tb e below B t → Steps tb e below A t) → G B → G A) ∧ (∀ A, own_Fin tb e below s Q kc ks A → G A) ∧ (∀ A, G A → own_Fin tb e below s Q kc ks A) :=
  ⟨own_Fin tb e below s Q kc ks, fun h k => by obtain ⟨s₂, o, h1, r⟩ := k; exact ⟨s₂, o, h _ h1, r⟩, fun _ h => h, fun _ h => h⟩
theorem own_ret {p : Program} {l : Launch} {e : Env} {R : Room} {s : State} {m : MethodId} {args : Array Value} {below : List Frame} {meth : Method} {c : Code} {T : State} {locs : List Loc} {cells slots : Nat} {Q : Option Value → Heap → List Loc → Prop} {kc ks : Nat} {A : State} {v : Option Value}
    (X : Stand p l e R s m args below meth c T locs cells slots) (hlk : meth.locks = false) (hv : meth.sig.returnType = none → v = none) (hQ : Q v T.heap locs) (hc : cells ≤ kc) (hs : slots ≤ ks)
    (st : ∀ fs, (∀ (f : JFrame) (acts : List Action), f.method = m → f.locked = none → f.entered = [] → (doReturn e (T.setTop f) acts v).1 = T.setFrames fs) → Steps p.tables e below A (T.setFrames fs)) : own_Fin p.tables e below s Q kc ks A := by
  obtain ⟨fs, hr, hrun, hended, hW, hsame⟩ := X.leave hv hlk
  exact ⟨_, _, st fs hr, hrun, hended, _, _, rfl, hQ, ⟨_, rfl⟩, hW, hsame.mono hc hs⟩
theorem own_old {Z : State} {n0 : Nat} {h : Heap} (O : Old Z n0 h) : n0 ≤ h.size := O.1 ▸ O.2.1
theorem own_cat {v : Value} (h : v.isRef = true) : v.category = 1 := by rcases ref_cases h with rfl | ⟨a, rfl⟩ <;> rfl
theorem own_mvM {Z s : State} {a0 args : Array Value} {own host : String} {index : Nat} {y : MethodName} (hZ : Z.Warmed39 s.vm) (w : (Jvm.Cond.methodLinkNest own index y host).before a0 Z = true) : (Jvm.Cond.methodLinkNest own index y host).before args s = true := (Cond.methodLinkNest_wide hZ w :)
theorem own_ne_arv {Z : State} {h : Heap} {a b : Addr} {C : String} {a0 : Array Value} {n : Nat} {k : ClassId} {ty : FieldType} {z : Int32} {vs : List Value} {d : Value} (E : Exa Z h a C) (wi : (Jvm.Cond.instantiable C n).before a0 Z = true) (A : Arv Z h b k ty z vs d) : a ≠ b := by
  obtain ⟨c, A, -⟩ := A
  exact ne_arr E wi A
theorem own_narB (x : Int32) : nar .byte x.toInt8.toInt32 = x.toInt8.toInt32 := by
  refine Int32.toInt_inj.mp ?_
  have h1 := c_i2b x
  have h2 := c_i2b x.toInt8.toInt32
  show (x.toInt8.toInt32.toInt8.toInt32).toInt = _
  omega
theorem own_narC (x : Int32) : nar .char x.toUInt32.toUInt16.toUInt32.toInt32 = x.toUInt32.toUInt16.toUInt32.toInt32 := by
  refine Int32.toInt_inj.mp ?_
  have h1 := c_i2c x
  have h2 := c_i2c x.toUInt32.toUInt16.toUInt32.toInt32
  show (x.toUInt32.toUInt16.toUInt32.toInt32.toUInt32.toUInt16.toUInt32.toInt32).toInt = _
  omega
theorem own_exa {s : State} {args : Array Value} {t : Term} {K : String} (h : (Jvm.Cond.exactly t K).value args s none s [] = some true) : ∃ a, t.eval args s none [] s = some (.ref a) ∧ Exa s s.heap a K := by
  obtain ⟨a, c', cell, k, e1, e2, e3, e4, e5, e6, e7⟩ := Cond.exactly_spec (Cond.before_iff.mpr h)
  exact ⟨a, e1, Exa.start e1 h⟩
theorem own_fint {s : State} {args : Array Value} {t : Term} {C n d : String} {a : Addr} {k : Int32} (ht : t.eval args s none [] s = some (.ref a)) (h : (Jvm.Cond.eq (.field t C n d) (.int k)).value args s none s [] = some true) : Fld s s.heap a C n d (.int k) := by
  refine Fld.start ?_
  rw [← fld_at ht]
  have hk : (Term.int k).eval args s none [] s = some (.int k) := rfl
  cases q : (Term.field t C n d).eval args s none [] s with
  | none => simp [Cond.value, q] at h
  | some v => cases v <;> simp [Cond.value, q, hk] at h; rw [h]
theorem own_flong {s : State} {args : Array Value} {t : Term} {C n d : String} {a : Addr} {k : Int64} (ht : t.eval args s none [] s = some (.ref a)) (h : (Jvm.Cond.eq (.field t C n d) (.long k)).value args s none s [] = some true) : Fld s s.heap a C n d (.long k) := by
  refine Fld.start ?_
  rw [← fld_at ht]
  have hk : (Term.long k).eval args s none [] s = some (.long k) := rfl
  cases q : (Term.field t C n d).eval args s none [] s with
  | none => simp [Cond.value, q] at h
  | some v => cases v <;> simp [Cond.value, q, hk] at h; rw [h]
theorem own_mod5 (a : Int32) : (a &&& (2147483647 : Int32)) % (5 : Int32) = (0 : Int32) ∨ (a &&& (2147483647 : Int32)) % (5 : Int32) = (1 : Int32) ∨ (a &&& (2147483647 : Int32)) % (5 : Int32) = (2 : Int32) ∨ (a &&& (2147483647 : Int32)) % (5 : Int32) = (3 : Int32) ∨ (a &&& (2147483647 : Int32)) % (5 : Int32) = (4 : Int32) := by
  have h := c_mask a 2147483647 31 (by decide) (by decide)
  have h2 := c_irem (a &&& 2147483647) 5 5 (by decide)
  have h3 := rng32 a
  have h1 : ((a &&& (2147483647 : Int32)) % (5 : Int32)).toInt = 0 ∨ ((a &&& (2147483647 : Int32)) % (5 : Int32)).toInt = 1 ∨ ((a &&& (2147483647 : Int32)) % (5 : Int32)).toInt = 2 ∨ ((a &&& (2147483647 : Int32)) % (5 : Int32)).toInt = 3 ∨ ((a &&& (2147483647 : Int32)) % (5 : Int32)).toInt = 4 := by omega
  rcases h1 with q | q | q | q | q
  · exact Or.inl (Int32.toInt_inj.mp (by rw [q]; rfl))
  · exact Or.inr (Or.inl (Int32.toInt_inj.mp (by rw [q]; rfl)))
  · exact Or.inr (Or.inr (Or.inl (Int32.toInt_inj.mp (by rw [q]; rfl))))
  · exact Or.inr (Or.inr (Or.inr (Or.inl (Int32.toInt_inj.mp (by rw [q]; rfl)))))
  · exact Or.inr (Or.inr (Or.inr (Or.inr (Int32.toInt_inj.mp (by rw [q]; rfl)))))
theorem ef_0 (m : MethodId) (x0 : Int32)  : entryFrame m #[(.int x0)] 1 = mkF m 0 #[.val (.int x0)] [] := by first | (simp [entryFrame, mkF, argsToLocals, Value.category]; done) | rfl
theorem pn_0 : plainName "com/example/mehr/mehr/ExpansionTakesFeedbackPinLaw" = true := by first | (simp [plainName, overriddenIn]; done) | decide +kernel
theorem d1_0 : decode method_2_code 0 = .ok (.iload_n 0, 1) := by decide +kernel
theorem d1_1 : decode method_2_code 1 = .ok (.ifCond .ne 7, 3) := by decide +kernel
theorem d1_4 : decode method_2_code 4 = .ok (.getstatic 7, 3) := by decide +kernel
theorem d1_7 : decode method_2_code 7 = .ok (.areturn, 1) := by decide +kernel
def Q_pick0 (Z : State) (A_NONE : Addr) (h0 : Heap) (n0 : Nat) (v : Option Value) (h : Heap) (L : List Loc) : Prop := v = some (.ref A_NONE) ∧ Fr n0 L ∧ h = h0
set_option maxRecDepth 65536 in
set_option maxHeartbeats 40000000 in
theorem rm_pick0 (l : Launch) (Z : State) (a0 : Array Value) (hw : ∀ d ∈ tables_1, d.before a0 Z = true) (ws : List Jvm.Cond) (A_NONE : Addr) (h0 : Heap) (n0 : Nat) (O0 : Old Z n0 h0) (u0 : Sta Z Z.heap "com/example/mehr/mehr/Expansion" "NONE" "Lcom/example/mehr/mehr/Expansion;" (.ref A_NONE)) :
    MetFree l (⟨"com/example/mehr/mehr/ExpansionTakesFeedbackPinLaw", "pick", "(I)Lcom/example/mehr/mehr/Expansion;"⟩ : MethodName) (head1 (Jvm.Cond.code (⟨"com/example/mehr/mehr/ExpansionTakesFeedbackPinLaw", "pick", "(I)Lcom/example/mehr/mehr/Expansion;"⟩ : MethodName) method_2_code 1 (some (.object "com/example/mehr/mehr/Expansion")) :: ws) ({ frames := 0, cells := 0, slots := 0, locals := 0 } : Room)) (fun aV U => aV = #[(.int (0 : Int32))] ∧ Z.Warmed39 U.vm ∧ U.heap = h0) (fun _ _ _ _ _ => True) (fun _ U o U' => ∃ v L, o = .returned v ∧ Q_pick0 Z A_NONE h0 n0 v U'.heap L ∧ FrameEnd U o U' L ({ frames := 0, cells := 0, slots := 0, locals := 0 } : Room).cells ({ frames := 0, cells := 0, slots := 0, locals := 0 } : Room).slots) := by
  refine MetFree.of_bodySF (plainFor_of_name pn_0) hisR ?_
  intro pr_ en_ st_ me_ args below meth_ co_ s₁ Bd hml0 hP hK
  obtain ⟨rfl, hZ, hh⟩ := hP
  have hx := Bd.exec
  have hby := Bd.bytes
  have hml : co_.maxLocals = 1 := hml0
  have hown : st_.vm.findClass "com/example/mehr/mehr/ExpansionTakesFeedbackPinLaw" = some me_.cls := findClass_of_methodNamed Bd.named
  have hnm := (name_of_methodNamed Bd.named Bd.method).1
  have X0 : Stand pr_ l en_ ({ frames := 0, cells := 0, slots := 0, locals := 0 } : Room) st_ me_ #[(.int (0 : Int32))] below meth_ co_ s₁ [] 0 0 := Stand.of_body Bd
  have e0 : s₁.heap = h0 := by rw [← hh, Bd.state]; rfl
  have N0 := Fr.nil n0
  have K0 := Keep.refl h0 []
  obtain ⟨G, gv, gf, gb⟩ := own_G pr_.tables en_ below st_ (Q_pick0 Z A_NONE h0 n0) ({ frames := 0, cells := 0, slots := 0, locals := 0 } : Room).cells ({ frames := 0, cells := 0, slots := 0, locals := 0 } : Room).slots
  show own_Fin pr_.tables en_ below st_ (Q_pick0 Z A_NONE h0 n0) ({ frames := 0, cells := 0, slots := 0, locals := 0 } : Room).cells ({ frames := 0, cells := 0, slots := 0, locals := 0 } : Room).slots (s₁.setTop (entryFrame me_ #[(.int (0 : Int32))] 1))
  refine gb _ (gv (fun tQ kQ => castTop (ef_0 me_ (0 : Int32)) kQ) ?_)
  show G (s₁.setTop (mkF me_ 0 #[.val (.int (0 : Int32))] []))
  refine gv (fun tQ kQ => XS.iloadN X0.here hx rfl (hb hby d1_0) rfl kQ) ?_
  show G (s₁.setTop (mkF me_ 1 #[.val (.int (0 : Int32))] [(.int (0 : Int32))]))
  refine gv (fun tQ kQ => XS.ifNo X0.here hx rfl (hb hby d1_1) rfl ((if0 _ _).trans (teq (by decide : (0 : Int32) = (0 : Int32))).2) kQ) ?_
  show G (s₁.setTop (mkF me_ 4 #[.val (.int (0 : Int32))] []))
  obtain ⟨T1, X1, e1, st1⟩ := getS2 X0 hx hZ hown (host := "") (Or.inl (hw _ (List.mem_of_getElem? (i := 5) rfl))) Via.refl e0 (u0.ext O0.2) (g := (mkF me_ 4 #[.val (.int (0 : Int32))] [])) rfl (hb hby d1_4)
  refine gv st1 ?_
  show G (T1.setTop (mkF me_ 7 #[.val (.int (0 : Int32))] [(.ref A_NONE)]))
  refine gf _ (own_ret X1 Bd.notSynchronized (v := some (.ref A_NONE)) (fun h => by rw [Bd.returns] at h; cases h) ?_ (by decide) (by decide) (fun fs hr => retOut X1 hx (t := (.object "com/example/mehr/mehr/Expansion")) Bd.returns rfl (Or.inr (Or.inr (Or.inr (Or.inr ⟨rfl, rfl, rfl⟩)))) (hb hby d1_7) hr))
  show Q_pick0 Z A_NONE h0 n0 _ T1.heap _
  rw [e1]
  exact ⟨rfl, N0, rfl⟩
theorem d1_8 : decode method_2_code 8 = .ok (.iload_n 0, 1) := by decide +kernel
theorem d1_9 : decode method_2_code 9 = .ok (.iconst 1, 1) := by decide +kernel
theorem d1_10 : decode method_2_code 10 = .ok (.if_icmp .ne 7, 3) := by decide +kernel
theorem d1_13 : decode method_2_code 13 = .ok (.getstatic 13, 3) := by decide +kernel
theorem d1_16 : decode method_2_code 16 = .ok (.areturn, 1) := by decide +kernel
def Q_pick1 (Z : State) (A_QA : Addr) (h0 : Heap) (n0 : Nat) (v : Option Value) (h : Heap) (L : List Loc) : Prop := v = some (.ref A_QA) ∧ Fr n0 L ∧ h = h0
set_option maxRecDepth 65536 in
set_option maxHeartbeats 40000000 in
theorem rm_pick1 (l : Launch) (Z : State) (a0 : Array Value) (hw : ∀ d ∈ tables_1, d.before a0 Z = true) (ws : List Jvm.Cond) (A_QA : Addr) (h0 : Heap) (n0 : Nat) (O0 : Old Z n0 h0) (u0 : Sta Z Z.heap "com/example/mehr/mehr/Expansion" "QA" "Lcom/example/mehr/mehr/Expansion;" (.ref A_QA)) :
    MetFree l (⟨"com/example/mehr/mehr/ExpansionTakesFeedbackPinLaw", "pick", "(I)Lcom/example/mehr/mehr/Expansion;"⟩ : MethodName) (head1 (Jvm.Cond.code (⟨"com/example/mehr/mehr/ExpansionTakesFeedbackPinLaw", "pick", "(I)Lcom/example/mehr/mehr/Expansion;"⟩ : MethodName) method_2_code 1 (some (.object "com/example/mehr/mehr/Expansion")) :: ws) ({ frames := 0, cells := 0, slots := 0, locals := 0 } : Room)) (fun aV U => aV = #[(.int (1 : Int32))] ∧ Z.Warmed39 U.vm ∧ U.heap = h0) (fun _ _ _ _ _ => True) (fun _ U o U' => ∃ v L, o = .returned v ∧ Q_pick1 Z A_QA h0 n0 v U'.heap L ∧ FrameEnd U o U' L ({ frames := 0, cells := 0, slots := 0, locals := 0 } : Room).cells ({ frames := 0, cells := 0, slots := 0, locals := 0 } : Room).slots) := by
  refine MetFree.of_bodySF (plainFor_of_name pn_0) hisR ?_
  intro pr_ en_ st_ me_ args below meth_ co_ s₁ Bd hml0 hP hK
  obtain ⟨rfl, hZ, hh⟩ := hP
  have hx := Bd.exec
  have hby := Bd.bytes
  have hml : co_.maxLocals = 1 := hml0
  have hown : st_.vm.findClass "com/example/mehr/mehr/ExpansionTakesFeedbackPinLaw" = some me_.cls := findClass_of_methodNamed Bd.named
  have hnm := (name_of_methodNamed Bd.named Bd.method).1
  have X0 : Stand pr_ l en_ ({ frames := 0, cells := 0, slots := 0, locals := 0 } : Room) st_ me_ #[(.int (1 : Int32))] below meth_ co_ s₁ [] 0 0 := Stand.of_body Bd
  have e0 : s₁.heap = h0 := by rw [← hh, Bd.state]; rfl
  have N0 := Fr.nil n0
  have K0 := Keep.refl h0 []
  obtain ⟨G, gv, gf, gb⟩ := own_G pr_.tables en_ below st_ (Q_pick1 Z A_QA h0 n0) ({ frames := 0, cells := 0, slots := 0, locals := 0 } : Room).cells ({ frames := 0, cells := 0, slots := 0, locals := 0 } : Room).slots
  show own_Fin pr_.tables en_ below st_ (Q_pick1 Z A_QA h0 n0) ({ frames := 0, cells := 0, slots := 0, locals := 0 } : Room).cells ({ frames := 0, cells := 0, slots := 0, locals := 0 } : Room).slots (s₁.setTop (entryFrame me_ #[(.int (1 : Int32))] 1))
  refine gb _ (gv (fun tQ kQ => castTop (ef_0 me_ (1 : Int32)) kQ) ?_)
  show G (s₁.setTop (mkF me_ 0 #[.val (.int (1 : Int32))] []))
  refine gv (fun tQ kQ => XS.iloadN X0.here hx rfl (hb hby d1_0) rfl kQ) ?_
  show G (s₁.setTop (mkF me_ 1 #[.val (.int (1 : Int32))] [(.int (1 : Int32))]))
  refine gv (fun tQ kQ => XS.ifYes X0.here hx rfl (pc0 := 1) (pc' := 8) rfl (hb hby d1_1) rfl ((if0 _ _).trans (feq (by decide : ¬ ((1 : Int32) = (0 : Int32)))).2) (by decide) (by decide) kQ) ?_
  show G (s₁.setTop (mkF me_ 8 #[.val (.int (1 : Int32))] []))
  refine gv (fun tQ kQ => XS.iloadN X0.here hx rfl (hb hby d1_8) rfl kQ) ?_
  show G (s₁.setTop (mkF me_ 9 #[.val (.int (1 : Int32))] [(.int (1 : Int32))]))
  refine gv (fun tQ kQ => XS.iconst X0.here hx rfl (hb hby d1_9) kQ) ?_
  show G (s₁.setTop (mkF me_ 10 #[.val (.int (1 : Int32))] [(.int (1 : Int32)), (.int (1 : Int32))]))
  refine gv (fun tQ kQ => XS.icmpNo X0.here hx rfl (hb hby d1_10) rfl (teq (by decide : (1 : Int32) = (1 : Int32))).2 kQ) ?_
  show G (s₁.setTop (mkF me_ 13 #[.val (.int (1 : Int32))] []))
  obtain ⟨T2, X2, e2, st2⟩ := getS2 X0 hx hZ hown (host := "") (Or.inl (hw _ (List.mem_of_getElem? (i := 29) rfl))) Via.refl e0 (u0.ext O0.2) (g := (mkF me_ 13 #[.val (.int (1 : Int32))] [])) rfl (hb hby d1_13)
  refine gv st2 ?_
  show G (T2.setTop (mkF me_ 16 #[.val (.int (1 : Int32))] [(.ref A_QA)]))
  refine gf _ (own_ret X2 Bd.notSynchronized (v := some (.ref A_QA)) (fun h => by rw [Bd.returns] at h; cases h) ?_ (by decide) (by decide) (fun fs hr => retOut X2 hx (t := (.object "com/example/mehr/mehr/Expansion")) Bd.returns rfl (Or.inr (Or.inr (Or.inr (Or.inr ⟨rfl, rfl, rfl⟩)))) (hb hby d1_16) hr))
  show Q_pick1 Z A_QA h0 n0 _ T2.heap _
  rw [e2]
  exact ⟨rfl, N0, rfl⟩
theorem d1_17 : decode method_2_code 17 = .ok (.iload_n 0, 1) := by decide +kernel
theorem d1_18 : decode method_2_code 18 = .ok (.iconst 2, 1) := by decide +kernel
theorem d1_19 : decode method_2_code 19 = .ok (.if_icmp .ne 7, 3) := by decide +kernel
theorem d1_22 : decode method_2_code 22 = .ok (.getstatic 16, 3) := by decide +kernel
theorem d1_25 : decode method_2_code 25 = .ok (.areturn, 1) := by decide +kernel
def Q_pick2 (Z : State) (A_CODE : Addr) (h0 : Heap) (n0 : Nat) (v : Option Value) (h : Heap) (L : List Loc) : Prop := v = some (.ref A_CODE) ∧ Fr n0 L ∧ h = h0
set_option maxRecDepth 65536 in
set_option maxHeartbeats 40000000 in
theorem rm_pick2 (l : Launch) (Z : State) (a0 : Array Value) (hw : ∀ d ∈ tables_1, d.before a0 Z = true) (ws : List Jvm.Cond) (A_CODE : Addr) (h0 : Heap) (n0 : Nat) (O0 : Old Z n0 h0) (u0 : Sta Z Z.heap "com/example/mehr/mehr/Expansion" "CODE" "Lcom/example/mehr/mehr/Expansion;" (.ref A_CODE)) :
    MetFree l (⟨"com/example/mehr/mehr/ExpansionTakesFeedbackPinLaw", "pick", "(I)Lcom/example/mehr/mehr/Expansion;"⟩ : MethodName) (head1 (Jvm.Cond.code (⟨"com/example/mehr/mehr/ExpansionTakesFeedbackPinLaw", "pick", "(I)Lcom/example/mehr/mehr/Expansion;"⟩ : MethodName) method_2_code 1 (some (.object "com/example/mehr/mehr/Expansion")) :: ws) ({ frames := 0, cells := 0, slots := 0, locals := 0 } : Room)) (fun aV U => aV = #[(.int (2 : Int32))] ∧ Z.Warmed39 U.vm ∧ U.heap = h0) (fun _ _ _ _ _ => True) (fun _ U o U' => ∃ v L, o = .returned v ∧ Q_pick2 Z A_CODE h0 n0 v U'.heap L ∧ FrameEnd U o U' L ({ frames := 0, cells := 0, slots := 0, locals := 0 } : Room).cells ({ frames := 0, cells := 0, slots := 0, locals := 0 } : Room).slots) := by
  refine MetFree.of_bodySF (plainFor_of_name pn_0) hisR ?_
  intro pr_ en_ st_ me_ args below meth_ co_ s₁ Bd hml0 hP hK
  obtain ⟨rfl, hZ, hh⟩ := hP
  have hx := Bd.exec
  have hby := Bd.bytes
  have hml : co_.maxLocals = 1 := hml0
  have hown : st_.vm.findClass "com/example/mehr/mehr/ExpansionTakesFeedbackPinLaw" = some me_.cls := findClass_of_methodNamed Bd.named
  have hnm := (name_of_methodNamed Bd.named Bd.method).1
  have X0 : Stand pr_ l en_ ({ frames := 0, cells := 0, slots := 0, locals := 0 } : Room) st_ me_ #[(.int (2 : Int32))] below meth_ co_ s₁ [] 0 0 := Stand.of_body Bd
  have e0 : s₁.heap = h0 := by rw [← hh, Bd.state]; rfl
  have N0 := Fr.nil n0
  have K0 := Keep.refl h0 []
  obtain ⟨G, gv, gf, gb⟩ := own_G pr_.tables en_ below st_ (Q_pick2 Z A_CODE h0 n0) ({ frames := 0, cells := 0, slots := 0, locals := 0 } : Room).cells ({ frames := 0, cells := 0, slots := 0, locals := 0 } : Room).slots
  show own_Fin pr_.tables en_ below st_ (Q_pick2 Z A_CODE h0 n0) ({ frames := 0, cells := 0, slots := 0, locals := 0 } : Room).cells ({ frames := 0, cells := 0, slots := 0, locals := 0 } : Room).slots (s₁.setTop (entryFrame me_ #[(.int (2 : Int32))] 1))
  refine gb _ (gv (fun tQ kQ => castTop (ef_0 me_ (2 : Int32)) kQ) ?_)
  show G (s₁.setTop (mkF me_ 0 #[.val (.int (2 : Int32))] []))
  refine gv (fun tQ kQ => XS.iloadN X0.here hx rfl (hb hby d1_0) rfl kQ) ?_
  show G (s₁.setTop (mkF me_ 1 #[.val (.int (2 : Int32))] [(.int (2 : Int32))]))
  refine gv (fun tQ kQ => XS.ifYes X0.here hx rfl (pc0 := 1) (pc' := 8) rfl (hb hby d1_1) rfl ((if0 _ _).trans (feq (by decide : ¬ ((2 : Int32) = (0 : Int32)))).2) (by decide) (by decide) kQ) ?_
  show G (s₁.setTop (mkF me_ 8 #[.val (.int (2 : Int32))] []))
  refine gv (fun tQ kQ => XS.iloadN X0.here hx rfl (hb hby d1_8) rfl kQ) ?_
  show G (s₁.setTop (mkF me_ 9 #[.val (.int (2 : Int32))] [(.int (2 : Int32))]))
  refine gv (fun tQ kQ => XS.iconst X0.here hx rfl (hb hby d1_9) kQ) ?_
  show G (s₁.setTop (mkF me_ 10 #[.val (.int (2 : Int32))] [(.int (1 : Int32)), (.int (2 : Int32))]))
  refine gv (fun tQ kQ => XS.icmpYes X0.here hx rfl (pc0 := 10) (pc' := 17) rfl (hb hby d1_10) rfl (feq (by decide : ¬ ((2 : Int32) = (1 : Int32)))).2 (by decide) (by decide) kQ) ?_
  show G (s₁.setTop (mkF me_ 17 #[.val (.int (2 : Int32))] []))
  refine gv (fun tQ kQ => XS.iloadN X0.here hx rfl (hb hby d1_17) rfl kQ) ?_
  show G (s₁.setTop (mkF me_ 18 #[.val (.int (2 : Int32))] [(.int (2 : Int32))]))
  refine gv (fun tQ kQ => XS.iconst X0.here hx rfl (hb hby d1_18) kQ) ?_
  show G (s₁.setTop (mkF me_ 19 #[.val (.int (2 : Int32))] [(.int (2 : Int32)), (.int (2 : Int32))]))
  refine gv (fun tQ kQ => XS.icmpNo X0.here hx rfl (hb hby d1_19) rfl (teq (by decide : (2 : Int32) = (2 : Int32))).2 kQ) ?_
  show G (s₁.setTop (mkF me_ 22 #[.val (.int (2 : Int32))] []))
  obtain ⟨T3, X3, e3, st3⟩ := getS2 X0 hx hZ hown (host := "") (Or.inl (hw _ (List.mem_of_getElem? (i := 33) rfl))) Via.refl e0 (u0.ext O0.2) (g := (mkF me_ 22 #[.val (.int (2 : Int32))] [])) rfl (hb hby d1_22)
  refine gv st3 ?_
  show G (T3.setTop (mkF me_ 25 #[.val (.int (2 : Int32))] [(.ref A_CODE)]))
  refine gf _ (own_ret X3 Bd.notSynchronized (v := some (.ref A_CODE)) (fun h => by rw [Bd.returns] at h; cases h) ?_ (by decide) (by decide) (fun fs hr => retOut X3 hx (t := (.object "com/example/mehr/mehr/Expansion")) Bd.returns rfl (Or.inr (Or.inr (Or.inr (Or.inr ⟨rfl, rfl, rfl⟩)))) (hb hby d1_25) hr))
  show Q_pick2 Z A_CODE h0 n0 _ T3.heap _
  rw [e3]
  exact ⟨rfl, N0, rfl⟩
theorem d1_26 : decode method_2_code 26 = .ok (.iload_n 0, 1) := by decide +kernel
theorem d1_27 : decode method_2_code 27 = .ok (.iconst 3, 1) := by decide +kernel
theorem d1_28 : decode method_2_code 28 = .ok (.if_icmp .ne 7, 3) := by decide +kernel
theorem d1_31 : decode method_2_code 31 = .ok (.getstatic 19, 3) := by decide +kernel
theorem d1_34 : decode method_2_code 34 = .ok (.areturn, 1) := by decide +kernel
def Q_pick3 (Z : State) (A_QA_CODE : Addr) (h0 : Heap) (n0 : Nat) (v : Option Value) (h : Heap) (L : List Loc) : Prop := v = some (.ref A_QA_CODE) ∧ Fr n0 L ∧ h = h0
set_option maxRecDepth 65536 in
set_option maxHeartbeats 40000000 in
theorem rm_pick3 (l : Launch) (Z : State) (a0 : Array Value) (hw : ∀ d ∈ tables_1, d.before a0 Z = true) (ws : List Jvm.Cond) (A_QA_CODE : Addr) (h0 : Heap) (n0 : Nat) (O0 : Old Z n0 h0) (u0 : Sta Z Z.heap "com/example/mehr/mehr/Expansion" "QA_CODE" "Lcom/example/mehr/mehr/Expansion;" (.ref A_QA_CODE)) :
    MetFree l (⟨"com/example/mehr/mehr/ExpansionTakesFeedbackPinLaw", "pick", "(I)Lcom/example/mehr/mehr/Expansion;"⟩ : MethodName) (head1 (Jvm.Cond.code (⟨"com/example/mehr/mehr/ExpansionTakesFeedbackPinLaw", "pick", "(I)Lcom/example/mehr/mehr/Expansion;"⟩ : MethodName) method_2_code 1 (some (.object "com/example/mehr/mehr/Expansion")) :: ws) ({ frames := 0, cells := 0, slots := 0, locals := 0 } : Room)) (fun aV U => aV = #[(.int (3 : Int32))] ∧ Z.Warmed39 U.vm ∧ U.heap = h0) (fun _ _ _ _ _ => True) (fun _ U o U' => ∃ v L, o = .returned v ∧ Q_pick3 Z A_QA_CODE h0 n0 v U'.heap L ∧ FrameEnd U o U' L ({ frames := 0, cells := 0, slots := 0, locals := 0 } : Room).cells ({ frames := 0, cells := 0, slots := 0, locals := 0 } : Room).slots) := by
  refine MetFree.of_bodySF (plainFor_of_name pn_0) hisR ?_
  intro pr_ en_ st_ me_ args below meth_ co_ s₁ Bd hml0 hP hK
  obtain ⟨rfl, hZ, hh⟩ := hP
  have hx := Bd.exec
  have hby := Bd.bytes
  have hml : co_.maxLocals = 1 := hml0
  have hown : st_.vm.findClass "com/example/mehr/mehr/ExpansionTakesFeedbackPinLaw" = some me_.cls := findClass_of_methodNamed Bd.named
  have hnm := (name_of_methodNamed Bd.named Bd.method).1
  have X0 : Stand pr_ l en_ ({ frames := 0, cells := 0, slots := 0, locals := 0 } : Room) st_ me_ #[(.int (3 : Int32))] below meth_ co_ s₁ [] 0 0 := Stand.of_body Bd
  have e0 : s₁.heap = h0 := by rw [← hh, Bd.state]; rfl
  have N0 := Fr.nil n0
  have K0 := Keep.refl h0 []
  obtain ⟨G, gv, gf, gb⟩ := own_G pr_.tables en_ below st_ (Q_pick3 Z A_QA_CODE h0 n0) ({ frames := 0, cells := 0, slots := 0, locals := 0 } : Room).cells ({ frames := 0, cells := 0, slots := 0, locals := 0 } : Room).slots
  show own_Fin pr_.tables en_ below st_ (Q_pick3 Z A_QA_CODE h0 n0) ({ frames := 0, cells := 0, slots := 0, locals := 0 } : Room).cells ({ frames := 0, cells := 0, slots := 0, locals := 0 } : Room).slots (s₁.setTop (entryFrame me_ #[(.int (3 : Int32))] 1))
  refine gb _ (gv (fun tQ kQ => castTop (ef_0 me_ (3 : Int32)) kQ) ?_)
  show G (s₁.setTop (mkF me_ 0 #[.val (.int (3 : Int32))] []))
  refine gv (fun tQ kQ => XS.iloadN X0.here hx rfl (hb hby d1_0) rfl kQ) ?_
  show G (s₁.setTop (mkF me_ 1 #[.val (.int (3 : Int32))] [(.int (3 : Int32))]))
  refine gv (fun tQ kQ => XS.ifYes X0.here hx rfl (pc0 := 1) (pc' := 8) rfl (hb hby d1_1) rfl ((if0 _ _).trans (feq (by decide : ¬ ((3 : Int32) = (0 : Int32)))).2) (by decide) (by decide) kQ) ?_
  show G (s₁.setTop (mkF me_ 8 #[.val (.int (3 : Int32))] []))
  refine gv (fun tQ kQ => XS.iloadN X0.here hx rfl (hb hby d1_8) rfl kQ) ?_
  show G (s₁.setTop (mkF me_ 9 #[.val (.int (3 : Int32))] [(.int (3 : Int32))]))
  refine gv (fun tQ kQ => XS.iconst X0.here hx rfl (hb hby d1_9) kQ) ?_
  show G (s₁.setTop (mkF me_ 10 #[.val (.int (3 : Int32))] [(.int (1 : Int32)), (.int (3 : Int32))]))
  refine gv (fun tQ kQ => XS.icmpYes X0.here hx rfl (pc0 := 10) (pc' := 17) rfl (hb hby d1_10) rfl (feq (by decide : ¬ ((3 : Int32) = (1 : Int32)))).2 (by decide) (by decide) kQ) ?_
  show G (s₁.setTop (mkF me_ 17 #[.val (.int (3 : Int32))] []))
  refine gv (fun tQ kQ => XS.iloadN X0.here hx rfl (hb hby d1_17) rfl kQ) ?_
  show G (s₁.setTop (mkF me_ 18 #[.val (.int (3 : Int32))] [(.int (3 : Int32))]))
  refine gv (fun tQ kQ => XS.iconst X0.here hx rfl (hb hby d1_18) kQ) ?_
  show G (s₁.setTop (mkF me_ 19 #[.val (.int (3 : Int32))] [(.int (2 : Int32)), (.int (3 : Int32))]))
  refine gv (fun tQ kQ => XS.icmpYes X0.here hx rfl (pc0 := 19) (pc' := 26) rfl (hb hby d1_19) rfl (feq (by decide : ¬ ((3 : Int32) = (2 : Int32)))).2 (by decide) (by decide) kQ) ?_
  show G (s₁.setTop (mkF me_ 26 #[.val (.int (3 : Int32))] []))
  refine gv (fun tQ kQ => XS.iloadN X0.here hx rfl (hb hby d1_26) rfl kQ) ?_
  show G (s₁.setTop (mkF me_ 27 #[.val (.int (3 : Int32))] [(.int (3 : Int32))]))
  refine gv (fun tQ kQ => XS.iconst X0.here hx rfl (hb hby d1_27) kQ) ?_
  show G (s₁.setTop (mkF me_ 28 #[.val (.int (3 : Int32))] [(.int (3 : Int32)), (.int (3 : Int32))]))
  refine gv (fun tQ kQ => XS.icmpNo X0.here hx rfl (hb hby d1_28) rfl (teq (by decide : (3 : Int32) = (3 : Int32))).2 kQ) ?_
  show G (s₁.setTop (mkF me_ 31 #[.val (.int (3 : Int32))] []))
  obtain ⟨T4, X4, e4, st4⟩ := getS2 X0 hx hZ hown (host := "") (Or.inl (hw _ (List.mem_of_getElem? (i := 27) rfl))) Via.refl e0 (u0.ext O0.2) (g := (mkF me_ 31 #[.val (.int (3 : Int32))] [])) rfl (hb hby d1_31)
  refine gv st4 ?_
  show G (T4.setTop (mkF me_ 34 #[.val (.int (3 : Int32))] [(.ref A_QA_CODE)]))
  refine gf _ (own_ret X4 Bd.notSynchronized (v := some (.ref A_QA_CODE)) (fun h => by rw [Bd.returns] at h; cases h) ?_ (by decide) (by decide) (fun fs hr => retOut X4 hx (t := (.object "com/example/mehr/mehr/Expansion")) Bd.returns rfl (Or.inr (Or.inr (Or.inr (Or.inr ⟨rfl, rfl, rfl⟩)))) (hb hby d1_34) hr))
  show Q_pick3 Z A_QA_CODE h0 n0 _ T4.heap _
  rw [e4]
  exact ⟨rfl, N0, rfl⟩
theorem d1_35 : decode method_2_code 35 = .ok (.getstatic 22, 3) := by decide +kernel
theorem d1_38 : decode method_2_code 38 = .ok (.areturn, 1) := by decide +kernel
def Q_pick4 (Z : State) (A_WORDNET : Addr) (h0 : Heap) (n0 : Nat) (v : Option Value) (h : Heap) (L : List Loc) : Prop := v = some (.ref A_WORDNET) ∧ Fr n0 L ∧ h = h0
set_option maxRecDepth 65536 in
set_option maxHeartbeats 40000000 in
theorem rm_pick4 (l : Launch) (Z : State) (a0 : Array Value) (hw : ∀ d ∈ tables_1, d.before a0 Z = true) (ws : List Jvm.Cond) (A_WORDNET : Addr) (h0 : Heap) (n0 : Nat) (O0 : Old Z n0 h0) (u0 : Sta Z Z.heap "com/example/mehr/mehr/Expansion" "WORDNET" "Lcom/example/mehr/mehr/Expansion;" (.ref A_WORDNET)) :
    MetFree l (⟨"com/example/mehr/mehr/ExpansionTakesFeedbackPinLaw", "pick", "(I)Lcom/example/mehr/mehr/Expansion;"⟩ : MethodName) (head1 (Jvm.Cond.code (⟨"com/example/mehr/mehr/ExpansionTakesFeedbackPinLaw", "pick", "(I)Lcom/example/mehr/mehr/Expansion;"⟩ : MethodName) method_2_code 1 (some (.object "com/example/mehr/mehr/Expansion")) :: ws) ({ frames := 0, cells := 0, slots := 0, locals := 0 } : Room)) (fun aV U => aV = #[(.int (4 : Int32))] ∧ Z.Warmed39 U.vm ∧ U.heap = h0) (fun _ _ _ _ _ => True) (fun _ U o U' => ∃ v L, o = .returned v ∧ Q_pick4 Z A_WORDNET h0 n0 v U'.heap L ∧ FrameEnd U o U' L ({ frames := 0, cells := 0, slots := 0, locals := 0 } : Room).cells ({ frames := 0, cells := 0, slots := 0, locals := 0 } : Room).slots) := by
  refine MetFree.of_bodySF (plainFor_of_name pn_0) hisR ?_
  intro pr_ en_ st_ me_ args below meth_ co_ s₁ Bd hml0 hP hK
  obtain ⟨rfl, hZ, hh⟩ := hP
  have hx := Bd.exec
  have hby := Bd.bytes
  have hml : co_.maxLocals = 1 := hml0
  have hown : st_.vm.findClass "com/example/mehr/mehr/ExpansionTakesFeedbackPinLaw" = some me_.cls := findClass_of_methodNamed Bd.named
  have hnm := (name_of_methodNamed Bd.named Bd.method).1
  have X0 : Stand pr_ l en_ ({ frames := 0, cells := 0, slots := 0, locals := 0 } : Room) st_ me_ #[(.int (4 : Int32))] below meth_ co_ s₁ [] 0 0 := Stand.of_body Bd
  have e0 : s₁.heap = h0 := by rw [← hh, Bd.state]; rfl
  have N0 := Fr.nil n0
  have K0 := Keep.refl h0 []
  obtain ⟨G, gv, gf, gb⟩ := own_G pr_.tables en_ below st_ (Q_pick4 Z A_WORDNET h0 n0) ({ frames := 0, cells := 0, slots := 0, locals := 0 } : Room).cells ({ frames := 0, cells := 0, slots := 0, locals := 0 } : Room).slots
  show own_Fin pr_.tables en_ below st_ (Q_pick4 Z A_WORDNET h0 n0) ({ frames := 0, cells := 0, slots := 0, locals := 0 } : Room).cells ({ frames := 0, cells := 0, slots := 0, locals := 0 } : Room).slots (s₁.setTop (entryFrame me_ #[(.int (4 : Int32))] 1))
  refine gb _ (gv (fun tQ kQ => castTop (ef_0 me_ (4 : Int32)) kQ) ?_)
  show G (s₁.setTop (mkF me_ 0 #[.val (.int (4 : Int32))] []))
  refine gv (fun tQ kQ => XS.iloadN X0.here hx rfl (hb hby d1_0) rfl kQ) ?_
  show G (s₁.setTop (mkF me_ 1 #[.val (.int (4 : Int32))] [(.int (4 : Int32))]))
  refine gv (fun tQ kQ => XS.ifYes X0.here hx rfl (pc0 := 1) (pc' := 8) rfl (hb hby d1_1) rfl ((if0 _ _).trans (feq (by decide : ¬ ((4 : Int32) = (0 : Int32)))).2) (by decide) (by decide) kQ) ?_
  show G (s₁.setTop (mkF me_ 8 #[.val (.int (4 : Int32))] []))
  refine gv (fun tQ kQ => XS.iloadN X0.here hx rfl (hb hby d1_8) rfl kQ) ?_
  show G (s₁.setTop (mkF me_ 9 #[.val (.int (4 : Int32))] [(.int (4 : Int32))]))
  refine gv (fun tQ kQ => XS.iconst X0.here hx rfl (hb hby d1_9) kQ) ?_
  show G (s₁.setTop (mkF me_ 10 #[.val (.int (4 : Int32))] [(.int (1 : Int32)), (.int (4 : Int32))]))
  refine gv (fun tQ kQ => XS.icmpYes X0.here hx rfl (pc0 := 10) (pc' := 17) rfl (hb hby d1_10) rfl (feq (by decide : ¬ ((4 : Int32) = (1 : Int32)))).2 (by decide) (by decide) kQ) ?_
  show G (s₁.setTop (mkF me_ 17 #[.val (.int (4 : Int32))] []))
  refine gv (fun tQ kQ => XS.iloadN X0.here hx rfl (hb hby d1_17) rfl kQ) ?_
  show G (s₁.setTop (mkF me_ 18 #[.val (.int (4 : Int32))] [(.int (4 : Int32))]))
  refine gv (fun tQ kQ => XS.iconst X0.here hx rfl (hb hby d1_18) kQ) ?_
  show G (s₁.setTop (mkF me_ 19 #[.val (.int (4 : Int32))] [(.int (2 : Int32)), (.int (4 : Int32))]))
  refine gv (fun tQ kQ => XS.icmpYes X0.here hx rfl (pc0 := 19) (pc' := 26) rfl (hb hby d1_19) rfl (feq (by decide : ¬ ((4 : Int32) = (2 : Int32)))).2 (by decide) (by decide) kQ) ?_
  show G (s₁.setTop (mkF me_ 26 #[.val (.int (4 : Int32))] []))
  refine gv (fun tQ kQ => XS.iloadN X0.here hx rfl (hb hby d1_26) rfl kQ) ?_
  show G (s₁.setTop (mkF me_ 27 #[.val (.int (4 : Int32))] [(.int (4 : Int32))]))
  refine gv (fun tQ kQ => XS.iconst X0.here hx rfl (hb hby d1_27) kQ) ?_
  show G (s₁.setTop (mkF me_ 28 #[.val (.int (4 : Int32))] [(.int (3 : Int32)), (.int (4 : Int32))]))
  refine gv (fun tQ kQ => XS.icmpYes X0.here hx rfl (pc0 := 28) (pc' := 35) rfl (hb hby d1_28) rfl (feq (by decide : ¬ ((4 : Int32) = (3 : Int32)))).2 (by decide) (by decide) kQ) ?_
  show G (s₁.setTop (mkF me_ 35 #[.val (.int (4 : Int32))] []))
  obtain ⟨T5, X5, e5, st5⟩ := getS2 X0 hx hZ hown (host := "") (Or.inl (hw _ (List.mem_of_getElem? (i := 31) rfl))) Via.refl e0 (u0.ext O0.2) (g := (mkF me_ 35 #[.val (.int (4 : Int32))] [])) rfl (hb hby d1_35)
  refine gv st5 ?_
  show G (T5.setTop (mkF me_ 38 #[.val (.int (4 : Int32))] [(.ref A_WORDNET)]))
  refine gf _ (own_ret X5 Bd.notSynchronized (v := some (.ref A_WORDNET)) (fun h => by rw [Bd.returns] at h; cases h) ?_ (by decide) (by decide) (fun fs hr => retOut X5 hx (t := (.object "com/example/mehr/mehr/Expansion")) Bd.returns rfl (Or.inr (Or.inr (Or.inr (Or.inr ⟨rfl, rfl, rfl⟩)))) (hb hby d1_38) hr))
  show Q_pick4 Z A_WORDNET h0 n0 _ T5.heap _
  rw [e5]
  exact ⟨rfl, N0, rfl⟩
theorem ef_1 (m : MethodId) (x0 : Addr)  : entryFrame m #[(.ref x0)] 1 = mkF m 0 #[.val (.ref x0)] [] := by first | (simp [entryFrame, mkF, argsToLocals, Value.category]; done) | rfl
theorem pn_1 : plainName "com/example/mehr/mehr/Expansion" = true := by first | (simp [plainName, overriddenIn]; done) | decide +kernel
theorem d2_0 : decode prog_7_method_8_code 0 = .ok (.aload_n 0, 1) := by decide +kernel
theorem d2_1 : decode prog_7_method_8_code 1 = .ok (.getfield 42, 3) := by decide +kernel
theorem d2_4 : decode prog_7_method_8_code 4 = .ok (.ifCond .ne 10, 3) := by decide +kernel
theorem d2_14 : decode prog_7_method_8_code 14 = .ok (.iconst 1, 1) := by decide +kernel
theorem d2_15 : decode prog_7_method_8_code 15 = .ok (.goto 4, 3) := by decide +kernel
theorem d2_19 : decode prog_7_method_8_code 19 = .ok (.ireturn, 1) := by decide +kernel
def Q_tf0 (Z : State) (a : Addr) (h0 : Heap) (n0 : Nat) (v : Option Value) (h : Heap) (L : List Loc) : Prop := v = some (.int (1 : Int32)) ∧ Fr n0 L ∧ h = h0
set_option maxRecDepth 65536 in
set_option maxHeartbeats 40000000 in
theorem rm_tf0 (l : Launch) (Z : State) (a0 : Array Value) (hw : ∀ d ∈ tables_1, d.before a0 Z = true) (ws : List Jvm.Cond) (a : Addr) (h0 : Heap) (n0 : Nat) (O0 : Old Z n0 h0) (u0 : Fld Z h0 a "com/example/mehr/mehr/Expansion" "addsWords" "Z" (.int (1 : Int32))) :
    MetFree l (⟨"com/example/mehr/mehr/Expansion", "takesFeedback", "()Z"⟩ : MethodName) (head1 (Jvm.Cond.code (⟨"com/example/mehr/mehr/Expansion", "takesFeedback", "()Z"⟩ : MethodName) prog_7_method_8_code 1 (some .boolean) :: ws) ({ frames := 0, cells := 0, slots := 0, locals := 0 } : Room)) (fun aV U => aV = #[(.ref a)] ∧ Z.Warmed39 U.vm ∧ U.heap = h0) (fun _ _ _ _ _ => True) (fun _ U o U' => ∃ v L, o = .returned v ∧ Q_tf0 Z a h0 n0 v U'.heap L ∧ FrameEnd U o U' L ({ frames := 0, cells := 0, slots := 0, locals := 0 } : Room).cells ({ frames := 0, cells := 0, slots := 0, locals := 0 } : Room).slots) := by
  refine MetFree.of_bodySF (plainFor_of_name pn_1) hisR ?_
  intro pr_ en_ st_ me_ args below meth_ co_ s₁ Bd hml0 hP hK
  obtain ⟨rfl, hZ, hh⟩ := hP
  have hx := Bd.exec
  have hby := Bd.bytes
  have hml : co_.maxLocals = 1 := hml0
  have hown : st_.vm.findClass "com/example/mehr/mehr/Expansion" = some me_.cls := findClass_of_methodNamed Bd.named
  have hnm := (name_of_methodNamed Bd.named Bd.method).1
  have X0 : Stand pr_ l en_ ({ frames := 0, cells := 0, slots := 0, locals := 0 } : Room) st_ me_ #[(.ref a)] below meth_ co_ s₁ [] 0 0 := Stand.of_body Bd
  have e0 : s₁.heap = h0 := by rw [← hh, Bd.state]; rfl
  have N0 := Fr.nil n0
  have K0 := Keep.refl h0 []
  obtain ⟨G, gv, gf, gb⟩ := own_G pr_.tables en_ below st_ (Q_tf0 Z a h0 n0) ({ frames := 0, cells := 0, slots := 0, locals := 0 } : Room).cells ({ frames := 0, cells := 0, slots := 0, locals := 0 } : Room).slots
  show own_Fin pr_.tables en_ below st_ (Q_tf0 Z a h0 n0) ({ frames := 0, cells := 0, slots := 0, locals := 0 } : Room).cells ({ frames := 0, cells := 0, slots := 0, locals := 0 } : Room).slots (s₁.setTop (entryFrame me_ #[(.ref a)] 1))
  refine gb _ (gv (fun tQ kQ => castTop (ef_1 me_ a) kQ) ?_)
  show G (s₁.setTop (mkF me_ 0 #[.val (.ref a)] []))
  refine gv (fun tQ kQ => XS.aloadN X0.here hx rfl (hb hby d2_0) rfl rfl kQ) ?_
  show G (s₁.setTop (mkF me_ 1 #[.val (.ref a)] [(.ref a)]))
  obtain ⟨T6, X6, e6, st6⟩ := getF X0 hx hZ hown (host := "") (Or.inl (hw _ (List.mem_of_getElem? (i := 13) rfl))) Via.refl e0 u0 (g := (mkF me_ 1 #[.val (.ref a)] [(.ref a)])) rfl rfl (hb hby d2_1)
  refine gv st6 ?_
  show G (T6.setTop (mkF me_ 4 #[.val (.ref a)] [(.int (1 : Int32))]))
  refine gv (fun tQ kQ => XS.ifYes X6.here hx rfl (pc0 := 4) (pc' := 14) rfl (hb hby d2_4) rfl ((if0 _ _).trans (feq (by decide : ¬ ((1 : Int32) = (0 : Int32)))).2) (by decide) (by decide) kQ) ?_
  show G (T6.setTop (mkF me_ 14 #[.val (.ref a)] []))
  refine gv (fun tQ kQ => XS.iconst X6.here hx rfl (hb hby d2_14) kQ) ?_
  show G (T6.setTop (mkF me_ 15 #[.val (.ref a)] [(.int (1 : Int32))]))
  refine gv (fun tQ kQ => XS.goto X6.here hx rfl (pc0 := 15) (pc' := 19) rfl (hb hby d2_15) (by decide) (by decide) kQ) ?_
  show G (T6.setTop (mkF me_ 19 #[.val (.ref a)] [(.int (1 : Int32))]))
  refine gf _ (own_ret X6 Bd.notSynchronized (v := some (.int (1 : Int32))) (fun h => by rw [Bd.returns] at h; cases h) ?_ (by decide) (by decide) (fun fs hr => retN X6 hx (t := .boolean) Bd.returns (by simp) (hb hby d2_19) hr))
  show Q_tf0 Z a h0 n0 _ T6.heap _
  rw [e6]
  exact ⟨rfl, N0, rfl⟩
theorem d2_7 : decode prog_7_method_8_code 7 = .ok (.aload_n 0, 1) := by decide +kernel
theorem d2_8 : decode prog_7_method_8_code 8 = .ok (.getfield 46, 3) := by decide +kernel
theorem d2_11 : decode prog_7_method_8_code 11 = .ok (.ifCond .eq 7, 3) := by decide +kernel
def Q_tf1 (Z : State) (a : Addr) (h0 : Heap) (n0 : Nat) (v : Option Value) (h : Heap) (L : List Loc) : Prop := v = some (.int (1 : Int32)) ∧ Fr n0 L ∧ h = h0
set_option maxRecDepth 65536 in
set_option maxHeartbeats 40000000 in
theorem rm_tf1 (l : Launch) (Z : State) (a0 : Array Value) (hw : ∀ d ∈ tables_1, d.before a0 Z = true) (ws : List Jvm.Cond) (a : Addr) (h0 : Heap) (n0 : Nat) (O0 : Old Z n0 h0) (u0 : Fld Z h0 a "com/example/mehr/mehr/Expansion" "addsWords" "Z" (.int (0 : Int32))) (u1 : Fld Z h0 a "com/example/mehr/mehr/Expansion" "addsEntities" "Z" (.int (1 : Int32))) :
    MetFree l (⟨"com/example/mehr/mehr/Expansion", "takesFeedback", "()Z"⟩ : MethodName) (head1 (Jvm.Cond.code (⟨"com/example/mehr/mehr/Expansion", "takesFeedback", "()Z"⟩ : MethodName) prog_7_method_8_code 1 (some .boolean) :: ws) ({ frames := 0, cells := 0, slots := 0, locals := 0 } : Room)) (fun aV U => aV = #[(.ref a)] ∧ Z.Warmed39 U.vm ∧ U.heap = h0) (fun _ _ _ _ _ => True) (fun _ U o U' => ∃ v L, o = .returned v ∧ Q_tf1 Z a h0 n0 v U'.heap L ∧ FrameEnd U o U' L ({ frames := 0, cells := 0, slots := 0, locals := 0 } : Room).cells ({ frames := 0, cells := 0, slots := 0, locals := 0 } : Room).slots) := by
  refine MetFree.of_bodySF (plainFor_of_name pn_1) hisR ?_
  intro pr_ en_ st_ me_ args below meth_ co_ s₁ Bd hml0 hP hK
  obtain ⟨rfl, hZ, hh⟩ := hP
  have hx := Bd.exec
  have hby := Bd.bytes
  have hml : co_.maxLocals = 1 := hml0
  have hown : st_.vm.findClass "com/example/mehr/mehr/Expansion" = some me_.cls := findClass_of_methodNamed Bd.named
  have hnm := (name_of_methodNamed Bd.named Bd.method).1
  have X0 : Stand pr_ l en_ ({ frames := 0, cells := 0, slots := 0, locals := 0 } : Room) st_ me_ #[(.ref a)] below meth_ co_ s₁ [] 0 0 := Stand.of_body Bd
  have e0 : s₁.heap = h0 := by rw [← hh, Bd.state]; rfl
  have N0 := Fr.nil n0
  have K0 := Keep.refl h0 []
  obtain ⟨G, gv, gf, gb⟩ := own_G pr_.tables en_ below st_ (Q_tf1 Z a h0 n0) ({ frames := 0, cells := 0, slots := 0, locals := 0 } : Room).cells ({ frames := 0, cells := 0, slots := 0, locals := 0 } : Room).slots
  show own_Fin pr_.tables en_ below st_ (Q_tf1 Z a h0 n0) ({ frames := 0, cells := 0, slots := 0, locals := 0 } : Room).cells ({ frames := 0, cells := 0, slots := 0, locals := 0 } : Room).slots (s₁.setTop (entryFrame me_ #[(.ref a)] 1))
  refine gb _ (gv (fun tQ kQ => castTop (ef_1 me_ a) kQ) ?_)
  show G (s₁.setTop (mkF me_ 0 #[.val (.ref a)] []))
  refine gv (fun tQ kQ => XS.aloadN X0.here hx rfl (hb hby d2_0) rfl rfl kQ) ?_
  show G (s₁.setTop (mkF me_ 1 #[.val (.ref a)] [(.ref a)]))
  obtain ⟨T7, X7, e7, st7⟩ := getF X0 hx hZ hown (host := "") (Or.inl (hw _ (List.mem_of_getElem? (i := 13) rfl))) Via.refl e0 u0 (g := (mkF me_ 1 #[.val (.ref a)] [(.ref a)])) rfl rfl (hb hby d2_1)
  refine gv st7 ?_
  show G (T7.setTop (mkF me_ 4 #[.val (.ref a)] [(.int (0 : Int32))]))
  refine gv (fun tQ kQ => XS.ifNo X7.here hx rfl (hb hby d2_4) rfl ((if0 _ _).trans (teq (by decide : (0 : Int32) = (0 : Int32))).2) kQ) ?_
  show G (T7.setTop (mkF me_ 7 #[.val (.ref a)] []))
  refine gv (fun tQ kQ => XS.aloadN X7.here hx rfl (hb hby d2_7) rfl rfl kQ) ?_
  show G (T7.setTop (mkF me_ 8 #[.val (.ref a)] [(.ref a)]))
  obtain ⟨T8, X8, e8, st8⟩ := getF X7 hx hZ hown (host := "") (Or.inl (hw _ (List.mem_of_getElem? (i := 15) rfl))) Via.refl e7 u1 (g := (mkF me_ 8 #[.val (.ref a)] [(.ref a)])) rfl rfl (hb hby d2_8)
  refine gv st8 ?_
  show G (T8.setTop (mkF me_ 11 #[.val (.ref a)] [(.int (1 : Int32))]))
  refine gv (fun tQ kQ => XS.ifNo X8.here hx rfl (hb hby d2_11) rfl ((if0 _ _).trans (feq (by decide : ¬ ((1 : Int32) = (0 : Int32)))).1) kQ) ?_
  show G (T8.setTop (mkF me_ 14 #[.val (.ref a)] []))
  refine gv (fun tQ kQ => XS.iconst X8.here hx rfl (hb hby d2_14) kQ) ?_
  show G (T8.setTop (mkF me_ 15 #[.val (.ref a)] [(.int (1 : Int32))]))
  refine gv (fun tQ kQ => XS.goto X8.here hx rfl (pc0 := 15) (pc' := 19) rfl (hb hby d2_15) (by decide) (by decide) kQ) ?_
  show G (T8.setTop (mkF me_ 19 #[.val (.ref a)] [(.int (1 : Int32))]))
  refine gf _ (own_ret X8 Bd.notSynchronized (v := some (.int (1 : Int32))) (fun h => by rw [Bd.returns] at h; cases h) ?_ (by decide) (by decide) (fun fs hr => retN X8 hx (t := .boolean) Bd.returns (by simp) (hb hby d2_19) hr))
  show Q_tf1 Z a h0 n0 _ T8.heap _
  rw [e8]
  exact ⟨rfl, N0, rfl⟩
theorem d2_18 : decode prog_7_method_8_code 18 = .ok (.iconst 0, 1) := by decide +kernel
def Q_tf2 (Z : State) (a : Addr) (h0 : Heap) (n0 : Nat) (v : Option Value) (h : Heap) (L : List Loc) : Prop := v = some (.int (0 : Int32)) ∧ Fr n0 L ∧ h = h0
set_option maxRecDepth 65536 in
set_option maxHeartbeats 40000000 in
theorem rm_tf2 (l : Launch) (Z : State) (a0 : Array Value) (hw : ∀ d ∈ tables_1, d.before a0 Z = true) (ws : List Jvm.Cond) (a : Addr) (h0 : Heap) (n0 : Nat) (O0 : Old Z n0 h0) (u0 : Fld Z h0 a "com/example/mehr/mehr/Expansion" "addsWords" "Z" (.int (0 : Int32))) (u1 : Fld Z h0 a "com/example/mehr/mehr/Expansion" "addsEntities" "Z" (.int (0 : Int32))) :
    MetFree l (⟨"com/example/mehr/mehr/Expansion", "takesFeedback", "()Z"⟩ : MethodName) (head1 (Jvm.Cond.code (⟨"com/example/mehr/mehr/Expansion", "takesFeedback", "()Z"⟩ : MethodName) prog_7_method_8_code 1 (some .boolean) :: ws) ({ frames := 0, cells := 0, slots := 0, locals := 0 } : Room)) (fun aV U => aV = #[(.ref a)] ∧ Z.Warmed39 U.vm ∧ U.heap = h0) (fun _ _ _ _ _ => True) (fun _ U o U' => ∃ v L, o = .returned v ∧ Q_tf2 Z a h0 n0 v U'.heap L ∧ FrameEnd U o U' L ({ frames := 0, cells := 0, slots := 0, locals := 0 } : Room).cells ({ frames := 0, cells := 0, slots := 0, locals := 0 } : Room).slots) := by
  refine MetFree.of_bodySF (plainFor_of_name pn_1) hisR ?_
  intro pr_ en_ st_ me_ args below meth_ co_ s₁ Bd hml0 hP hK
  obtain ⟨rfl, hZ, hh⟩ := hP
  have hx := Bd.exec
  have hby := Bd.bytes
  have hml : co_.maxLocals = 1 := hml0
  have hown : st_.vm.findClass "com/example/mehr/mehr/Expansion" = some me_.cls := findClass_of_methodNamed Bd.named
  have hnm := (name_of_methodNamed Bd.named Bd.method).1
  have X0 : Stand pr_ l en_ ({ frames := 0, cells := 0, slots := 0, locals := 0 } : Room) st_ me_ #[(.ref a)] below meth_ co_ s₁ [] 0 0 := Stand.of_body Bd
  have e0 : s₁.heap = h0 := by rw [← hh, Bd.state]; rfl
  have N0 := Fr.nil n0
  have K0 := Keep.refl h0 []
  obtain ⟨G, gv, gf, gb⟩ := own_G pr_.tables en_ below st_ (Q_tf2 Z a h0 n0) ({ frames := 0, cells := 0, slots := 0, locals := 0 } : Room).cells ({ frames := 0, cells := 0, slots := 0, locals := 0 } : Room).slots
  show own_Fin pr_.tables en_ below st_ (Q_tf2 Z a h0 n0) ({ frames := 0, cells := 0, slots := 0, locals := 0 } : Room).cells ({ frames := 0, cells := 0, slots := 0, locals := 0 } : Room).slots (s₁.setTop (entryFrame me_ #[(.ref a)] 1))
  refine gb _ (gv (fun tQ kQ => castTop (ef_1 me_ a) kQ) ?_)
  show G (s₁.setTop (mkF me_ 0 #[.val (.ref a)] []))
  refine gv (fun tQ kQ => XS.aloadN X0.here hx rfl (hb hby d2_0) rfl rfl kQ) ?_
  show G (s₁.setTop (mkF me_ 1 #[.val (.ref a)] [(.ref a)]))
  obtain ⟨T9, X9, e9, st9⟩ := getF X0 hx hZ hown (host := "") (Or.inl (hw _ (List.mem_of_getElem? (i := 13) rfl))) Via.refl e0 u0 (g := (mkF me_ 1 #[.val (.ref a)] [(.ref a)])) rfl rfl (hb hby d2_1)
  refine gv st9 ?_
  show G (T9.setTop (mkF me_ 4 #[.val (.ref a)] [(.int (0 : Int32))]))
  refine gv (fun tQ kQ => XS.ifNo X9.here hx rfl (hb hby d2_4) rfl ((if0 _ _).trans (teq (by decide : (0 : Int32) = (0 : Int32))).2) kQ) ?_
  show G (T9.setTop (mkF me_ 7 #[.val (.ref a)] []))
  refine gv (fun tQ kQ => XS.aloadN X9.here hx rfl (hb hby d2_7) rfl rfl kQ) ?_
  show G (T9.setTop (mkF me_ 8 #[.val (.ref a)] [(.ref a)]))
  obtain ⟨T10, X10, e10, st10⟩ := getF X9 hx hZ hown (host := "") (Or.inl (hw _ (List.mem_of_getElem? (i := 15) rfl))) Via.refl e9 u1 (g := (mkF me_ 8 #[.val (.ref a)] [(.ref a)])) rfl rfl (hb hby d2_8)
  refine gv st10 ?_
  show G (T10.setTop (mkF me_ 11 #[.val (.ref a)] [(.int (0 : Int32))]))
  refine gv (fun tQ kQ => XS.ifYes X10.here hx rfl (pc0 := 11) (pc' := 18) rfl (hb hby d2_11) rfl ((if0 _ _).trans (teq (by decide : (0 : Int32) = (0 : Int32))).1) (by decide) (by decide) kQ) ?_
  show G (T10.setTop (mkF me_ 18 #[.val (.ref a)] []))
  refine gv (fun tQ kQ => XS.iconst X10.here hx rfl (hb hby d2_18) kQ) ?_
  show G (T10.setTop (mkF me_ 19 #[.val (.ref a)] [(.int (0 : Int32))]))
  refine gf _ (own_ret X10 Bd.notSynchronized (v := some (.int (0 : Int32))) (fun h => by rw [Bd.returns] at h; cases h) ?_ (by decide) (by decide) (fun fs hr => retN X10 hx (t := .boolean) Bd.returns (by simp) (hb hby d2_19) hr))
  show Q_tf2 Z a h0 n0 _ T10.heap _
  rw [e10]
  exact ⟨rfl, N0, rfl⟩
theorem d3_0 : decode prog_7_method_6_code 0 = .ok (.aload_n 0, 1) := by decide +kernel
theorem d3_1 : decode prog_7_method_6_code 1 = .ok (.getfield 42, 3) := by decide +kernel
theorem d3_4 : decode prog_7_method_6_code 4 = .ok (.ireturn, 1) := by decide +kernel
def Q_aw0 (Z : State) (a : Addr) (h0 : Heap) (n0 : Nat) (v : Option Value) (h : Heap) (L : List Loc) : Prop := v = some (.int (0 : Int32)) ∧ Fr n0 L ∧ h = h0
set_option maxRecDepth 65536 in
set_option maxHeartbeats 40000000 in
theorem rm_aw0 (l : Launch) (Z : State) (a0 : Array Value) (hw : ∀ d ∈ tables_1, d.before a0 Z = true) (ws : List Jvm.Cond) (a : Addr) (h0 : Heap) (n0 : Nat) (O0 : Old Z n0 h0) (u0 : Fld Z h0 a "com/example/mehr/mehr/Expansion" "addsWords" "Z" (.int (0 : Int32))) :
    MetFree l (⟨"com/example/mehr/mehr/Expansion", "addsWords", "()Z"⟩ : MethodName) (head1 (Jvm.Cond.code (⟨"com/example/mehr/mehr/Expansion", "addsWords", "()Z"⟩ : MethodName) prog_7_method_6_code 1 (some .boolean) :: ws) ({ frames := 0, cells := 0, slots := 0, locals := 0 } : Room)) (fun aV U => aV = #[(.ref a)] ∧ Z.Warmed39 U.vm ∧ U.heap = h0) (fun _ _ _ _ _ => True) (fun _ U o U' => ∃ v L, o = .returned v ∧ Q_aw0 Z a h0 n0 v U'.heap L ∧ FrameEnd U o U' L ({ frames := 0, cells := 0, slots := 0, locals := 0 } : Room).cells ({ frames := 0, cells := 0, slots := 0, locals := 0 } : Room).slots) := by
  refine MetFree.of_bodySF (plainFor_of_name pn_1) hisR ?_
  intro pr_ en_ st_ me_ args below meth_ co_ s₁ Bd hml0 hP hK
  obtain ⟨rfl, hZ, hh⟩ := hP
  have hx := Bd.exec
  have hby := Bd.bytes
  have hml : co_.maxLocals = 1 := hml0
  have hown : st_.vm.findClass "com/example/mehr/mehr/Expansion" = some me_.cls := findClass_of_methodNamed Bd.named
  have hnm := (name_of_methodNamed Bd.named Bd.method).1
  have X0 : Stand pr_ l en_ ({ frames := 0, cells := 0, slots := 0, locals := 0 } : Room) st_ me_ #[(.ref a)] below meth_ co_ s₁ [] 0 0 := Stand.of_body Bd
  have e0 : s₁.heap = h0 := by rw [← hh, Bd.state]; rfl
  have N0 := Fr.nil n0
  have K0 := Keep.refl h0 []
  obtain ⟨G, gv, gf, gb⟩ := own_G pr_.tables en_ below st_ (Q_aw0 Z a h0 n0) ({ frames := 0, cells := 0, slots := 0, locals := 0 } : Room).cells ({ frames := 0, cells := 0, slots := 0, locals := 0 } : Room).slots
  show own_Fin pr_.tables en_ below st_ (Q_aw0 Z a h0 n0) ({ frames := 0, cells := 0, slots := 0, locals := 0 } : Room).cells ({ frames := 0, cells := 0, slots := 0, locals := 0 } : Room).slots (s₁.setTop (entryFrame me_ #[(.ref a)] 1))
  refine gb _ (gv (fun tQ kQ => castTop (ef_1 me_ a) kQ) ?_)
  show G (s₁.setTop (mkF me_ 0 #[.val (.ref a)] []))
  refine gv (fun tQ kQ => XS.aloadN X0.here hx rfl (hb hby d3_0) rfl rfl kQ) ?_
  show G (s₁.setTop (mkF me_ 1 #[.val (.ref a)] [(.ref a)]))
  obtain ⟨T11, X11, e11, st11⟩ := getF X0 hx hZ hown (host := "") (Or.inl (hw _ (List.mem_of_getElem? (i := 13) rfl))) Via.refl e0 u0 (g := (mkF me_ 1 #[.val (.ref a)] [(.ref a)])) rfl rfl (hb hby d3_1)
  refine gv st11 ?_
  show G (T11.setTop (mkF me_ 4 #[.val (.ref a)] [(.int (0 : Int32))]))
  refine gf _ (own_ret X11 Bd.notSynchronized (v := some (.int (0 : Int32))) (fun h => by rw [Bd.returns] at h; cases h) ?_ (by decide) (by decide) (fun fs hr => retN X11 hx (t := .boolean) Bd.returns (by simp) (hb hby d3_4) hr))
  show Q_aw0 Z a h0 n0 _ T11.heap _
  rw [e11]
  exact ⟨rfl, N0, rfl⟩
theorem d4_0 : decode prog_7_method_7_code 0 = .ok (.aload_n 0, 1) := by decide +kernel
theorem d4_1 : decode prog_7_method_7_code 1 = .ok (.getfield 46, 3) := by decide +kernel
theorem d4_4 : decode prog_7_method_7_code 4 = .ok (.ireturn, 1) := by decide +kernel
def Q_ae0 (Z : State) (a : Addr) (h0 : Heap) (n0 : Nat) (v : Option Value) (h : Heap) (L : List Loc) : Prop := v = some (.int (0 : Int32)) ∧ Fr n0 L ∧ h = h0
set_option maxRecDepth 65536 in
set_option maxHeartbeats 40000000 in
theorem rm_ae0 (l : Launch) (Z : State) (a0 : Array Value) (hw : ∀ d ∈ tables_1, d.before a0 Z = true) (ws : List Jvm.Cond) (a : Addr) (h0 : Heap) (n0 : Nat) (O0 : Old Z n0 h0) (u0 : Fld Z h0 a "com/example/mehr/mehr/Expansion" "addsEntities" "Z" (.int (0 : Int32))) :
    MetFree l (⟨"com/example/mehr/mehr/Expansion", "addsEntities", "()Z"⟩ : MethodName) (head1 (Jvm.Cond.code (⟨"com/example/mehr/mehr/Expansion", "addsEntities", "()Z"⟩ : MethodName) prog_7_method_7_code 1 (some .boolean) :: ws) ({ frames := 0, cells := 0, slots := 0, locals := 0 } : Room)) (fun aV U => aV = #[(.ref a)] ∧ Z.Warmed39 U.vm ∧ U.heap = h0) (fun _ _ _ _ _ => True) (fun _ U o U' => ∃ v L, o = .returned v ∧ Q_ae0 Z a h0 n0 v U'.heap L ∧ FrameEnd U o U' L ({ frames := 0, cells := 0, slots := 0, locals := 0 } : Room).cells ({ frames := 0, cells := 0, slots := 0, locals := 0 } : Room).slots) := by
  refine MetFree.of_bodySF (plainFor_of_name pn_1) hisR ?_
  intro pr_ en_ st_ me_ args below meth_ co_ s₁ Bd hml0 hP hK
  obtain ⟨rfl, hZ, hh⟩ := hP
  have hx := Bd.exec
  have hby := Bd.bytes
  have hml : co_.maxLocals = 1 := hml0
  have hown : st_.vm.findClass "com/example/mehr/mehr/Expansion" = some me_.cls := findClass_of_methodNamed Bd.named
  have hnm := (name_of_methodNamed Bd.named Bd.method).1
  have X0 : Stand pr_ l en_ ({ frames := 0, cells := 0, slots := 0, locals := 0 } : Room) st_ me_ #[(.ref a)] below meth_ co_ s₁ [] 0 0 := Stand.of_body Bd
  have e0 : s₁.heap = h0 := by rw [← hh, Bd.state]; rfl
  have N0 := Fr.nil n0
  have K0 := Keep.refl h0 []
  obtain ⟨G, gv, gf, gb⟩ := own_G pr_.tables en_ below st_ (Q_ae0 Z a h0 n0) ({ frames := 0, cells := 0, slots := 0, locals := 0 } : Room).cells ({ frames := 0, cells := 0, slots := 0, locals := 0 } : Room).slots
  show own_Fin pr_.tables en_ below st_ (Q_ae0 Z a h0 n0) ({ frames := 0, cells := 0, slots := 0, locals := 0 } : Room).cells ({ frames := 0, cells := 0, slots := 0, locals := 0 } : Room).slots (s₁.setTop (entryFrame me_ #[(.ref a)] 1))
  refine gb _ (gv (fun tQ kQ => castTop (ef_1 me_ a) kQ) ?_)
  show G (s₁.setTop (mkF me_ 0 #[.val (.ref a)] []))
  refine gv (fun tQ kQ => XS.aloadN X0.here hx rfl (hb hby d4_0) rfl rfl kQ) ?_
  show G (s₁.setTop (mkF me_ 1 #[.val (.ref a)] [(.ref a)]))
  obtain ⟨T12, X12, e12, st12⟩ := getF X0 hx hZ hown (host := "") (Or.inl (hw _ (List.mem_of_getElem? (i := 15) rfl))) Via.refl e0 u0 (g := (mkF me_ 1 #[.val (.ref a)] [(.ref a)])) rfl rfl (hb hby d4_1)
  refine gv st12 ?_
  show G (T12.setTop (mkF me_ 4 #[.val (.ref a)] [(.int (0 : Int32))]))
  refine gf _ (own_ret X12 Bd.notSynchronized (v := some (.int (0 : Int32))) (fun h => by rw [Bd.returns] at h; cases h) ?_ (by decide) (by decide) (fun fs hr => retN X12 hx (t := .boolean) Bd.returns (by simp) (hb hby d4_4) hr))
  show Q_ae0 Z a h0 n0 _ T12.heap _
  rw [e12]
  exact ⟨rfl, N0, rfl⟩
def Q_aw1 (Z : State) (a : Addr) (h0 : Heap) (n0 : Nat) (v : Option Value) (h : Heap) (L : List Loc) : Prop := v = some (.int (1 : Int32)) ∧ Fr n0 L ∧ h = h0
set_option maxRecDepth 65536 in
set_option maxHeartbeats 40000000 in
theorem rm_aw1 (l : Launch) (Z : State) (a0 : Array Value) (hw : ∀ d ∈ tables_1, d.before a0 Z = true) (ws : List Jvm.Cond) (a : Addr) (h0 : Heap) (n0 : Nat) (O0 : Old Z n0 h0) (u0 : Fld Z h0 a "com/example/mehr/mehr/Expansion" "addsWords" "Z" (.int (1 : Int32))) :
    MetFree l (⟨"com/example/mehr/mehr/Expansion", "addsWords", "()Z"⟩ : MethodName) (head1 (Jvm.Cond.code (⟨"com/example/mehr/mehr/Expansion", "addsWords", "()Z"⟩ : MethodName) prog_7_method_6_code 1 (some .boolean) :: ws) ({ frames := 0, cells := 0, slots := 0, locals := 0 } : Room)) (fun aV U => aV = #[(.ref a)] ∧ Z.Warmed39 U.vm ∧ U.heap = h0) (fun _ _ _ _ _ => True) (fun _ U o U' => ∃ v L, o = .returned v ∧ Q_aw1 Z a h0 n0 v U'.heap L ∧ FrameEnd U o U' L ({ frames := 0, cells := 0, slots := 0, locals := 0 } : Room).cells ({ frames := 0, cells := 0, slots := 0, locals := 0 } : Room).slots) := by
  refine MetFree.of_bodySF (plainFor_of_name pn_1) hisR ?_
  intro pr_ en_ st_ me_ args below meth_ co_ s₁ Bd hml0 hP hK
  obtain ⟨rfl, hZ, hh⟩ := hP
  have hx := Bd.exec
  have hby := Bd.bytes
  have hml : co_.maxLocals = 1 := hml0
  have hown : st_.vm.findClass "com/example/mehr/mehr/Expansion" = some me_.cls := findClass_of_methodNamed Bd.named
  have hnm := (name_of_methodNamed Bd.named Bd.method).1
  have X0 : Stand pr_ l en_ ({ frames := 0, cells := 0, slots := 0, locals := 0 } : Room) st_ me_ #[(.ref a)] below meth_ co_ s₁ [] 0 0 := Stand.of_body Bd
  have e0 : s₁.heap = h0 := by rw [← hh, Bd.state]; rfl
  have N0 := Fr.nil n0
  have K0 := Keep.refl h0 []
  obtain ⟨G, gv, gf, gb⟩ := own_G pr_.tables en_ below st_ (Q_aw1 Z a h0 n0) ({ frames := 0, cells := 0, slots := 0, locals := 0 } : Room).cells ({ frames := 0, cells := 0, slots := 0, locals := 0 } : Room).slots
  show own_Fin pr_.tables en_ below st_ (Q_aw1 Z a h0 n0) ({ frames := 0, cells := 0, slots := 0, locals := 0 } : Room).cells ({ frames := 0, cells := 0, slots := 0, locals := 0 } : Room).slots (s₁.setTop (entryFrame me_ #[(.ref a)] 1))
  refine gb _ (gv (fun tQ kQ => castTop (ef_1 me_ a) kQ) ?_)
  show G (s₁.setTop (mkF me_ 0 #[.val (.ref a)] []))
  refine gv (fun tQ kQ => XS.aloadN X0.here hx rfl (hb hby d3_0) rfl rfl kQ) ?_
  show G (s₁.setTop (mkF me_ 1 #[.val (.ref a)] [(.ref a)]))
  obtain ⟨T13, X13, e13, st13⟩ := getF X0 hx hZ hown (host := "") (Or.inl (hw _ (List.mem_of_getElem? (i := 13) rfl))) Via.refl e0 u0 (g := (mkF me_ 1 #[.val (.ref a)] [(.ref a)])) rfl rfl (hb hby d3_1)
  refine gv st13 ?_
  show G (T13.setTop (mkF me_ 4 #[.val (.ref a)] [(.int (1 : Int32))]))
  refine gf _ (own_ret X13 Bd.notSynchronized (v := some (.int (1 : Int32))) (fun h => by rw [Bd.returns] at h; cases h) ?_ (by decide) (by decide) (fun fs hr => retN X13 hx (t := .boolean) Bd.returns (by simp) (hb hby d3_4) hr))
  show Q_aw1 Z a h0 n0 _ T13.heap _
  rw [e13]
  exact ⟨rfl, N0, rfl⟩
def Q_ae1 (Z : State) (a : Addr) (h0 : Heap) (n0 : Nat) (v : Option Value) (h : Heap) (L : List Loc) : Prop := v = some (.int (1 : Int32)) ∧ Fr n0 L ∧ h = h0
set_option maxRecDepth 65536 in
set_option maxHeartbeats 40000000 in
theorem rm_ae1 (l : Launch) (Z : State) (a0 : Array Value) (hw : ∀ d ∈ tables_1, d.before a0 Z = true) (ws : List Jvm.Cond) (a : Addr) (h0 : Heap) (n0 : Nat) (O0 : Old Z n0 h0) (u0 : Fld Z h0 a "com/example/mehr/mehr/Expansion" "addsEntities" "Z" (.int (1 : Int32))) :
    MetFree l (⟨"com/example/mehr/mehr/Expansion", "addsEntities", "()Z"⟩ : MethodName) (head1 (Jvm.Cond.code (⟨"com/example/mehr/mehr/Expansion", "addsEntities", "()Z"⟩ : MethodName) prog_7_method_7_code 1 (some .boolean) :: ws) ({ frames := 0, cells := 0, slots := 0, locals := 0 } : Room)) (fun aV U => aV = #[(.ref a)] ∧ Z.Warmed39 U.vm ∧ U.heap = h0) (fun _ _ _ _ _ => True) (fun _ U o U' => ∃ v L, o = .returned v ∧ Q_ae1 Z a h0 n0 v U'.heap L ∧ FrameEnd U o U' L ({ frames := 0, cells := 0, slots := 0, locals := 0 } : Room).cells ({ frames := 0, cells := 0, slots := 0, locals := 0 } : Room).slots) := by
  refine MetFree.of_bodySF (plainFor_of_name pn_1) hisR ?_
  intro pr_ en_ st_ me_ args below meth_ co_ s₁ Bd hml0 hP hK
  obtain ⟨rfl, hZ, hh⟩ := hP
  have hx := Bd.exec
  have hby := Bd.bytes
  have hml : co_.maxLocals = 1 := hml0
  have hown : st_.vm.findClass "com/example/mehr/mehr/Expansion" = some me_.cls := findClass_of_methodNamed Bd.named
  have hnm := (name_of_methodNamed Bd.named Bd.method).1
  have X0 : Stand pr_ l en_ ({ frames := 0, cells := 0, slots := 0, locals := 0 } : Room) st_ me_ #[(.ref a)] below meth_ co_ s₁ [] 0 0 := Stand.of_body Bd
  have e0 : s₁.heap = h0 := by rw [← hh, Bd.state]; rfl
  have N0 := Fr.nil n0
  have K0 := Keep.refl h0 []
  obtain ⟨G, gv, gf, gb⟩ := own_G pr_.tables en_ below st_ (Q_ae1 Z a h0 n0) ({ frames := 0, cells := 0, slots := 0, locals := 0 } : Room).cells ({ frames := 0, cells := 0, slots := 0, locals := 0 } : Room).slots
  show own_Fin pr_.tables en_ below st_ (Q_ae1 Z a h0 n0) ({ frames := 0, cells := 0, slots := 0, locals := 0 } : Room).cells ({ frames := 0, cells := 0, slots := 0, locals := 0 } : Room).slots (s₁.setTop (entryFrame me_ #[(.ref a)] 1))
  refine gb _ (gv (fun tQ kQ => castTop (ef_1 me_ a) kQ) ?_)
  show G (s₁.setTop (mkF me_ 0 #[.val (.ref a)] []))
  refine gv (fun tQ kQ => XS.aloadN X0.here hx rfl (hb hby d4_0) rfl rfl kQ) ?_
  show G (s₁.setTop (mkF me_ 1 #[.val (.ref a)] [(.ref a)]))
  obtain ⟨T14, X14, e14, st14⟩ := getF X0 hx hZ hown (host := "") (Or.inl (hw _ (List.mem_of_getElem? (i := 15) rfl))) Via.refl e0 u0 (g := (mkF me_ 1 #[.val (.ref a)] [(.ref a)])) rfl rfl (hb hby d4_1)
  refine gv st14 ?_
  show G (T14.setTop (mkF me_ 4 #[.val (.ref a)] [(.int (1 : Int32))]))
  refine gf _ (own_ret X14 Bd.notSynchronized (v := some (.int (1 : Int32))) (fun h => by rw [Bd.returns] at h; cases h) ?_ (by decide) (by decide) (fun fs hr => retN X14 hx (t := .boolean) Bd.returns (by simp) (hb hby d4_4) hr))
  show Q_ae1 Z a h0 n0 _ T14.heap _
  rw [e14]
  exact ⟨rfl, N0, rfl⟩
theorem ef_2 (m : MethodId) (x0 : Int32)  : entryFrame m #[(.int x0)] maxLocals = mkF m 0 #[.val (.int x0), .unset, .unset, .unset, .unset, .unset] [] := by first | (simp [entryFrame, mkF, argsToLocals, Value.category, maxLocals]; done) | rfl
theorem pd_0 : parseMethodDescriptor "(I)Lcom/example/mehr/mehr/Expansion;" = some ⟨[.int], some (.object "com/example/mehr/mehr/Expansion")⟩ := by decide +kernel
theorem pd_1 : parseMethodDescriptor "()Z" = some ⟨[], some .boolean⟩ := by decide +kernel
def Q0 (Z : State) (p0 : Int32) (A_NONE : Addr) (A_QA : Addr) (A_CODE : Addr) (A_QA_CODE : Addr) (A_WORDNET : Addr) (h0 : Heap) (n0 : Nat) (v : Option Value) (h : Heap) (L : List Loc) : Prop := v = some (.int (1 : Int32)) ∧ Fr n0 L
set_option maxRecDepth 65536 in
set_option maxHeartbeats 40000000 in
theorem rm0 (l : Launch) (Z : State) (a0 : Array Value) (hw : ∀ d ∈ tables_1, d.before a0 Z = true) (ws : List Jvm.Cond) (p0 : Int32) (A_NONE : Addr) (A_QA : Addr) (A_CODE : Addr) (A_QA_CODE : Addr) (A_WORDNET : Addr) (h0 : Heap) (n0 : Nat) (O0 : Old Z n0 h0) (u0 : Sta Z Z.heap "com/example/mehr/mehr/Expansion" "NONE" "Lcom/example/mehr/mehr/Expansion;" (.ref A_NONE)) (u1 : Sta Z Z.heap "com/example/mehr/mehr/Expansion" "QA" "Lcom/example/mehr/mehr/Expansion;" (.ref A_QA)) (u2 : Sta Z Z.heap "com/example/mehr/mehr/Expansion" "CODE" "Lcom/example/mehr/mehr/Expansion;" (.ref A_CODE)) (u3 : Sta Z Z.heap "com/example/mehr/mehr/Expansion" "QA_CODE" "Lcom/example/mehr/mehr/Expansion;" (.ref A_QA_CODE)) (u4 : Sta Z Z.heap "com/example/mehr/mehr/Expansion" "WORDNET" "Lcom/example/mehr/mehr/Expansion;" (.ref A_WORDNET)) (u5 : Exa Z Z.heap A_NONE "com/example/mehr/mehr/Expansion") (u6 : Exa Z Z.heap A_QA "com/example/mehr/mehr/Expansion") (u7 : Exa Z Z.heap A_CODE "com/example/mehr/mehr/Expansion") (u8 : Exa Z Z.heap A_QA_CODE "com/example/mehr/mehr/Expansion") (u9 : Exa Z Z.heap A_WORDNET "com/example/mehr/mehr/Expansion") (u10 : Fld Z Z.heap A_NONE "com/example/mehr/mehr/Expansion" "addsWords" "Z" (.int (0 : Int32))) (u11 : Fld Z Z.heap A_QA "com/example/mehr/mehr/Expansion" "addsWords" "Z" (.int (1 : Int32))) (u12 : Fld Z Z.heap A_CODE "com/example/mehr/mehr/Expansion" "addsWords" "Z" (.int (0 : Int32))) (u13 : Fld Z Z.heap A_QA_CODE "com/example/mehr/mehr/Expansion" "addsWords" "Z" (.int (1 : Int32))) (u14 : Fld Z Z.heap A_WORDNET "com/example/mehr/mehr/Expansion" "addsWords" "Z" (.int (0 : Int32))) (u15 : Fld Z Z.heap A_NONE "com/example/mehr/mehr/Expansion" "addsEntities" "Z" (.int (0 : Int32))) (u16 : Fld Z Z.heap A_QA "com/example/mehr/mehr/Expansion" "addsEntities" "Z" (.int (0 : Int32))) (u17 : Fld Z Z.heap A_CODE "com/example/mehr/mehr/Expansion" "addsEntities" "Z" (.int (1 : Int32))) (u18 : Fld Z Z.heap A_QA_CODE "com/example/mehr/mehr/Expansion" "addsEntities" "Z" (.int (1 : Int32))) (u19 : Fld Z Z.heap A_WORDNET "com/example/mehr/mehr/Expansion" "addsEntities" "Z" (.int (0 : Int32))) :
    MetFree l x (head1 (Jvm.Cond.code x code maxLocals ret :: ws) room_1) (fun aV U => aV = #[(.int p0)] ∧ Z.Warmed39 U.vm ∧ U.heap = h0) (fun _ _ _ _ _ => True) (fun _ U o U' => ∃ v L, o = .returned v ∧ Q0 Z p0 A_NONE A_QA A_CODE A_QA_CODE A_WORDNET h0 n0 v U'.heap L ∧ FrameEnd U o U' L room_1.cells room_1.slots) := by
  refine MetFree.of_bodySF (plainFor_of_name pn_0) hisR ?_
  intro pr_ en_ st_ me_ args below meth_ co_ s₁ Bd hml0 hP hK
  obtain ⟨rfl, hZ, hh⟩ := hP
  have hx := Bd.exec
  have hby := Bd.bytes
  have hml : co_.maxLocals = 6 := hml0
  have hown : st_.vm.findClass "com/example/mehr/mehr/ExpansionTakesFeedbackPinLaw" = some me_.cls := findClass_of_methodNamed Bd.named
  have hnm := (name_of_methodNamed Bd.named Bd.method).1
  have X0 : Stand pr_ l en_ room_1 st_ me_ #[(.int p0)] below meth_ co_ s₁ [] 0 0 := Stand.of_body Bd
  have e0 : s₁.heap = h0 := by rw [← hh, Bd.state]; rfl
  have N0 := Fr.nil n0
  have K0 := Keep.refl h0 []
  obtain ⟨G, gv, gf, gb⟩ := own_G pr_.tables en_ below st_ (Q0 Z p0 A_NONE A_QA A_CODE A_QA_CODE A_WORDNET h0 n0) room_1.cells room_1.slots
  show own_Fin pr_.tables en_ below st_ (Q0 Z p0 A_NONE A_QA A_CODE A_QA_CODE A_WORDNET h0 n0) room_1.cells room_1.slots (s₁.setTop (entryFrame me_ #[(.int p0)] maxLocals))
  refine gb _ (gv (fun tQ kQ => castTop (ef_2 me_ p0) kQ) ?_)
  show G (s₁.setTop (mkF me_ 0 #[.val (.int p0), .unset, .unset, .unset, .unset, .unset] []))
  refine gv (fun tQ kQ => XS.iloadN X0.here hx rfl (hb hby at_0) rfl kQ) ?_
  show G (s₁.setTop (mkF me_ 1 #[.val (.int p0), .unset, .unset, .unset, .unset, .unset] [(.int p0)]))
  refine gv (X0.ldcInt hx hown (mvT hZ (hw _ (List.mem_of_getElem? (i := 0) rfl))) (g := (mkF me_ 1 #[.val (.int p0), .unset, .unset, .unset, .unset, .unset] [(.int p0)])) rfl (hb hby at_1)) ?_
  show G (s₁.setTop (mkF me_ 3 #[.val (.int p0), .unset, .unset, .unset, .unset, .unset] [(.int (2147483647 : Int32)), (.int p0)]))
  refine gv (fun tQ kQ => XS.iand X0.here hx rfl (hb hby at_3) rfl kQ) ?_
  show G (s₁.setTop (mkF me_ 4 #[.val (.int p0), .unset, .unset, .unset, .unset, .unset] [(.int (p0 &&& (2147483647 : Int32)))]))
  refine gv (fun tQ kQ => XS.iconst X0.here hx rfl (hb hby at_4) kQ) ?_
  show G (s₁.setTop (mkF me_ 5 #[.val (.int p0), .unset, .unset, .unset, .unset, .unset] [(.int (5 : Int32)), (.int (p0 &&& (2147483647 : Int32)))]))
  refine gv (fun tQ kQ => iremM X0 hx rfl (hb hby at_5) rfl (by decide) kQ) ?_
  show G (s₁.setTop (mkF me_ 6 #[.val (.int p0), .unset, .unset, .unset, .unset, .unset] [(.int ((p0 &&& (2147483647 : Int32)) % (5 : Int32)))]))
  refine gv (fun tQ kQ => XS.istoreN X0.here hx rfl (hb hby at_6) rfl (l' := #[.val (.int p0), .val (.int ((p0 &&& (2147483647 : Int32)) % (5 : Int32))), .unset, .unset, .unset, .unset]) rfl kQ) ?_
  show G (s₁.setTop (mkF me_ 7 #[.val (.int p0), .val (.int ((p0 &&& (2147483647 : Int32)) % (5 : Int32))), .unset, .unset, .unset, .unset] []))
  rcases own_mod5 p0 with q | q | q | q | q
  · rw [q]
    show G (s₁.setTop (mkF me_ 7 #[.val (.int p0), .val (.int (0 : Int32)), .unset, .unset, .unset, .unset] []))
    refine gv (fun tQ kQ => XS.iloadN X0.here hx rfl (hb hby at_7) rfl kQ) ?_
    show G (s₁.setTop (mkF me_ 8 #[.val (.int p0), .val (.int (0 : Int32)), .unset, .unset, .unset, .unset] [(.int (0 : Int32))]))
    obtain ⟨_, _, ⟨T15, L15, k15, n15⟩, -, X15, ⟨Lc15, hQ15, l15, y15, z15⟩, st15⟩ := Jvm.LawKit.callS X0 hx (y := (⟨"com/example/mehr/mehr/ExpansionTakesFeedbackPinLaw", "pick", "(I)Lcom/example/mehr/mehr/Expansion;"⟩ : MethodName)) hown (mvT hZ (hw _ (List.mem_of_getElem? (i := 1) rfl))) (mvT hZ (hw _ (List.mem_of_getElem? (i := 2) rfl))) (mvT hZ (hw _ (List.mem_of_getElem? (i := 3) rfl))) (mvT hZ (hw _ (List.mem_of_getElem? (i := 4) rfl))) (by decide) (backOf (W := 0) (rm_pick0 l Z a0 hw [] A_NONE h0 n0 O0 u0) hZ (hw _ (List.mem_of_getElem? (i := 4) rfl)) (hw _ (List.mem_of_getElem? (i := 3) rfl)) (by decide) (by decide)) (g := (mkF me_ 8 #[.val (.int p0), .val (.int (0 : Int32)), .unset, .unset, .unset, .unset] [(.int (0 : Int32))])) rfl (by rw [hml]; rfl) (argsL := [(.int (0 : Int32))]) (rest := []) (lenOf pd_0 rfl) rfl (by show 2 * 0 + _ ≤ _; exact Nat.le_of_eq rfl) (hb hby at_8) (fun _ _ => ⟨rfl, e0, (by decide : 0 + 0 ≤ _), (by decide : 0 + 0 ≤ _)⟩)
    dsimp only [Pt.U, Pt.locs, Pt.cells, Pt.slots] at X15 l15 y15 z15 st15 hQ15
    subst l15 y15 z15
    obtain ⟨rfl, Nq15, eq15⟩ := hQ15
    have N16 := Fr.app N0 Nq15
    refine gv st15 ?_
    show G (T15.setTop (mkF me_ 11 #[.val (.int p0), .val (.int (0 : Int32)), .unset, .unset, .unset, .unset] [(.ref A_NONE)]))
    refine gv (fun tQ kQ => XS.astoreN X15.here hx rfl (hb hby at_11) rfl rfl (l' := #[.val (.int p0), .val (.int (0 : Int32)), .val (.ref A_NONE), .unset, .unset, .unset]) rfl kQ) ?_
    show G (T15.setTop (mkF me_ 12 #[.val (.int p0), .val (.int (0 : Int32)), .val (.ref A_NONE), .unset, .unset, .unset] []))
    refine gv (fun tQ kQ => XS.iloadN X15.here hx rfl (hb hby at_12) rfl kQ) ?_
    show G (T15.setTop (mkF me_ 13 #[.val (.int p0), .val (.int (0 : Int32)), .val (.ref A_NONE), .unset, .unset, .unset] [(.int (0 : Int32))]))
    refine gv (fun tQ kQ => XS.iconst X15.here hx rfl (hb hby at_13) kQ) ?_
    show G (T15.setTop (mkF me_ 14 #[.val (.int p0), .val (.int (0 : Int32)), .val (.ref A_NONE), .unset, .unset, .unset] [(.int (1 : Int32)), (.int (0 : Int32))]))
    refine gv (fun tQ kQ => XS.icmpNo X15.here hx rfl (hb hby at_14) rfl (feq (by decide : ¬ ((0 : Int32) = (1 : Int32)))).1 kQ) ?_
    show G (T15.setTop (mkF me_ 17 #[.val (.int p0), .val (.int (0 : Int32)), .val (.ref A_NONE), .unset, .unset, .unset] []))
    refine gv (fun tQ kQ => XS.iloadN X15.here hx rfl (hb hby at_17) rfl kQ) ?_
    show G (T15.setTop (mkF me_ 18 #[.val (.int p0), .val (.int (0 : Int32)), .val (.ref A_NONE), .unset, .unset, .unset] [(.int (0 : Int32))]))
    refine gv (fun tQ kQ => XS.iconst X15.here hx rfl (hb hby at_18) kQ) ?_
    show G (T15.setTop (mkF me_ 19 #[.val (.int p0), .val (.int (0 : Int32)), .val (.ref A_NONE), .unset, .unset, .unset] [(.int (2 : Int32)), (.int (0 : Int32))]))
    refine gv (fun tQ kQ => XS.icmpNo X15.here hx rfl (hb hby at_19) rfl (feq (by decide : ¬ ((0 : Int32) = (2 : Int32)))).1 kQ) ?_
    show G (T15.setTop (mkF me_ 22 #[.val (.int p0), .val (.int (0 : Int32)), .val (.ref A_NONE), .unset, .unset, .unset] []))
    refine gv (fun tQ kQ => XS.iloadN X15.here hx rfl (hb hby at_22) rfl kQ) ?_
    show G (T15.setTop (mkF me_ 23 #[.val (.int p0), .val (.int (0 : Int32)), .val (.ref A_NONE), .unset, .unset, .unset] [(.int (0 : Int32))]))
    refine gv (fun tQ kQ => XS.iconst X15.here hx rfl (hb hby at_23) kQ) ?_
    show G (T15.setTop (mkF me_ 24 #[.val (.int p0), .val (.int (0 : Int32)), .val (.ref A_NONE), .unset, .unset, .unset] [(.int (3 : Int32)), (.int (0 : Int32))]))
    refine gv (fun tQ kQ => XS.icmpYes X15.here hx rfl (pc0 := 24) (pc' := 31) rfl (hb hby at_24) rfl (feq (by decide : ¬ ((0 : Int32) = (3 : Int32)))).2 (by decide) (by decide) kQ) ?_
    show G (T15.setTop (mkF me_ 31 #[.val (.int p0), .val (.int (0 : Int32)), .val (.ref A_NONE), .unset, .unset, .unset] []))
    refine gv (fun tQ kQ => XS.iconst X15.here hx rfl (hb hby at_31) kQ) ?_
    show G (T15.setTop (mkF me_ 32 #[.val (.int p0), .val (.int (0 : Int32)), .val (.ref A_NONE), .unset, .unset, .unset] [(.int (0 : Int32))]))
    refine gv (fun tQ kQ => XS.istoreN X15.here hx rfl (hb hby at_32) rfl (l' := #[.val (.int p0), .val (.int (0 : Int32)), .val (.ref A_NONE), .val (.int (0 : Int32)), .unset, .unset]) rfl kQ) ?_
    show G (T15.setTop (mkF me_ 33 #[.val (.int p0), .val (.int (0 : Int32)), .val (.ref A_NONE), .val (.int (0 : Int32)), .unset, .unset] []))
    refine gv (fun tQ kQ => XS.aloadN X15.here hx rfl (hb hby at_33) rfl rfl kQ) ?_
    show G (T15.setTop (mkF me_ 34 #[.val (.int p0), .val (.int (0 : Int32)), .val (.ref A_NONE), .val (.int (0 : Int32)), .unset, .unset] [(.ref A_NONE)]))
    obtain ⟨cq17, kq17, q17a, q17b, q17c⟩ := isOf hZ eq15 (u5.ext O0.2)
    obtain ⟨_, _, ⟨T17, L17, k17, n17⟩, -, X17, ⟨Lc17, hQ17, l17, y17, z17⟩, st17⟩ := X15.virtualBack hx (y := (⟨"com/example/mehr/mehr/Expansion", "takesFeedback", "()Z"⟩ : MethodName)) (z := (⟨"com/example/mehr/mehr/Expansion", "takesFeedback", "()Z"⟩ : MethodName)) hown (mvT hZ (hw _ (List.mem_of_getElem? (i := 8) rfl))) (mvT hZ (hw _ (List.mem_of_getElem? (i := 9) rfl))) (notFace_of_selects (args := #[]) (mvT hZ (hw _ (List.mem_of_getElem? (i := 11) rfl)))) (mvT hZ (hw _ (List.mem_of_getElem? (i := 11) rfl))) (mvT hZ (hw _ (List.mem_of_getElem? (i := 10) rfl))) (by decide) (backOf (W := 0) (rm_tf2 l Z a0 hw [] A_NONE h0 n0 O0 (u10.ext O0.2) (u15.ext O0.2)) hZ (hw _ (List.mem_of_getElem? (i := 12) rfl)) (hw _ (List.mem_of_getElem? (i := 6) rfl)) (by decide) (by decide)) q17a q17c (g := (mkF me_ 34 #[.val (.int p0), .val (.int (0 : Int32)), .val (.ref A_NONE), .val (.int (0 : Int32)), .unset, .unset] [(.ref A_NONE)])) rfl (by rw [hml]; rfl) (Steps.refl _) (argsL := []) (rest := []) (lenOf pd_1 rfl) rfl (by show 2 * 0 + _ ≤ _; exact Nat.le_of_eq rfl) (hb hby at_34) (fun _ _ => ⟨rfl, eq15, (by decide : 0 + 0 ≤ _), (by decide : 0 + 0 ≤ _)⟩)
    dsimp only [Pt.U, Pt.locs, Pt.cells, Pt.slots] at X17 l17 y17 z17 st17 hQ17
    subst l17 y17 z17
    obtain ⟨rfl, Nq17, eq17⟩ := hQ17
    have N18 := Fr.app N16 Nq17
    refine gv (fun tQ kQ => st17.trans kQ) ?_
    show G (T17.setTop (mkF me_ 37 #[.val (.int p0), .val (.int (0 : Int32)), .val (.ref A_NONE), .val (.int (0 : Int32)), .unset, .unset] [(.int (0 : Int32))]))
    refine gv (fun tQ kQ => XS.istore X17.here hx rfl (hb hby at_37) rfl (l' := #[.val (.int p0), .val (.int (0 : Int32)), .val (.ref A_NONE), .val (.int (0 : Int32)), .val (.int (0 : Int32)), .unset]) rfl kQ) ?_
    show G (T17.setTop (mkF me_ 39 #[.val (.int p0), .val (.int (0 : Int32)), .val (.ref A_NONE), .val (.int (0 : Int32)), .val (.int (0 : Int32)), .unset] []))
    refine gv (fun tQ kQ => XS.aloadN X17.here hx rfl (hb hby at_39) rfl rfl kQ) ?_
    show G (T17.setTop (mkF me_ 40 #[.val (.int p0), .val (.int (0 : Int32)), .val (.ref A_NONE), .val (.int (0 : Int32)), .val (.int (0 : Int32)), .unset] [(.ref A_NONE)]))
    obtain ⟨cq19, kq19, q19a, q19b, q19c⟩ := isOf hZ eq17 (u5.ext O0.2)
    obtain ⟨_, _, ⟨T19, L19, k19, n19⟩, -, X19, ⟨Lc19, hQ19, l19, y19, z19⟩, st19⟩ := X17.virtualBack hx (y := (⟨"com/example/mehr/mehr/Expansion", "addsWords", "()Z"⟩ : MethodName)) (z := (⟨"com/example/mehr/mehr/Expansion", "addsWords", "()Z"⟩ : MethodName)) hown (mvT hZ (hw _ (List.mem_of_getElem? (i := 17) rfl))) (mvT hZ (hw _ (List.mem_of_getElem? (i := 18) rfl))) (notFace_of_selects (args := #[]) (mvT hZ (hw _ (List.mem_of_getElem? (i := 20) rfl)))) (mvT hZ (hw _ (List.mem_of_getElem? (i := 20) rfl))) (mvT hZ (hw _ (List.mem_of_getElem? (i := 19) rfl))) (by decide) (backOf (W := 0) (rm_aw0 l Z a0 hw [] A_NONE h0 n0 O0 (u10.ext O0.2)) hZ (hw _ (List.mem_of_getElem? (i := 21) rfl)) (hw _ (List.mem_of_getElem? (i := 6) rfl)) (by decide) (by decide)) q19a q19c (g := (mkF me_ 40 #[.val (.int p0), .val (.int (0 : Int32)), .val (.ref A_NONE), .val (.int (0 : Int32)), .val (.int (0 : Int32)), .unset] [(.ref A_NONE)])) rfl (by rw [hml]; rfl) (Steps.refl _) (argsL := []) (rest := []) (lenOf pd_1 rfl) rfl (by show 2 * 0 + _ ≤ _; exact Nat.le_of_eq rfl) (hb hby at_40) (fun _ _ => ⟨rfl, eq17, (by decide : 0 + 0 ≤ _), (by decide : 0 + 0 ≤ _)⟩)
    dsimp only [Pt.U, Pt.locs, Pt.cells, Pt.slots] at X19 l19 y19 z19 st19 hQ19
    subst l19 y19 z19
    obtain ⟨rfl, Nq19, eq19⟩ := hQ19
    have N20 := Fr.app N18 Nq19
    refine gv (fun tQ kQ => st19.trans kQ) ?_
    show G (T19.setTop (mkF me_ 43 #[.val (.int p0), .val (.int (0 : Int32)), .val (.ref A_NONE), .val (.int (0 : Int32)), .val (.int (0 : Int32)), .unset] [(.int (0 : Int32))]))
    refine gv (fun tQ kQ => XS.ifNo X19.here hx rfl (hb hby at_43) rfl ((if0 _ _).trans (teq (by decide : (0 : Int32) = (0 : Int32))).2) kQ) ?_
    show G (T19.setTop (mkF me_ 46 #[.val (.int p0), .val (.int (0 : Int32)), .val (.ref A_NONE), .val (.int (0 : Int32)), .val (.int (0 : Int32)), .unset] []))
    refine gv (fun tQ kQ => XS.aloadN X19.here hx rfl (hb hby at_46) rfl rfl kQ) ?_
    show G (T19.setTop (mkF me_ 47 #[.val (.int p0), .val (.int (0 : Int32)), .val (.ref A_NONE), .val (.int (0 : Int32)), .val (.int (0 : Int32)), .unset] [(.ref A_NONE)]))
    obtain ⟨cq21, kq21, q21a, q21b, q21c⟩ := isOf hZ eq19 (u5.ext O0.2)
    obtain ⟨_, _, ⟨T21, L21, k21, n21⟩, -, X21, ⟨Lc21, hQ21, l21, y21, z21⟩, st21⟩ := X19.virtualBack hx (y := (⟨"com/example/mehr/mehr/Expansion", "addsEntities", "()Z"⟩ : MethodName)) (z := (⟨"com/example/mehr/mehr/Expansion", "addsEntities", "()Z"⟩ : MethodName)) hown (mvT hZ (hw _ (List.mem_of_getElem? (i := 22) rfl))) (mvT hZ (hw _ (List.mem_of_getElem? (i := 23) rfl))) (notFace_of_selects (args := #[]) (mvT hZ (hw _ (List.mem_of_getElem? (i := 25) rfl)))) (mvT hZ (hw _ (List.mem_of_getElem? (i := 25) rfl))) (mvT hZ (hw _ (List.mem_of_getElem? (i := 24) rfl))) (by decide) (backOf (W := 0) (rm_ae0 l Z a0 hw [] A_NONE h0 n0 O0 (u15.ext O0.2)) hZ (hw _ (List.mem_of_getElem? (i := 26) rfl)) (hw _ (List.mem_of_getElem? (i := 6) rfl)) (by decide) (by decide)) q21a q21c (g := (mkF me_ 47 #[.val (.int p0), .val (.int (0 : Int32)), .val (.ref A_NONE), .val (.int (0 : Int32)), .val (.int (0 : Int32)), .unset] [(.ref A_NONE)])) rfl (by rw [hml]; rfl) (Steps.refl _) (argsL := []) (rest := []) (lenOf pd_1 rfl) rfl (by show 2 * 0 + _ ≤ _; exact Nat.le_of_eq rfl) (hb hby at_47) (fun _ _ => ⟨rfl, eq19, (by decide : 0 + 0 ≤ _), (by decide : 0 + 0 ≤ _)⟩)
    dsimp only [Pt.U, Pt.locs, Pt.cells, Pt.slots] at X21 l21 y21 z21 st21 hQ21
    subst l21 y21 z21
    obtain ⟨rfl, Nq21, eq21⟩ := hQ21
    have N22 := Fr.app N20 Nq21
    refine gv (fun tQ kQ => st21.trans kQ) ?_
    show G (T21.setTop (mkF me_ 50 #[.val (.int p0), .val (.int (0 : Int32)), .val (.ref A_NONE), .val (.int (0 : Int32)), .val (.int (0 : Int32)), .unset] [(.int (0 : Int32))]))
    refine gv (fun tQ kQ => XS.ifYes X21.here hx rfl (pc0 := 50) (pc' := 57) rfl (hb hby at_50) rfl ((if0 _ _).trans (teq (by decide : (0 : Int32) = (0 : Int32))).1) (by decide) (by decide) kQ) ?_
    show G (T21.setTop (mkF me_ 57 #[.val (.int p0), .val (.int (0 : Int32)), .val (.ref A_NONE), .val (.int (0 : Int32)), .val (.int (0 : Int32)), .unset] []))
    refine gv (fun tQ kQ => XS.iconst X21.here hx rfl (hb hby at_57) kQ) ?_
    show G (T21.setTop (mkF me_ 58 #[.val (.int p0), .val (.int (0 : Int32)), .val (.ref A_NONE), .val (.int (0 : Int32)), .val (.int (0 : Int32)), .unset] [(.int (0 : Int32))]))
    refine gv (fun tQ kQ => XS.istore X21.here hx rfl (hb hby at_58) rfl (l' := #[.val (.int p0), .val (.int (0 : Int32)), .val (.ref A_NONE), .val (.int (0 : Int32)), .val (.int (0 : Int32)), .val (.int (0 : Int32))]) rfl kQ) ?_
    show G (T21.setTop (mkF me_ 60 #[.val (.int p0), .val (.int (0 : Int32)), .val (.ref A_NONE), .val (.int (0 : Int32)), .val (.int (0 : Int32)), .val (.int (0 : Int32))] []))
    refine gv (fun tQ kQ => XS.iload X21.here hx rfl (hb hby at_60) rfl kQ) ?_
    show G (T21.setTop (mkF me_ 62 #[.val (.int p0), .val (.int (0 : Int32)), .val (.ref A_NONE), .val (.int (0 : Int32)), .val (.int (0 : Int32)), .val (.int (0 : Int32))] [(.int (0 : Int32))]))
    refine gv (fun tQ kQ => XS.iloadN X21.here hx rfl (hb hby at_62) rfl kQ) ?_
    show G (T21.setTop (mkF me_ 63 #[.val (.int p0), .val (.int (0 : Int32)), .val (.ref A_NONE), .val (.int (0 : Int32)), .val (.int (0 : Int32)), .val (.int (0 : Int32))] [(.int (0 : Int32)), (.int (0 : Int32))]))
    refine gv (fun tQ kQ => XS.icmpNo X21.here hx rfl (hb hby at_63) rfl (teq (by decide : (0 : Int32) = (0 : Int32))).2 kQ) ?_
    show G (T21.setTop (mkF me_ 66 #[.val (.int p0), .val (.int (0 : Int32)), .val (.ref A_NONE), .val (.int (0 : Int32)), .val (.int (0 : Int32)), .val (.int (0 : Int32))] []))
    refine gv (fun tQ kQ => XS.iload X21.here hx rfl (hb hby at_66) rfl kQ) ?_
    show G (T21.setTop (mkF me_ 68 #[.val (.int p0), .val (.int (0 : Int32)), .val (.ref A_NONE), .val (.int (0 : Int32)), .val (.int (0 : Int32)), .val (.int (0 : Int32))] [(.int (0 : Int32))]))
    refine gv (fun tQ kQ => XS.ifYes X21.here hx rfl (pc0 := 68) (pc' := 76) rfl (hb hby at_68) rfl ((if0 _ _).trans (teq (by decide : (0 : Int32) = (0 : Int32))).1) (by decide) (by decide) kQ) ?_
    show G (T21.setTop (mkF me_ 76 #[.val (.int p0), .val (.int (0 : Int32)), .val (.ref A_NONE), .val (.int (0 : Int32)), .val (.int (0 : Int32)), .val (.int (0 : Int32))] []))
    refine gv (fun tQ kQ => XS.iconst X21.here hx rfl (hb hby at_76) kQ) ?_
    show G (T21.setTop (mkF me_ 77 #[.val (.int p0), .val (.int (0 : Int32)), .val (.ref A_NONE), .val (.int (0 : Int32)), .val (.int (0 : Int32)), .val (.int (0 : Int32))] [(.int (1 : Int32))]))
    refine gv (fun tQ kQ => XS.goto X21.here hx rfl (pc0 := 77) (pc' := 81) rfl (hb hby at_77) (by decide) (by decide) kQ) ?_
    show G (T21.setTop (mkF me_ 81 #[.val (.int p0), .val (.int (0 : Int32)), .val (.ref A_NONE), .val (.int (0 : Int32)), .val (.int (0 : Int32)), .val (.int (0 : Int32))] [(.int (1 : Int32))]))
    refine gf _ (own_ret X21 Bd.notSynchronized (v := some (.int (1 : Int32))) (fun h => by rw [Bd.returns] at h; cases h) ?_ (by decide) (by decide) (fun fs hr => retN X21 hx (t := .boolean) Bd.returns (by simp) (hb hby at_81) hr))
    show Q0 Z p0 A_NONE A_QA A_CODE A_QA_CODE A_WORDNET h0 n0 _ T21.heap _
    rw [eq21]
    exact ⟨rfl, N22⟩
  · rw [q]
    show G (s₁.setTop (mkF me_ 7 #[.val (.int p0), .val (.int (1 : Int32)), .unset, .unset, .unset, .unset] []))
    refine gv (fun tQ kQ => XS.iloadN X0.here hx rfl (hb hby at_7) rfl kQ) ?_
    show G (s₁.setTop (mkF me_ 8 #[.val (.int p0), .val (.int (1 : Int32)), .unset, .unset, .unset, .unset] [(.int (1 : Int32))]))
    obtain ⟨_, _, ⟨T23, L23, k23, n23⟩, -, X23, ⟨Lc23, hQ23, l23, y23, z23⟩, st23⟩ := Jvm.LawKit.callS X0 hx (y := (⟨"com/example/mehr/mehr/ExpansionTakesFeedbackPinLaw", "pick", "(I)Lcom/example/mehr/mehr/Expansion;"⟩ : MethodName)) hown (mvT hZ (hw _ (List.mem_of_getElem? (i := 1) rfl))) (mvT hZ (hw _ (List.mem_of_getElem? (i := 2) rfl))) (mvT hZ (hw _ (List.mem_of_getElem? (i := 3) rfl))) (mvT hZ (hw _ (List.mem_of_getElem? (i := 4) rfl))) (by decide) (backOf (W := 0) (rm_pick1 l Z a0 hw [] A_QA h0 n0 O0 u1) hZ (hw _ (List.mem_of_getElem? (i := 4) rfl)) (hw _ (List.mem_of_getElem? (i := 3) rfl)) (by decide) (by decide)) (g := (mkF me_ 8 #[.val (.int p0), .val (.int (1 : Int32)), .unset, .unset, .unset, .unset] [(.int (1 : Int32))])) rfl (by rw [hml]; rfl) (argsL := [(.int (1 : Int32))]) (rest := []) (lenOf pd_0 rfl) rfl (by show 2 * 0 + _ ≤ _; exact Nat.le_of_eq rfl) (hb hby at_8) (fun _ _ => ⟨rfl, e0, (by decide : 0 + 0 ≤ _), (by decide : 0 + 0 ≤ _)⟩)
    dsimp only [Pt.U, Pt.locs, Pt.cells, Pt.slots] at X23 l23 y23 z23 st23 hQ23
    subst l23 y23 z23
    obtain ⟨rfl, Nq23, eq23⟩ := hQ23
    have N24 := Fr.app N0 Nq23
    refine gv st23 ?_
    show G (T23.setTop (mkF me_ 11 #[.val (.int p0), .val (.int (1 : Int32)), .unset, .unset, .unset, .unset] [(.ref A_QA)]))
    refine gv (fun tQ kQ => XS.astoreN X23.here hx rfl (hb hby at_11) rfl rfl (l' := #[.val (.int p0), .val (.int (1 : Int32)), .val (.ref A_QA), .unset, .unset, .unset]) rfl kQ) ?_
    show G (T23.setTop (mkF me_ 12 #[.val (.int p0), .val (.int (1 : Int32)), .val (.ref A_QA), .unset, .unset, .unset] []))
    refine gv (fun tQ kQ => XS.iloadN X23.here hx rfl (hb hby at_12) rfl kQ) ?_
    show G (T23.setTop (mkF me_ 13 #[.val (.int p0), .val (.int (1 : Int32)), .val (.ref A_QA), .unset, .unset, .unset] [(.int (1 : Int32))]))
    refine gv (fun tQ kQ => XS.iconst X23.here hx rfl (hb hby at_13) kQ) ?_
    show G (T23.setTop (mkF me_ 14 #[.val (.int p0), .val (.int (1 : Int32)), .val (.ref A_QA), .unset, .unset, .unset] [(.int (1 : Int32)), (.int (1 : Int32))]))
    refine gv (fun tQ kQ => XS.icmpYes X23.here hx rfl (pc0 := 14) (pc' := 27) rfl (hb hby at_14) rfl (teq (by decide : (1 : Int32) = (1 : Int32))).1 (by decide) (by decide) kQ) ?_
    show G (T23.setTop (mkF me_ 27 #[.val (.int p0), .val (.int (1 : Int32)), .val (.ref A_QA), .unset, .unset, .unset] []))
    refine gv (fun tQ kQ => XS.iconst X23.here hx rfl (hb hby at_27) kQ) ?_
    show G (T23.setTop (mkF me_ 28 #[.val (.int p0), .val (.int (1 : Int32)), .val (.ref A_QA), .unset, .unset, .unset] [(.int (1 : Int32))]))
    refine gv (fun tQ kQ => XS.goto X23.here hx rfl (pc0 := 28) (pc' := 32) rfl (hb hby at_28) (by decide) (by decide) kQ) ?_
    show G (T23.setTop (mkF me_ 32 #[.val (.int p0), .val (.int (1 : Int32)), .val (.ref A_QA), .unset, .unset, .unset] [(.int (1 : Int32))]))
    refine gv (fun tQ kQ => XS.istoreN X23.here hx rfl (hb hby at_32) rfl (l' := #[.val (.int p0), .val (.int (1 : Int32)), .val (.ref A_QA), .val (.int (1 : Int32)), .unset, .unset]) rfl kQ) ?_
    show G (T23.setTop (mkF me_ 33 #[.val (.int p0), .val (.int (1 : Int32)), .val (.ref A_QA), .val (.int (1 : Int32)), .unset, .unset] []))
    refine gv (fun tQ kQ => XS.aloadN X23.here hx rfl (hb hby at_33) rfl rfl kQ) ?_
    show G (T23.setTop (mkF me_ 34 #[.val (.int p0), .val (.int (1 : Int32)), .val (.ref A_QA), .val (.int (1 : Int32)), .unset, .unset] [(.ref A_QA)]))
    obtain ⟨cq25, kq25, q25a, q25b, q25c⟩ := isOf hZ eq23 (u6.ext O0.2)
    obtain ⟨_, _, ⟨T25, L25, k25, n25⟩, -, X25, ⟨Lc25, hQ25, l25, y25, z25⟩, st25⟩ := X23.virtualBack hx (y := (⟨"com/example/mehr/mehr/Expansion", "takesFeedback", "()Z"⟩ : MethodName)) (z := (⟨"com/example/mehr/mehr/Expansion", "takesFeedback", "()Z"⟩ : MethodName)) hown (mvT hZ (hw _ (List.mem_of_getElem? (i := 8) rfl))) (mvT hZ (hw _ (List.mem_of_getElem? (i := 9) rfl))) (notFace_of_selects (args := #[]) (mvT hZ (hw _ (List.mem_of_getElem? (i := 11) rfl)))) (mvT hZ (hw _ (List.mem_of_getElem? (i := 11) rfl))) (mvT hZ (hw _ (List.mem_of_getElem? (i := 10) rfl))) (by decide) (backOf (W := 0) (rm_tf0 l Z a0 hw [] A_QA h0 n0 O0 (u11.ext O0.2)) hZ (hw _ (List.mem_of_getElem? (i := 12) rfl)) (hw _ (List.mem_of_getElem? (i := 6) rfl)) (by decide) (by decide)) q25a q25c (g := (mkF me_ 34 #[.val (.int p0), .val (.int (1 : Int32)), .val (.ref A_QA), .val (.int (1 : Int32)), .unset, .unset] [(.ref A_QA)])) rfl (by rw [hml]; rfl) (Steps.refl _) (argsL := []) (rest := []) (lenOf pd_1 rfl) rfl (by show 2 * 0 + _ ≤ _; exact Nat.le_of_eq rfl) (hb hby at_34) (fun _ _ => ⟨rfl, eq23, (by decide : 0 + 0 ≤ _), (by decide : 0 + 0 ≤ _)⟩)
    dsimp only [Pt.U, Pt.locs, Pt.cells, Pt.slots] at X25 l25 y25 z25 st25 hQ25
    subst l25 y25 z25
    obtain ⟨rfl, Nq25, eq25⟩ := hQ25
    have N26 := Fr.app N24 Nq25
    refine gv (fun tQ kQ => st25.trans kQ) ?_
    show G (T25.setTop (mkF me_ 37 #[.val (.int p0), .val (.int (1 : Int32)), .val (.ref A_QA), .val (.int (1 : Int32)), .unset, .unset] [(.int (1 : Int32))]))
    refine gv (fun tQ kQ => XS.istore X25.here hx rfl (hb hby at_37) rfl (l' := #[.val (.int p0), .val (.int (1 : Int32)), .val (.ref A_QA), .val (.int (1 : Int32)), .val (.int (1 : Int32)), .unset]) rfl kQ) ?_
    show G (T25.setTop (mkF me_ 39 #[.val (.int p0), .val (.int (1 : Int32)), .val (.ref A_QA), .val (.int (1 : Int32)), .val (.int (1 : Int32)), .unset] []))
    refine gv (fun tQ kQ => XS.aloadN X25.here hx rfl (hb hby at_39) rfl rfl kQ) ?_
    show G (T25.setTop (mkF me_ 40 #[.val (.int p0), .val (.int (1 : Int32)), .val (.ref A_QA), .val (.int (1 : Int32)), .val (.int (1 : Int32)), .unset] [(.ref A_QA)]))
    obtain ⟨cq27, kq27, q27a, q27b, q27c⟩ := isOf hZ eq25 (u6.ext O0.2)
    obtain ⟨_, _, ⟨T27, L27, k27, n27⟩, -, X27, ⟨Lc27, hQ27, l27, y27, z27⟩, st27⟩ := X25.virtualBack hx (y := (⟨"com/example/mehr/mehr/Expansion", "addsWords", "()Z"⟩ : MethodName)) (z := (⟨"com/example/mehr/mehr/Expansion", "addsWords", "()Z"⟩ : MethodName)) hown (mvT hZ (hw _ (List.mem_of_getElem? (i := 17) rfl))) (mvT hZ (hw _ (List.mem_of_getElem? (i := 18) rfl))) (notFace_of_selects (args := #[]) (mvT hZ (hw _ (List.mem_of_getElem? (i := 20) rfl)))) (mvT hZ (hw _ (List.mem_of_getElem? (i := 20) rfl))) (mvT hZ (hw _ (List.mem_of_getElem? (i := 19) rfl))) (by decide) (backOf (W := 0) (rm_aw1 l Z a0 hw [] A_QA h0 n0 O0 (u11.ext O0.2)) hZ (hw _ (List.mem_of_getElem? (i := 21) rfl)) (hw _ (List.mem_of_getElem? (i := 6) rfl)) (by decide) (by decide)) q27a q27c (g := (mkF me_ 40 #[.val (.int p0), .val (.int (1 : Int32)), .val (.ref A_QA), .val (.int (1 : Int32)), .val (.int (1 : Int32)), .unset] [(.ref A_QA)])) rfl (by rw [hml]; rfl) (Steps.refl _) (argsL := []) (rest := []) (lenOf pd_1 rfl) rfl (by show 2 * 0 + _ ≤ _; exact Nat.le_of_eq rfl) (hb hby at_40) (fun _ _ => ⟨rfl, eq25, (by decide : 0 + 0 ≤ _), (by decide : 0 + 0 ≤ _)⟩)
    dsimp only [Pt.U, Pt.locs, Pt.cells, Pt.slots] at X27 l27 y27 z27 st27 hQ27
    subst l27 y27 z27
    obtain ⟨rfl, Nq27, eq27⟩ := hQ27
    have N28 := Fr.app N26 Nq27
    refine gv (fun tQ kQ => st27.trans kQ) ?_
    show G (T27.setTop (mkF me_ 43 #[.val (.int p0), .val (.int (1 : Int32)), .val (.ref A_QA), .val (.int (1 : Int32)), .val (.int (1 : Int32)), .unset] [(.int (1 : Int32))]))
    refine gv (fun tQ kQ => XS.ifYes X27.here hx rfl (pc0 := 43) (pc' := 53) rfl (hb hby at_43) rfl ((if0 _ _).trans (feq (by decide : ¬ ((1 : Int32) = (0 : Int32)))).2) (by decide) (by decide) kQ) ?_
    show G (T27.setTop (mkF me_ 53 #[.val (.int p0), .val (.int (1 : Int32)), .val (.ref A_QA), .val (.int (1 : Int32)), .val (.int (1 : Int32)), .unset] []))
    refine gv (fun tQ kQ => XS.iconst X27.here hx rfl (hb hby at_53) kQ) ?_
    show G (T27.setTop (mkF me_ 54 #[.val (.int p0), .val (.int (1 : Int32)), .val (.ref A_QA), .val (.int (1 : Int32)), .val (.int (1 : Int32)), .unset] [(.int (1 : Int32))]))
    refine gv (fun tQ kQ => XS.goto X27.here hx rfl (pc0 := 54) (pc' := 58) rfl (hb hby at_54) (by decide) (by decide) kQ) ?_
    show G (T27.setTop (mkF me_ 58 #[.val (.int p0), .val (.int (1 : Int32)), .val (.ref A_QA), .val (.int (1 : Int32)), .val (.int (1 : Int32)), .unset] [(.int (1 : Int32))]))
    refine gv (fun tQ kQ => XS.istore X27.here hx rfl (hb hby at_58) rfl (l' := #[.val (.int p0), .val (.int (1 : Int32)), .val (.ref A_QA), .val (.int (1 : Int32)), .val (.int (1 : Int32)), .val (.int (1 : Int32))]) rfl kQ) ?_
    show G (T27.setTop (mkF me_ 60 #[.val (.int p0), .val (.int (1 : Int32)), .val (.ref A_QA), .val (.int (1 : Int32)), .val (.int (1 : Int32)), .val (.int (1 : Int32))] []))
    refine gv (fun tQ kQ => XS.iload X27.here hx rfl (hb hby at_60) rfl kQ) ?_
    show G (T27.setTop (mkF me_ 62 #[.val (.int p0), .val (.int (1 : Int32)), .val (.ref A_QA), .val (.int (1 : Int32)), .val (.int (1 : Int32)), .val (.int (1 : Int32))] [(.int (1 : Int32))]))
    refine gv (fun tQ kQ => XS.iloadN X27.here hx rfl (hb hby at_62) rfl kQ) ?_
    show G (T27.setTop (mkF me_ 63 #[.val (.int p0), .val (.int (1 : Int32)), .val (.ref A_QA), .val (.int (1 : Int32)), .val (.int (1 : Int32)), .val (.int (1 : Int32))] [(.int (1 : Int32)), (.int (1 : Int32))]))
    refine gv (fun tQ kQ => XS.icmpNo X27.here hx rfl (hb hby at_63) rfl (teq (by decide : (1 : Int32) = (1 : Int32))).2 kQ) ?_
    show G (T27.setTop (mkF me_ 66 #[.val (.int p0), .val (.int (1 : Int32)), .val (.ref A_QA), .val (.int (1 : Int32)), .val (.int (1 : Int32)), .val (.int (1 : Int32))] []))
    refine gv (fun tQ kQ => XS.iload X27.here hx rfl (hb hby at_66) rfl kQ) ?_
    show G (T27.setTop (mkF me_ 68 #[.val (.int p0), .val (.int (1 : Int32)), .val (.ref A_QA), .val (.int (1 : Int32)), .val (.int (1 : Int32)), .val (.int (1 : Int32))] [(.int (1 : Int32))]))
    refine gv (fun tQ kQ => XS.ifNo X27.here hx rfl (hb hby at_68) rfl ((if0 _ _).trans (feq (by decide : ¬ ((1 : Int32) = (0 : Int32)))).1) kQ) ?_
    show G (T27.setTop (mkF me_ 71 #[.val (.int p0), .val (.int (1 : Int32)), .val (.ref A_QA), .val (.int (1 : Int32)), .val (.int (1 : Int32)), .val (.int (1 : Int32))] []))
    refine gv (fun tQ kQ => XS.iload X27.here hx rfl (hb hby at_71) rfl kQ) ?_
    show G (T27.setTop (mkF me_ 73 #[.val (.int p0), .val (.int (1 : Int32)), .val (.ref A_QA), .val (.int (1 : Int32)), .val (.int (1 : Int32)), .val (.int (1 : Int32))] [(.int (1 : Int32))]))
    refine gv (fun tQ kQ => XS.ifNo X27.here hx rfl (hb hby at_73) rfl ((if0 _ _).trans (feq (by decide : ¬ ((1 : Int32) = (0 : Int32)))).1) kQ) ?_
    show G (T27.setTop (mkF me_ 76 #[.val (.int p0), .val (.int (1 : Int32)), .val (.ref A_QA), .val (.int (1 : Int32)), .val (.int (1 : Int32)), .val (.int (1 : Int32))] []))
    refine gv (fun tQ kQ => XS.iconst X27.here hx rfl (hb hby at_76) kQ) ?_
    show G (T27.setTop (mkF me_ 77 #[.val (.int p0), .val (.int (1 : Int32)), .val (.ref A_QA), .val (.int (1 : Int32)), .val (.int (1 : Int32)), .val (.int (1 : Int32))] [(.int (1 : Int32))]))
    refine gv (fun tQ kQ => XS.goto X27.here hx rfl (pc0 := 77) (pc' := 81) rfl (hb hby at_77) (by decide) (by decide) kQ) ?_
    show G (T27.setTop (mkF me_ 81 #[.val (.int p0), .val (.int (1 : Int32)), .val (.ref A_QA), .val (.int (1 : Int32)), .val (.int (1 : Int32)), .val (.int (1 : Int32))] [(.int (1 : Int32))]))
    refine gf _ (own_ret X27 Bd.notSynchronized (v := some (.int (1 : Int32))) (fun h => by rw [Bd.returns] at h; cases h) ?_ (by decide) (by decide) (fun fs hr => retN X27 hx (t := .boolean) Bd.returns (by simp) (hb hby at_81) hr))
    show Q0 Z p0 A_NONE A_QA A_CODE A_QA_CODE A_WORDNET h0 n0 _ T27.heap _
    rw [eq27]
    exact ⟨rfl, N28⟩
  · rw [q]
    show G (s₁.setTop (mkF me_ 7 #[.val (.int p0), .val (.int (2 : Int32)), .unset, .unset, .unset, .unset] []))
    refine gv (fun tQ kQ => XS.iloadN X0.here hx rfl (hb hby at_7) rfl kQ) ?_
    show G (s₁.setTop (mkF me_ 8 #[.val (.int p0), .val (.int (2 : Int32)), .unset, .unset, .unset, .unset] [(.int (2 : Int32))]))
    obtain ⟨_, _, ⟨T29, L29, k29, n29⟩, -, X29, ⟨Lc29, hQ29, l29, y29, z29⟩, st29⟩ := Jvm.LawKit.callS X0 hx (y := (⟨"com/example/mehr/mehr/ExpansionTakesFeedbackPinLaw", "pick", "(I)Lcom/example/mehr/mehr/Expansion;"⟩ : MethodName)) hown (mvT hZ (hw _ (List.mem_of_getElem? (i := 1) rfl))) (mvT hZ (hw _ (List.mem_of_getElem? (i := 2) rfl))) (mvT hZ (hw _ (List.mem_of_getElem? (i := 3) rfl))) (mvT hZ (hw _ (List.mem_of_getElem? (i := 4) rfl))) (by decide) (backOf (W := 0) (rm_pick2 l Z a0 hw [] A_CODE h0 n0 O0 u2) hZ (hw _ (List.mem_of_getElem? (i := 4) rfl)) (hw _ (List.mem_of_getElem? (i := 3) rfl)) (by decide) (by decide)) (g := (mkF me_ 8 #[.val (.int p0), .val (.int (2 : Int32)), .unset, .unset, .unset, .unset] [(.int (2 : Int32))])) rfl (by rw [hml]; rfl) (argsL := [(.int (2 : Int32))]) (rest := []) (lenOf pd_0 rfl) rfl (by show 2 * 0 + _ ≤ _; exact Nat.le_of_eq rfl) (hb hby at_8) (fun _ _ => ⟨rfl, e0, (by decide : 0 + 0 ≤ _), (by decide : 0 + 0 ≤ _)⟩)
    dsimp only [Pt.U, Pt.locs, Pt.cells, Pt.slots] at X29 l29 y29 z29 st29 hQ29
    subst l29 y29 z29
    obtain ⟨rfl, Nq29, eq29⟩ := hQ29
    have N30 := Fr.app N0 Nq29
    refine gv st29 ?_
    show G (T29.setTop (mkF me_ 11 #[.val (.int p0), .val (.int (2 : Int32)), .unset, .unset, .unset, .unset] [(.ref A_CODE)]))
    refine gv (fun tQ kQ => XS.astoreN X29.here hx rfl (hb hby at_11) rfl rfl (l' := #[.val (.int p0), .val (.int (2 : Int32)), .val (.ref A_CODE), .unset, .unset, .unset]) rfl kQ) ?_
    show G (T29.setTop (mkF me_ 12 #[.val (.int p0), .val (.int (2 : Int32)), .val (.ref A_CODE), .unset, .unset, .unset] []))
    refine gv (fun tQ kQ => XS.iloadN X29.here hx rfl (hb hby at_12) rfl kQ) ?_
    show G (T29.setTop (mkF me_ 13 #[.val (.int p0), .val (.int (2 : Int32)), .val (.ref A_CODE), .unset, .unset, .unset] [(.int (2 : Int32))]))
    refine gv (fun tQ kQ => XS.iconst X29.here hx rfl (hb hby at_13) kQ) ?_
    show G (T29.setTop (mkF me_ 14 #[.val (.int p0), .val (.int (2 : Int32)), .val (.ref A_CODE), .unset, .unset, .unset] [(.int (1 : Int32)), (.int (2 : Int32))]))
    refine gv (fun tQ kQ => XS.icmpNo X29.here hx rfl (hb hby at_14) rfl (feq (by decide : ¬ ((2 : Int32) = (1 : Int32)))).1 kQ) ?_
    show G (T29.setTop (mkF me_ 17 #[.val (.int p0), .val (.int (2 : Int32)), .val (.ref A_CODE), .unset, .unset, .unset] []))
    refine gv (fun tQ kQ => XS.iloadN X29.here hx rfl (hb hby at_17) rfl kQ) ?_
    show G (T29.setTop (mkF me_ 18 #[.val (.int p0), .val (.int (2 : Int32)), .val (.ref A_CODE), .unset, .unset, .unset] [(.int (2 : Int32))]))
    refine gv (fun tQ kQ => XS.iconst X29.here hx rfl (hb hby at_18) kQ) ?_
    show G (T29.setTop (mkF me_ 19 #[.val (.int p0), .val (.int (2 : Int32)), .val (.ref A_CODE), .unset, .unset, .unset] [(.int (2 : Int32)), (.int (2 : Int32))]))
    refine gv (fun tQ kQ => XS.icmpYes X29.here hx rfl (pc0 := 19) (pc' := 27) rfl (hb hby at_19) rfl (teq (by decide : (2 : Int32) = (2 : Int32))).1 (by decide) (by decide) kQ) ?_
    show G (T29.setTop (mkF me_ 27 #[.val (.int p0), .val (.int (2 : Int32)), .val (.ref A_CODE), .unset, .unset, .unset] []))
    refine gv (fun tQ kQ => XS.iconst X29.here hx rfl (hb hby at_27) kQ) ?_
    show G (T29.setTop (mkF me_ 28 #[.val (.int p0), .val (.int (2 : Int32)), .val (.ref A_CODE), .unset, .unset, .unset] [(.int (1 : Int32))]))
    refine gv (fun tQ kQ => XS.goto X29.here hx rfl (pc0 := 28) (pc' := 32) rfl (hb hby at_28) (by decide) (by decide) kQ) ?_
    show G (T29.setTop (mkF me_ 32 #[.val (.int p0), .val (.int (2 : Int32)), .val (.ref A_CODE), .unset, .unset, .unset] [(.int (1 : Int32))]))
    refine gv (fun tQ kQ => XS.istoreN X29.here hx rfl (hb hby at_32) rfl (l' := #[.val (.int p0), .val (.int (2 : Int32)), .val (.ref A_CODE), .val (.int (1 : Int32)), .unset, .unset]) rfl kQ) ?_
    show G (T29.setTop (mkF me_ 33 #[.val (.int p0), .val (.int (2 : Int32)), .val (.ref A_CODE), .val (.int (1 : Int32)), .unset, .unset] []))
    refine gv (fun tQ kQ => XS.aloadN X29.here hx rfl (hb hby at_33) rfl rfl kQ) ?_
    show G (T29.setTop (mkF me_ 34 #[.val (.int p0), .val (.int (2 : Int32)), .val (.ref A_CODE), .val (.int (1 : Int32)), .unset, .unset] [(.ref A_CODE)]))
    obtain ⟨cq31, kq31, q31a, q31b, q31c⟩ := isOf hZ eq29 (u7.ext O0.2)
    obtain ⟨_, _, ⟨T31, L31, k31, n31⟩, -, X31, ⟨Lc31, hQ31, l31, y31, z31⟩, st31⟩ := X29.virtualBack hx (y := (⟨"com/example/mehr/mehr/Expansion", "takesFeedback", "()Z"⟩ : MethodName)) (z := (⟨"com/example/mehr/mehr/Expansion", "takesFeedback", "()Z"⟩ : MethodName)) hown (mvT hZ (hw _ (List.mem_of_getElem? (i := 8) rfl))) (mvT hZ (hw _ (List.mem_of_getElem? (i := 9) rfl))) (notFace_of_selects (args := #[]) (mvT hZ (hw _ (List.mem_of_getElem? (i := 11) rfl)))) (mvT hZ (hw _ (List.mem_of_getElem? (i := 11) rfl))) (mvT hZ (hw _ (List.mem_of_getElem? (i := 10) rfl))) (by decide) (backOf (W := 0) (rm_tf1 l Z a0 hw [] A_CODE h0 n0 O0 (u12.ext O0.2) (u17.ext O0.2)) hZ (hw _ (List.mem_of_getElem? (i := 12) rfl)) (hw _ (List.mem_of_getElem? (i := 6) rfl)) (by decide) (by decide)) q31a q31c (g := (mkF me_ 34 #[.val (.int p0), .val (.int (2 : Int32)), .val (.ref A_CODE), .val (.int (1 : Int32)), .unset, .unset] [(.ref A_CODE)])) rfl (by rw [hml]; rfl) (Steps.refl _) (argsL := []) (rest := []) (lenOf pd_1 rfl) rfl (by show 2 * 0 + _ ≤ _; exact Nat.le_of_eq rfl) (hb hby at_34) (fun _ _ => ⟨rfl, eq29, (by decide : 0 + 0 ≤ _), (by decide : 0 + 0 ≤ _)⟩)
    dsimp only [Pt.U, Pt.locs, Pt.cells, Pt.slots] at X31 l31 y31 z31 st31 hQ31
    subst l31 y31 z31
    obtain ⟨rfl, Nq31, eq31⟩ := hQ31
    have N32 := Fr.app N30 Nq31
    refine gv (fun tQ kQ => st31.trans kQ) ?_
    show G (T31.setTop (mkF me_ 37 #[.val (.int p0), .val (.int (2 : Int32)), .val (.ref A_CODE), .val (.int (1 : Int32)), .unset, .unset] [(.int (1 : Int32))]))
    refine gv (fun tQ kQ => XS.istore X31.here hx rfl (hb hby at_37) rfl (l' := #[.val (.int p0), .val (.int (2 : Int32)), .val (.ref A_CODE), .val (.int (1 : Int32)), .val (.int (1 : Int32)), .unset]) rfl kQ) ?_
    show G (T31.setTop (mkF me_ 39 #[.val (.int p0), .val (.int (2 : Int32)), .val (.ref A_CODE), .val (.int (1 : Int32)), .val (.int (1 : Int32)), .unset] []))
    refine gv (fun tQ kQ => XS.aloadN X31.here hx rfl (hb hby at_39) rfl rfl kQ) ?_
    show G (T31.setTop (mkF me_ 40 #[.val (.int p0), .val (.int (2 : Int32)), .val (.ref A_CODE), .val (.int (1 : Int32)), .val (.int (1 : Int32)), .unset] [(.ref A_CODE)]))
    obtain ⟨cq33, kq33, q33a, q33b, q33c⟩ := isOf hZ eq31 (u7.ext O0.2)
    obtain ⟨_, _, ⟨T33, L33, k33, n33⟩, -, X33, ⟨Lc33, hQ33, l33, y33, z33⟩, st33⟩ := X31.virtualBack hx (y := (⟨"com/example/mehr/mehr/Expansion", "addsWords", "()Z"⟩ : MethodName)) (z := (⟨"com/example/mehr/mehr/Expansion", "addsWords", "()Z"⟩ : MethodName)) hown (mvT hZ (hw _ (List.mem_of_getElem? (i := 17) rfl))) (mvT hZ (hw _ (List.mem_of_getElem? (i := 18) rfl))) (notFace_of_selects (args := #[]) (mvT hZ (hw _ (List.mem_of_getElem? (i := 20) rfl)))) (mvT hZ (hw _ (List.mem_of_getElem? (i := 20) rfl))) (mvT hZ (hw _ (List.mem_of_getElem? (i := 19) rfl))) (by decide) (backOf (W := 0) (rm_aw0 l Z a0 hw [] A_CODE h0 n0 O0 (u12.ext O0.2)) hZ (hw _ (List.mem_of_getElem? (i := 21) rfl)) (hw _ (List.mem_of_getElem? (i := 6) rfl)) (by decide) (by decide)) q33a q33c (g := (mkF me_ 40 #[.val (.int p0), .val (.int (2 : Int32)), .val (.ref A_CODE), .val (.int (1 : Int32)), .val (.int (1 : Int32)), .unset] [(.ref A_CODE)])) rfl (by rw [hml]; rfl) (Steps.refl _) (argsL := []) (rest := []) (lenOf pd_1 rfl) rfl (by show 2 * 0 + _ ≤ _; exact Nat.le_of_eq rfl) (hb hby at_40) (fun _ _ => ⟨rfl, eq31, (by decide : 0 + 0 ≤ _), (by decide : 0 + 0 ≤ _)⟩)
    dsimp only [Pt.U, Pt.locs, Pt.cells, Pt.slots] at X33 l33 y33 z33 st33 hQ33
    subst l33 y33 z33
    obtain ⟨rfl, Nq33, eq33⟩ := hQ33
    have N34 := Fr.app N32 Nq33
    refine gv (fun tQ kQ => st33.trans kQ) ?_
    show G (T33.setTop (mkF me_ 43 #[.val (.int p0), .val (.int (2 : Int32)), .val (.ref A_CODE), .val (.int (1 : Int32)), .val (.int (1 : Int32)), .unset] [(.int (0 : Int32))]))
    refine gv (fun tQ kQ => XS.ifNo X33.here hx rfl (hb hby at_43) rfl ((if0 _ _).trans (teq (by decide : (0 : Int32) = (0 : Int32))).2) kQ) ?_
    show G (T33.setTop (mkF me_ 46 #[.val (.int p0), .val (.int (2 : Int32)), .val (.ref A_CODE), .val (.int (1 : Int32)), .val (.int (1 : Int32)), .unset] []))
    refine gv (fun tQ kQ => XS.aloadN X33.here hx rfl (hb hby at_46) rfl rfl kQ) ?_
    show G (T33.setTop (mkF me_ 47 #[.val (.int p0), .val (.int (2 : Int32)), .val (.ref A_CODE), .val (.int (1 : Int32)), .val (.int (1 : Int32)), .unset] [(.ref A_CODE)]))
    obtain ⟨cq35, kq35, q35a, q35b, q35c⟩ := isOf hZ eq33 (u7.ext O0.2)
    obtain ⟨_, _, ⟨T35, L35, k35, n35⟩, -, X35, ⟨Lc35, hQ35, l35, y35, z35⟩, st35⟩ := X33.virtualBack hx (y := (⟨"com/example/mehr/mehr/Expansion", "addsEntities", "()Z"⟩ : MethodName)) (z := (⟨"com/example/mehr/mehr/Expansion", "addsEntities", "()Z"⟩ : MethodName)) hown (mvT hZ (hw _ (List.mem_of_getElem? (i := 22) rfl))) (mvT hZ (hw _ (List.mem_of_getElem? (i := 23) rfl))) (notFace_of_selects (args := #[]) (mvT hZ (hw _ (List.mem_of_getElem? (i := 25) rfl)))) (mvT hZ (hw _ (List.mem_of_getElem? (i := 25) rfl))) (mvT hZ (hw _ (List.mem_of_getElem? (i := 24) rfl))) (by decide) (backOf (W := 0) (rm_ae1 l Z a0 hw [] A_CODE h0 n0 O0 (u17.ext O0.2)) hZ (hw _ (List.mem_of_getElem? (i := 26) rfl)) (hw _ (List.mem_of_getElem? (i := 6) rfl)) (by decide) (by decide)) q35a q35c (g := (mkF me_ 47 #[.val (.int p0), .val (.int (2 : Int32)), .val (.ref A_CODE), .val (.int (1 : Int32)), .val (.int (1 : Int32)), .unset] [(.ref A_CODE)])) rfl (by rw [hml]; rfl) (Steps.refl _) (argsL := []) (rest := []) (lenOf pd_1 rfl) rfl (by show 2 * 0 + _ ≤ _; exact Nat.le_of_eq rfl) (hb hby at_47) (fun _ _ => ⟨rfl, eq33, (by decide : 0 + 0 ≤ _), (by decide : 0 + 0 ≤ _)⟩)
    dsimp only [Pt.U, Pt.locs, Pt.cells, Pt.slots] at X35 l35 y35 z35 st35 hQ35
    subst l35 y35 z35
    obtain ⟨rfl, Nq35, eq35⟩ := hQ35
    have N36 := Fr.app N34 Nq35
    refine gv (fun tQ kQ => st35.trans kQ) ?_
    show G (T35.setTop (mkF me_ 50 #[.val (.int p0), .val (.int (2 : Int32)), .val (.ref A_CODE), .val (.int (1 : Int32)), .val (.int (1 : Int32)), .unset] [(.int (1 : Int32))]))
    refine gv (fun tQ kQ => XS.ifNo X35.here hx rfl (hb hby at_50) rfl ((if0 _ _).trans (feq (by decide : ¬ ((1 : Int32) = (0 : Int32)))).1) kQ) ?_
    show G (T35.setTop (mkF me_ 53 #[.val (.int p0), .val (.int (2 : Int32)), .val (.ref A_CODE), .val (.int (1 : Int32)), .val (.int (1 : Int32)), .unset] []))
    refine gv (fun tQ kQ => XS.iconst X35.here hx rfl (hb hby at_53) kQ) ?_
    show G (T35.setTop (mkF me_ 54 #[.val (.int p0), .val (.int (2 : Int32)), .val (.ref A_CODE), .val (.int (1 : Int32)), .val (.int (1 : Int32)), .unset] [(.int (1 : Int32))]))
    refine gv (fun tQ kQ => XS.goto X35.here hx rfl (pc0 := 54) (pc' := 58) rfl (hb hby at_54) (by decide) (by decide) kQ) ?_
    show G (T35.setTop (mkF me_ 58 #[.val (.int p0), .val (.int (2 : Int32)), .val (.ref A_CODE), .val (.int (1 : Int32)), .val (.int (1 : Int32)), .unset] [(.int (1 : Int32))]))
    refine gv (fun tQ kQ => XS.istore X35.here hx rfl (hb hby at_58) rfl (l' := #[.val (.int p0), .val (.int (2 : Int32)), .val (.ref A_CODE), .val (.int (1 : Int32)), .val (.int (1 : Int32)), .val (.int (1 : Int32))]) rfl kQ) ?_
    show G (T35.setTop (mkF me_ 60 #[.val (.int p0), .val (.int (2 : Int32)), .val (.ref A_CODE), .val (.int (1 : Int32)), .val (.int (1 : Int32)), .val (.int (1 : Int32))] []))
    refine gv (fun tQ kQ => XS.iload X35.here hx rfl (hb hby at_60) rfl kQ) ?_
    show G (T35.setTop (mkF me_ 62 #[.val (.int p0), .val (.int (2 : Int32)), .val (.ref A_CODE), .val (.int (1 : Int32)), .val (.int (1 : Int32)), .val (.int (1 : Int32))] [(.int (1 : Int32))]))
    refine gv (fun tQ kQ => XS.iloadN X35.here hx rfl (hb hby at_62) rfl kQ) ?_
    show G (T35.setTop (mkF me_ 63 #[.val (.int p0), .val (.int (2 : Int32)), .val (.ref A_CODE), .val (.int (1 : Int32)), .val (.int (1 : Int32)), .val (.int (1 : Int32))] [(.int (1 : Int32)), (.int (1 : Int32))]))
    refine gv (fun tQ kQ => XS.icmpNo X35.here hx rfl (hb hby at_63) rfl (teq (by decide : (1 : Int32) = (1 : Int32))).2 kQ) ?_
    show G (T35.setTop (mkF me_ 66 #[.val (.int p0), .val (.int (2 : Int32)), .val (.ref A_CODE), .val (.int (1 : Int32)), .val (.int (1 : Int32)), .val (.int (1 : Int32))] []))
    refine gv (fun tQ kQ => XS.iload X35.here hx rfl (hb hby at_66) rfl kQ) ?_
    show G (T35.setTop (mkF me_ 68 #[.val (.int p0), .val (.int (2 : Int32)), .val (.ref A_CODE), .val (.int (1 : Int32)), .val (.int (1 : Int32)), .val (.int (1 : Int32))] [(.int (1 : Int32))]))
    refine gv (fun tQ kQ => XS.ifNo X35.here hx rfl (hb hby at_68) rfl ((if0 _ _).trans (feq (by decide : ¬ ((1 : Int32) = (0 : Int32)))).1) kQ) ?_
    show G (T35.setTop (mkF me_ 71 #[.val (.int p0), .val (.int (2 : Int32)), .val (.ref A_CODE), .val (.int (1 : Int32)), .val (.int (1 : Int32)), .val (.int (1 : Int32))] []))
    refine gv (fun tQ kQ => XS.iload X35.here hx rfl (hb hby at_71) rfl kQ) ?_
    show G (T35.setTop (mkF me_ 73 #[.val (.int p0), .val (.int (2 : Int32)), .val (.ref A_CODE), .val (.int (1 : Int32)), .val (.int (1 : Int32)), .val (.int (1 : Int32))] [(.int (1 : Int32))]))
    refine gv (fun tQ kQ => XS.ifNo X35.here hx rfl (hb hby at_73) rfl ((if0 _ _).trans (feq (by decide : ¬ ((1 : Int32) = (0 : Int32)))).1) kQ) ?_
    show G (T35.setTop (mkF me_ 76 #[.val (.int p0), .val (.int (2 : Int32)), .val (.ref A_CODE), .val (.int (1 : Int32)), .val (.int (1 : Int32)), .val (.int (1 : Int32))] []))
    refine gv (fun tQ kQ => XS.iconst X35.here hx rfl (hb hby at_76) kQ) ?_
    show G (T35.setTop (mkF me_ 77 #[.val (.int p0), .val (.int (2 : Int32)), .val (.ref A_CODE), .val (.int (1 : Int32)), .val (.int (1 : Int32)), .val (.int (1 : Int32))] [(.int (1 : Int32))]))
    refine gv (fun tQ kQ => XS.goto X35.here hx rfl (pc0 := 77) (pc' := 81) rfl (hb hby at_77) (by decide) (by decide) kQ) ?_
    show G (T35.setTop (mkF me_ 81 #[.val (.int p0), .val (.int (2 : Int32)), .val (.ref A_CODE), .val (.int (1 : Int32)), .val (.int (1 : Int32)), .val (.int (1 : Int32))] [(.int (1 : Int32))]))
    refine gf _ (own_ret X35 Bd.notSynchronized (v := some (.int (1 : Int32))) (fun h => by rw [Bd.returns] at h; cases h) ?_ (by decide) (by decide) (fun fs hr => retN X35 hx (t := .boolean) Bd.returns (by simp) (hb hby at_81) hr))
    show Q0 Z p0 A_NONE A_QA A_CODE A_QA_CODE A_WORDNET h0 n0 _ T35.heap _
    rw [eq35]
    exact ⟨rfl, N36⟩
  · rw [q]
    show G (s₁.setTop (mkF me_ 7 #[.val (.int p0), .val (.int (3 : Int32)), .unset, .unset, .unset, .unset] []))
    refine gv (fun tQ kQ => XS.iloadN X0.here hx rfl (hb hby at_7) rfl kQ) ?_
    show G (s₁.setTop (mkF me_ 8 #[.val (.int p0), .val (.int (3 : Int32)), .unset, .unset, .unset, .unset] [(.int (3 : Int32))]))
    obtain ⟨_, _, ⟨T37, L37, k37, n37⟩, -, X37, ⟨Lc37, hQ37, l37, y37, z37⟩, st37⟩ := Jvm.LawKit.callS X0 hx (y := (⟨"com/example/mehr/mehr/ExpansionTakesFeedbackPinLaw", "pick", "(I)Lcom/example/mehr/mehr/Expansion;"⟩ : MethodName)) hown (mvT hZ (hw _ (List.mem_of_getElem? (i := 1) rfl))) (mvT hZ (hw _ (List.mem_of_getElem? (i := 2) rfl))) (mvT hZ (hw _ (List.mem_of_getElem? (i := 3) rfl))) (mvT hZ (hw _ (List.mem_of_getElem? (i := 4) rfl))) (by decide) (backOf (W := 0) (rm_pick3 l Z a0 hw [] A_QA_CODE h0 n0 O0 u3) hZ (hw _ (List.mem_of_getElem? (i := 4) rfl)) (hw _ (List.mem_of_getElem? (i := 3) rfl)) (by decide) (by decide)) (g := (mkF me_ 8 #[.val (.int p0), .val (.int (3 : Int32)), .unset, .unset, .unset, .unset] [(.int (3 : Int32))])) rfl (by rw [hml]; rfl) (argsL := [(.int (3 : Int32))]) (rest := []) (lenOf pd_0 rfl) rfl (by show 2 * 0 + _ ≤ _; exact Nat.le_of_eq rfl) (hb hby at_8) (fun _ _ => ⟨rfl, e0, (by decide : 0 + 0 ≤ _), (by decide : 0 + 0 ≤ _)⟩)
    dsimp only [Pt.U, Pt.locs, Pt.cells, Pt.slots] at X37 l37 y37 z37 st37 hQ37
    subst l37 y37 z37
    obtain ⟨rfl, Nq37, eq37⟩ := hQ37
    have N38 := Fr.app N0 Nq37
    refine gv st37 ?_
    show G (T37.setTop (mkF me_ 11 #[.val (.int p0), .val (.int (3 : Int32)), .unset, .unset, .unset, .unset] [(.ref A_QA_CODE)]))
    refine gv (fun tQ kQ => XS.astoreN X37.here hx rfl (hb hby at_11) rfl rfl (l' := #[.val (.int p0), .val (.int (3 : Int32)), .val (.ref A_QA_CODE), .unset, .unset, .unset]) rfl kQ) ?_
    show G (T37.setTop (mkF me_ 12 #[.val (.int p0), .val (.int (3 : Int32)), .val (.ref A_QA_CODE), .unset, .unset, .unset] []))
    refine gv (fun tQ kQ => XS.iloadN X37.here hx rfl (hb hby at_12) rfl kQ) ?_
    show G (T37.setTop (mkF me_ 13 #[.val (.int p0), .val (.int (3 : Int32)), .val (.ref A_QA_CODE), .unset, .unset, .unset] [(.int (3 : Int32))]))
    refine gv (fun tQ kQ => XS.iconst X37.here hx rfl (hb hby at_13) kQ) ?_
    show G (T37.setTop (mkF me_ 14 #[.val (.int p0), .val (.int (3 : Int32)), .val (.ref A_QA_CODE), .unset, .unset, .unset] [(.int (1 : Int32)), (.int (3 : Int32))]))
    refine gv (fun tQ kQ => XS.icmpNo X37.here hx rfl (hb hby at_14) rfl (feq (by decide : ¬ ((3 : Int32) = (1 : Int32)))).1 kQ) ?_
    show G (T37.setTop (mkF me_ 17 #[.val (.int p0), .val (.int (3 : Int32)), .val (.ref A_QA_CODE), .unset, .unset, .unset] []))
    refine gv (fun tQ kQ => XS.iloadN X37.here hx rfl (hb hby at_17) rfl kQ) ?_
    show G (T37.setTop (mkF me_ 18 #[.val (.int p0), .val (.int (3 : Int32)), .val (.ref A_QA_CODE), .unset, .unset, .unset] [(.int (3 : Int32))]))
    refine gv (fun tQ kQ => XS.iconst X37.here hx rfl (hb hby at_18) kQ) ?_
    show G (T37.setTop (mkF me_ 19 #[.val (.int p0), .val (.int (3 : Int32)), .val (.ref A_QA_CODE), .unset, .unset, .unset] [(.int (2 : Int32)), (.int (3 : Int32))]))
    refine gv (fun tQ kQ => XS.icmpNo X37.here hx rfl (hb hby at_19) rfl (feq (by decide : ¬ ((3 : Int32) = (2 : Int32)))).1 kQ) ?_
    show G (T37.setTop (mkF me_ 22 #[.val (.int p0), .val (.int (3 : Int32)), .val (.ref A_QA_CODE), .unset, .unset, .unset] []))
    refine gv (fun tQ kQ => XS.iloadN X37.here hx rfl (hb hby at_22) rfl kQ) ?_
    show G (T37.setTop (mkF me_ 23 #[.val (.int p0), .val (.int (3 : Int32)), .val (.ref A_QA_CODE), .unset, .unset, .unset] [(.int (3 : Int32))]))
    refine gv (fun tQ kQ => XS.iconst X37.here hx rfl (hb hby at_23) kQ) ?_
    show G (T37.setTop (mkF me_ 24 #[.val (.int p0), .val (.int (3 : Int32)), .val (.ref A_QA_CODE), .unset, .unset, .unset] [(.int (3 : Int32)), (.int (3 : Int32))]))
    refine gv (fun tQ kQ => XS.icmpNo X37.here hx rfl (hb hby at_24) rfl (teq (by decide : (3 : Int32) = (3 : Int32))).2 kQ) ?_
    show G (T37.setTop (mkF me_ 27 #[.val (.int p0), .val (.int (3 : Int32)), .val (.ref A_QA_CODE), .unset, .unset, .unset] []))
    refine gv (fun tQ kQ => XS.iconst X37.here hx rfl (hb hby at_27) kQ) ?_
    show G (T37.setTop (mkF me_ 28 #[.val (.int p0), .val (.int (3 : Int32)), .val (.ref A_QA_CODE), .unset, .unset, .unset] [(.int (1 : Int32))]))
    refine gv (fun tQ kQ => XS.goto X37.here hx rfl (pc0 := 28) (pc' := 32) rfl (hb hby at_28) (by decide) (by decide) kQ) ?_
    show G (T37.setTop (mkF me_ 32 #[.val (.int p0), .val (.int (3 : Int32)), .val (.ref A_QA_CODE), .unset, .unset, .unset] [(.int (1 : Int32))]))
    refine gv (fun tQ kQ => XS.istoreN X37.here hx rfl (hb hby at_32) rfl (l' := #[.val (.int p0), .val (.int (3 : Int32)), .val (.ref A_QA_CODE), .val (.int (1 : Int32)), .unset, .unset]) rfl kQ) ?_
    show G (T37.setTop (mkF me_ 33 #[.val (.int p0), .val (.int (3 : Int32)), .val (.ref A_QA_CODE), .val (.int (1 : Int32)), .unset, .unset] []))
    refine gv (fun tQ kQ => XS.aloadN X37.here hx rfl (hb hby at_33) rfl rfl kQ) ?_
    show G (T37.setTop (mkF me_ 34 #[.val (.int p0), .val (.int (3 : Int32)), .val (.ref A_QA_CODE), .val (.int (1 : Int32)), .unset, .unset] [(.ref A_QA_CODE)]))
    obtain ⟨cq39, kq39, q39a, q39b, q39c⟩ := isOf hZ eq37 (u8.ext O0.2)
    obtain ⟨_, _, ⟨T39, L39, k39, n39⟩, -, X39, ⟨Lc39, hQ39, l39, y39, z39⟩, st39⟩ := X37.virtualBack hx (y := (⟨"com/example/mehr/mehr/Expansion", "takesFeedback", "()Z"⟩ : MethodName)) (z := (⟨"com/example/mehr/mehr/Expansion", "takesFeedback", "()Z"⟩ : MethodName)) hown (mvT hZ (hw _ (List.mem_of_getElem? (i := 8) rfl))) (mvT hZ (hw _ (List.mem_of_getElem? (i := 9) rfl))) (notFace_of_selects (args := #[]) (mvT hZ (hw _ (List.mem_of_getElem? (i := 11) rfl)))) (mvT hZ (hw _ (List.mem_of_getElem? (i := 11) rfl))) (mvT hZ (hw _ (List.mem_of_getElem? (i := 10) rfl))) (by decide) (backOf (W := 0) (rm_tf0 l Z a0 hw [] A_QA_CODE h0 n0 O0 (u13.ext O0.2)) hZ (hw _ (List.mem_of_getElem? (i := 12) rfl)) (hw _ (List.mem_of_getElem? (i := 6) rfl)) (by decide) (by decide)) q39a q39c (g := (mkF me_ 34 #[.val (.int p0), .val (.int (3 : Int32)), .val (.ref A_QA_CODE), .val (.int (1 : Int32)), .unset, .unset] [(.ref A_QA_CODE)])) rfl (by rw [hml]; rfl) (Steps.refl _) (argsL := []) (rest := []) (lenOf pd_1 rfl) rfl (by show 2 * 0 + _ ≤ _; exact Nat.le_of_eq rfl) (hb hby at_34) (fun _ _ => ⟨rfl, eq37, (by decide : 0 + 0 ≤ _), (by decide : 0 + 0 ≤ _)⟩)
    dsimp only [Pt.U, Pt.locs, Pt.cells, Pt.slots] at X39 l39 y39 z39 st39 hQ39
    subst l39 y39 z39
    obtain ⟨rfl, Nq39, eq39⟩ := hQ39
    have N40 := Fr.app N38 Nq39
    refine gv (fun tQ kQ => st39.trans kQ) ?_
    show G (T39.setTop (mkF me_ 37 #[.val (.int p0), .val (.int (3 : Int32)), .val (.ref A_QA_CODE), .val (.int (1 : Int32)), .unset, .unset] [(.int (1 : Int32))]))
    refine gv (fun tQ kQ => XS.istore X39.here hx rfl (hb hby at_37) rfl (l' := #[.val (.int p0), .val (.int (3 : Int32)), .val (.ref A_QA_CODE), .val (.int (1 : Int32)), .val (.int (1 : Int32)), .unset]) rfl kQ) ?_
    show G (T39.setTop (mkF me_ 39 #[.val (.int p0), .val (.int (3 : Int32)), .val (.ref A_QA_CODE), .val (.int (1 : Int32)), .val (.int (1 : Int32)), .unset] []))
    refine gv (fun tQ kQ => XS.aloadN X39.here hx rfl (hb hby at_39) rfl rfl kQ) ?_
    show G (T39.setTop (mkF me_ 40 #[.val (.int p0), .val (.int (3 : Int32)), .val (.ref A_QA_CODE), .val (.int (1 : Int32)), .val (.int (1 : Int32)), .unset] [(.ref A_QA_CODE)]))
    obtain ⟨cq41, kq41, q41a, q41b, q41c⟩ := isOf hZ eq39 (u8.ext O0.2)
    obtain ⟨_, _, ⟨T41, L41, k41, n41⟩, -, X41, ⟨Lc41, hQ41, l41, y41, z41⟩, st41⟩ := X39.virtualBack hx (y := (⟨"com/example/mehr/mehr/Expansion", "addsWords", "()Z"⟩ : MethodName)) (z := (⟨"com/example/mehr/mehr/Expansion", "addsWords", "()Z"⟩ : MethodName)) hown (mvT hZ (hw _ (List.mem_of_getElem? (i := 17) rfl))) (mvT hZ (hw _ (List.mem_of_getElem? (i := 18) rfl))) (notFace_of_selects (args := #[]) (mvT hZ (hw _ (List.mem_of_getElem? (i := 20) rfl)))) (mvT hZ (hw _ (List.mem_of_getElem? (i := 20) rfl))) (mvT hZ (hw _ (List.mem_of_getElem? (i := 19) rfl))) (by decide) (backOf (W := 0) (rm_aw1 l Z a0 hw [] A_QA_CODE h0 n0 O0 (u13.ext O0.2)) hZ (hw _ (List.mem_of_getElem? (i := 21) rfl)) (hw _ (List.mem_of_getElem? (i := 6) rfl)) (by decide) (by decide)) q41a q41c (g := (mkF me_ 40 #[.val (.int p0), .val (.int (3 : Int32)), .val (.ref A_QA_CODE), .val (.int (1 : Int32)), .val (.int (1 : Int32)), .unset] [(.ref A_QA_CODE)])) rfl (by rw [hml]; rfl) (Steps.refl _) (argsL := []) (rest := []) (lenOf pd_1 rfl) rfl (by show 2 * 0 + _ ≤ _; exact Nat.le_of_eq rfl) (hb hby at_40) (fun _ _ => ⟨rfl, eq39, (by decide : 0 + 0 ≤ _), (by decide : 0 + 0 ≤ _)⟩)
    dsimp only [Pt.U, Pt.locs, Pt.cells, Pt.slots] at X41 l41 y41 z41 st41 hQ41
    subst l41 y41 z41
    obtain ⟨rfl, Nq41, eq41⟩ := hQ41
    have N42 := Fr.app N40 Nq41
    refine gv (fun tQ kQ => st41.trans kQ) ?_
    show G (T41.setTop (mkF me_ 43 #[.val (.int p0), .val (.int (3 : Int32)), .val (.ref A_QA_CODE), .val (.int (1 : Int32)), .val (.int (1 : Int32)), .unset] [(.int (1 : Int32))]))
    refine gv (fun tQ kQ => XS.ifYes X41.here hx rfl (pc0 := 43) (pc' := 53) rfl (hb hby at_43) rfl ((if0 _ _).trans (feq (by decide : ¬ ((1 : Int32) = (0 : Int32)))).2) (by decide) (by decide) kQ) ?_
    show G (T41.setTop (mkF me_ 53 #[.val (.int p0), .val (.int (3 : Int32)), .val (.ref A_QA_CODE), .val (.int (1 : Int32)), .val (.int (1 : Int32)), .unset] []))
    refine gv (fun tQ kQ => XS.iconst X41.here hx rfl (hb hby at_53) kQ) ?_
    show G (T41.setTop (mkF me_ 54 #[.val (.int p0), .val (.int (3 : Int32)), .val (.ref A_QA_CODE), .val (.int (1 : Int32)), .val (.int (1 : Int32)), .unset] [(.int (1 : Int32))]))
    refine gv (fun tQ kQ => XS.goto X41.here hx rfl (pc0 := 54) (pc' := 58) rfl (hb hby at_54) (by decide) (by decide) kQ) ?_
    show G (T41.setTop (mkF me_ 58 #[.val (.int p0), .val (.int (3 : Int32)), .val (.ref A_QA_CODE), .val (.int (1 : Int32)), .val (.int (1 : Int32)), .unset] [(.int (1 : Int32))]))
    refine gv (fun tQ kQ => XS.istore X41.here hx rfl (hb hby at_58) rfl (l' := #[.val (.int p0), .val (.int (3 : Int32)), .val (.ref A_QA_CODE), .val (.int (1 : Int32)), .val (.int (1 : Int32)), .val (.int (1 : Int32))]) rfl kQ) ?_
    show G (T41.setTop (mkF me_ 60 #[.val (.int p0), .val (.int (3 : Int32)), .val (.ref A_QA_CODE), .val (.int (1 : Int32)), .val (.int (1 : Int32)), .val (.int (1 : Int32))] []))
    refine gv (fun tQ kQ => XS.iload X41.here hx rfl (hb hby at_60) rfl kQ) ?_
    show G (T41.setTop (mkF me_ 62 #[.val (.int p0), .val (.int (3 : Int32)), .val (.ref A_QA_CODE), .val (.int (1 : Int32)), .val (.int (1 : Int32)), .val (.int (1 : Int32))] [(.int (1 : Int32))]))
    refine gv (fun tQ kQ => XS.iloadN X41.here hx rfl (hb hby at_62) rfl kQ) ?_
    show G (T41.setTop (mkF me_ 63 #[.val (.int p0), .val (.int (3 : Int32)), .val (.ref A_QA_CODE), .val (.int (1 : Int32)), .val (.int (1 : Int32)), .val (.int (1 : Int32))] [(.int (1 : Int32)), (.int (1 : Int32))]))
    refine gv (fun tQ kQ => XS.icmpNo X41.here hx rfl (hb hby at_63) rfl (teq (by decide : (1 : Int32) = (1 : Int32))).2 kQ) ?_
    show G (T41.setTop (mkF me_ 66 #[.val (.int p0), .val (.int (3 : Int32)), .val (.ref A_QA_CODE), .val (.int (1 : Int32)), .val (.int (1 : Int32)), .val (.int (1 : Int32))] []))
    refine gv (fun tQ kQ => XS.iload X41.here hx rfl (hb hby at_66) rfl kQ) ?_
    show G (T41.setTop (mkF me_ 68 #[.val (.int p0), .val (.int (3 : Int32)), .val (.ref A_QA_CODE), .val (.int (1 : Int32)), .val (.int (1 : Int32)), .val (.int (1 : Int32))] [(.int (1 : Int32))]))
    refine gv (fun tQ kQ => XS.ifNo X41.here hx rfl (hb hby at_68) rfl ((if0 _ _).trans (feq (by decide : ¬ ((1 : Int32) = (0 : Int32)))).1) kQ) ?_
    show G (T41.setTop (mkF me_ 71 #[.val (.int p0), .val (.int (3 : Int32)), .val (.ref A_QA_CODE), .val (.int (1 : Int32)), .val (.int (1 : Int32)), .val (.int (1 : Int32))] []))
    refine gv (fun tQ kQ => XS.iload X41.here hx rfl (hb hby at_71) rfl kQ) ?_
    show G (T41.setTop (mkF me_ 73 #[.val (.int p0), .val (.int (3 : Int32)), .val (.ref A_QA_CODE), .val (.int (1 : Int32)), .val (.int (1 : Int32)), .val (.int (1 : Int32))] [(.int (1 : Int32))]))
    refine gv (fun tQ kQ => XS.ifNo X41.here hx rfl (hb hby at_73) rfl ((if0 _ _).trans (feq (by decide : ¬ ((1 : Int32) = (0 : Int32)))).1) kQ) ?_
    show G (T41.setTop (mkF me_ 76 #[.val (.int p0), .val (.int (3 : Int32)), .val (.ref A_QA_CODE), .val (.int (1 : Int32)), .val (.int (1 : Int32)), .val (.int (1 : Int32))] []))
    refine gv (fun tQ kQ => XS.iconst X41.here hx rfl (hb hby at_76) kQ) ?_
    show G (T41.setTop (mkF me_ 77 #[.val (.int p0), .val (.int (3 : Int32)), .val (.ref A_QA_CODE), .val (.int (1 : Int32)), .val (.int (1 : Int32)), .val (.int (1 : Int32))] [(.int (1 : Int32))]))
    refine gv (fun tQ kQ => XS.goto X41.here hx rfl (pc0 := 77) (pc' := 81) rfl (hb hby at_77) (by decide) (by decide) kQ) ?_
    show G (T41.setTop (mkF me_ 81 #[.val (.int p0), .val (.int (3 : Int32)), .val (.ref A_QA_CODE), .val (.int (1 : Int32)), .val (.int (1 : Int32)), .val (.int (1 : Int32))] [(.int (1 : Int32))]))
    refine gf _ (own_ret X41 Bd.notSynchronized (v := some (.int (1 : Int32))) (fun h => by rw [Bd.returns] at h; cases h) ?_ (by decide) (by decide) (fun fs hr => retN X41 hx (t := .boolean) Bd.returns (by simp) (hb hby at_81) hr))
    show Q0 Z p0 A_NONE A_QA A_CODE A_QA_CODE A_WORDNET h0 n0 _ T41.heap _
    rw [eq41]
    exact ⟨rfl, N42⟩
  · rw [q]
    show G (s₁.setTop (mkF me_ 7 #[.val (.int p0), .val (.int (4 : Int32)), .unset, .unset, .unset, .unset] []))
    refine gv (fun tQ kQ => XS.iloadN X0.here hx rfl (hb hby at_7) rfl kQ) ?_
    show G (s₁.setTop (mkF me_ 8 #[.val (.int p0), .val (.int (4 : Int32)), .unset, .unset, .unset, .unset] [(.int (4 : Int32))]))
    obtain ⟨_, _, ⟨T43, L43, k43, n43⟩, -, X43, ⟨Lc43, hQ43, l43, y43, z43⟩, st43⟩ := Jvm.LawKit.callS X0 hx (y := (⟨"com/example/mehr/mehr/ExpansionTakesFeedbackPinLaw", "pick", "(I)Lcom/example/mehr/mehr/Expansion;"⟩ : MethodName)) hown (mvT hZ (hw _ (List.mem_of_getElem? (i := 1) rfl))) (mvT hZ (hw _ (List.mem_of_getElem? (i := 2) rfl))) (mvT hZ (hw _ (List.mem_of_getElem? (i := 3) rfl))) (mvT hZ (hw _ (List.mem_of_getElem? (i := 4) rfl))) (by decide) (backOf (W := 0) (rm_pick4 l Z a0 hw [] A_WORDNET h0 n0 O0 u4) hZ (hw _ (List.mem_of_getElem? (i := 4) rfl)) (hw _ (List.mem_of_getElem? (i := 3) rfl)) (by decide) (by decide)) (g := (mkF me_ 8 #[.val (.int p0), .val (.int (4 : Int32)), .unset, .unset, .unset, .unset] [(.int (4 : Int32))])) rfl (by rw [hml]; rfl) (argsL := [(.int (4 : Int32))]) (rest := []) (lenOf pd_0 rfl) rfl (by show 2 * 0 + _ ≤ _; exact Nat.le_of_eq rfl) (hb hby at_8) (fun _ _ => ⟨rfl, e0, (by decide : 0 + 0 ≤ _), (by decide : 0 + 0 ≤ _)⟩)
    dsimp only [Pt.U, Pt.locs, Pt.cells, Pt.slots] at X43 l43 y43 z43 st43 hQ43
    subst l43 y43 z43
    obtain ⟨rfl, Nq43, eq43⟩ := hQ43
    have N44 := Fr.app N0 Nq43
    refine gv st43 ?_
    show G (T43.setTop (mkF me_ 11 #[.val (.int p0), .val (.int (4 : Int32)), .unset, .unset, .unset, .unset] [(.ref A_WORDNET)]))
    refine gv (fun tQ kQ => XS.astoreN X43.here hx rfl (hb hby at_11) rfl rfl (l' := #[.val (.int p0), .val (.int (4 : Int32)), .val (.ref A_WORDNET), .unset, .unset, .unset]) rfl kQ) ?_
    show G (T43.setTop (mkF me_ 12 #[.val (.int p0), .val (.int (4 : Int32)), .val (.ref A_WORDNET), .unset, .unset, .unset] []))
    refine gv (fun tQ kQ => XS.iloadN X43.here hx rfl (hb hby at_12) rfl kQ) ?_
    show G (T43.setTop (mkF me_ 13 #[.val (.int p0), .val (.int (4 : Int32)), .val (.ref A_WORDNET), .unset, .unset, .unset] [(.int (4 : Int32))]))
    refine gv (fun tQ kQ => XS.iconst X43.here hx rfl (hb hby at_13) kQ) ?_
    show G (T43.setTop (mkF me_ 14 #[.val (.int p0), .val (.int (4 : Int32)), .val (.ref A_WORDNET), .unset, .unset, .unset] [(.int (1 : Int32)), (.int (4 : Int32))]))
    refine gv (fun tQ kQ => XS.icmpNo X43.here hx rfl (hb hby at_14) rfl (feq (by decide : ¬ ((4 : Int32) = (1 : Int32)))).1 kQ) ?_
    show G (T43.setTop (mkF me_ 17 #[.val (.int p0), .val (.int (4 : Int32)), .val (.ref A_WORDNET), .unset, .unset, .unset] []))
    refine gv (fun tQ kQ => XS.iloadN X43.here hx rfl (hb hby at_17) rfl kQ) ?_
    show G (T43.setTop (mkF me_ 18 #[.val (.int p0), .val (.int (4 : Int32)), .val (.ref A_WORDNET), .unset, .unset, .unset] [(.int (4 : Int32))]))
    refine gv (fun tQ kQ => XS.iconst X43.here hx rfl (hb hby at_18) kQ) ?_
    show G (T43.setTop (mkF me_ 19 #[.val (.int p0), .val (.int (4 : Int32)), .val (.ref A_WORDNET), .unset, .unset, .unset] [(.int (2 : Int32)), (.int (4 : Int32))]))
    refine gv (fun tQ kQ => XS.icmpNo X43.here hx rfl (hb hby at_19) rfl (feq (by decide : ¬ ((4 : Int32) = (2 : Int32)))).1 kQ) ?_
    show G (T43.setTop (mkF me_ 22 #[.val (.int p0), .val (.int (4 : Int32)), .val (.ref A_WORDNET), .unset, .unset, .unset] []))
    refine gv (fun tQ kQ => XS.iloadN X43.here hx rfl (hb hby at_22) rfl kQ) ?_
    show G (T43.setTop (mkF me_ 23 #[.val (.int p0), .val (.int (4 : Int32)), .val (.ref A_WORDNET), .unset, .unset, .unset] [(.int (4 : Int32))]))
    refine gv (fun tQ kQ => XS.iconst X43.here hx rfl (hb hby at_23) kQ) ?_
    show G (T43.setTop (mkF me_ 24 #[.val (.int p0), .val (.int (4 : Int32)), .val (.ref A_WORDNET), .unset, .unset, .unset] [(.int (3 : Int32)), (.int (4 : Int32))]))
    refine gv (fun tQ kQ => XS.icmpYes X43.here hx rfl (pc0 := 24) (pc' := 31) rfl (hb hby at_24) rfl (feq (by decide : ¬ ((4 : Int32) = (3 : Int32)))).2 (by decide) (by decide) kQ) ?_
    show G (T43.setTop (mkF me_ 31 #[.val (.int p0), .val (.int (4 : Int32)), .val (.ref A_WORDNET), .unset, .unset, .unset] []))
    refine gv (fun tQ kQ => XS.iconst X43.here hx rfl (hb hby at_31) kQ) ?_
    show G (T43.setTop (mkF me_ 32 #[.val (.int p0), .val (.int (4 : Int32)), .val (.ref A_WORDNET), .unset, .unset, .unset] [(.int (0 : Int32))]))
    refine gv (fun tQ kQ => XS.istoreN X43.here hx rfl (hb hby at_32) rfl (l' := #[.val (.int p0), .val (.int (4 : Int32)), .val (.ref A_WORDNET), .val (.int (0 : Int32)), .unset, .unset]) rfl kQ) ?_
    show G (T43.setTop (mkF me_ 33 #[.val (.int p0), .val (.int (4 : Int32)), .val (.ref A_WORDNET), .val (.int (0 : Int32)), .unset, .unset] []))
    refine gv (fun tQ kQ => XS.aloadN X43.here hx rfl (hb hby at_33) rfl rfl kQ) ?_
    show G (T43.setTop (mkF me_ 34 #[.val (.int p0), .val (.int (4 : Int32)), .val (.ref A_WORDNET), .val (.int (0 : Int32)), .unset, .unset] [(.ref A_WORDNET)]))
    obtain ⟨cq45, kq45, q45a, q45b, q45c⟩ := isOf hZ eq43 (u9.ext O0.2)
    obtain ⟨_, _, ⟨T45, L45, k45, n45⟩, -, X45, ⟨Lc45, hQ45, l45, y45, z45⟩, st45⟩ := X43.virtualBack hx (y := (⟨"com/example/mehr/mehr/Expansion", "takesFeedback", "()Z"⟩ : MethodName)) (z := (⟨"com/example/mehr/mehr/Expansion", "takesFeedback", "()Z"⟩ : MethodName)) hown (mvT hZ (hw _ (List.mem_of_getElem? (i := 8) rfl))) (mvT hZ (hw _ (List.mem_of_getElem? (i := 9) rfl))) (notFace_of_selects (args := #[]) (mvT hZ (hw _ (List.mem_of_getElem? (i := 11) rfl)))) (mvT hZ (hw _ (List.mem_of_getElem? (i := 11) rfl))) (mvT hZ (hw _ (List.mem_of_getElem? (i := 10) rfl))) (by decide) (backOf (W := 0) (rm_tf2 l Z a0 hw [] A_WORDNET h0 n0 O0 (u14.ext O0.2) (u19.ext O0.2)) hZ (hw _ (List.mem_of_getElem? (i := 12) rfl)) (hw _ (List.mem_of_getElem? (i := 6) rfl)) (by decide) (by decide)) q45a q45c (g := (mkF me_ 34 #[.val (.int p0), .val (.int (4 : Int32)), .val (.ref A_WORDNET), .val (.int (0 : Int32)), .unset, .unset] [(.ref A_WORDNET)])) rfl (by rw [hml]; rfl) (Steps.refl _) (argsL := []) (rest := []) (lenOf pd_1 rfl) rfl (by show 2 * 0 + _ ≤ _; exact Nat.le_of_eq rfl) (hb hby at_34) (fun _ _ => ⟨rfl, eq43, (by decide : 0 + 0 ≤ _), (by decide : 0 + 0 ≤ _)⟩)
    dsimp only [Pt.U, Pt.locs, Pt.cells, Pt.slots] at X45 l45 y45 z45 st45 hQ45
    subst l45 y45 z45
    obtain ⟨rfl, Nq45, eq45⟩ := hQ45
    have N46 := Fr.app N44 Nq45
    refine gv (fun tQ kQ => st45.trans kQ) ?_
    show G (T45.setTop (mkF me_ 37 #[.val (.int p0), .val (.int (4 : Int32)), .val (.ref A_WORDNET), .val (.int (0 : Int32)), .unset, .unset] [(.int (0 : Int32))]))
    refine gv (fun tQ kQ => XS.istore X45.here hx rfl (hb hby at_37) rfl (l' := #[.val (.int p0), .val (.int (4 : Int32)), .val (.ref A_WORDNET), .val (.int (0 : Int32)), .val (.int (0 : Int32)), .unset]) rfl kQ) ?_
    show G (T45.setTop (mkF me_ 39 #[.val (.int p0), .val (.int (4 : Int32)), .val (.ref A_WORDNET), .val (.int (0 : Int32)), .val (.int (0 : Int32)), .unset] []))
    refine gv (fun tQ kQ => XS.aloadN X45.here hx rfl (hb hby at_39) rfl rfl kQ) ?_
    show G (T45.setTop (mkF me_ 40 #[.val (.int p0), .val (.int (4 : Int32)), .val (.ref A_WORDNET), .val (.int (0 : Int32)), .val (.int (0 : Int32)), .unset] [(.ref A_WORDNET)]))
    obtain ⟨cq47, kq47, q47a, q47b, q47c⟩ := isOf hZ eq45 (u9.ext O0.2)
    obtain ⟨_, _, ⟨T47, L47, k47, n47⟩, -, X47, ⟨Lc47, hQ47, l47, y47, z47⟩, st47⟩ := X45.virtualBack hx (y := (⟨"com/example/mehr/mehr/Expansion", "addsWords", "()Z"⟩ : MethodName)) (z := (⟨"com/example/mehr/mehr/Expansion", "addsWords", "()Z"⟩ : MethodName)) hown (mvT hZ (hw _ (List.mem_of_getElem? (i := 17) rfl))) (mvT hZ (hw _ (List.mem_of_getElem? (i := 18) rfl))) (notFace_of_selects (args := #[]) (mvT hZ (hw _ (List.mem_of_getElem? (i := 20) rfl)))) (mvT hZ (hw _ (List.mem_of_getElem? (i := 20) rfl))) (mvT hZ (hw _ (List.mem_of_getElem? (i := 19) rfl))) (by decide) (backOf (W := 0) (rm_aw0 l Z a0 hw [] A_WORDNET h0 n0 O0 (u14.ext O0.2)) hZ (hw _ (List.mem_of_getElem? (i := 21) rfl)) (hw _ (List.mem_of_getElem? (i := 6) rfl)) (by decide) (by decide)) q47a q47c (g := (mkF me_ 40 #[.val (.int p0), .val (.int (4 : Int32)), .val (.ref A_WORDNET), .val (.int (0 : Int32)), .val (.int (0 : Int32)), .unset] [(.ref A_WORDNET)])) rfl (by rw [hml]; rfl) (Steps.refl _) (argsL := []) (rest := []) (lenOf pd_1 rfl) rfl (by show 2 * 0 + _ ≤ _; exact Nat.le_of_eq rfl) (hb hby at_40) (fun _ _ => ⟨rfl, eq45, (by decide : 0 + 0 ≤ _), (by decide : 0 + 0 ≤ _)⟩)
    dsimp only [Pt.U, Pt.locs, Pt.cells, Pt.slots] at X47 l47 y47 z47 st47 hQ47
    subst l47 y47 z47
    obtain ⟨rfl, Nq47, eq47⟩ := hQ47
    have N48 := Fr.app N46 Nq47
    refine gv (fun tQ kQ => st47.trans kQ) ?_
    show G (T47.setTop (mkF me_ 43 #[.val (.int p0), .val (.int (4 : Int32)), .val (.ref A_WORDNET), .val (.int (0 : Int32)), .val (.int (0 : Int32)), .unset] [(.int (0 : Int32))]))
    refine gv (fun tQ kQ => XS.ifNo X47.here hx rfl (hb hby at_43) rfl ((if0 _ _).trans (teq (by decide : (0 : Int32) = (0 : Int32))).2) kQ) ?_
    show G (T47.setTop (mkF me_ 46 #[.val (.int p0), .val (.int (4 : Int32)), .val (.ref A_WORDNET), .val (.int (0 : Int32)), .val (.int (0 : Int32)), .unset] []))
    refine gv (fun tQ kQ => XS.aloadN X47.here hx rfl (hb hby at_46) rfl rfl kQ) ?_
    show G (T47.setTop (mkF me_ 47 #[.val (.int p0), .val (.int (4 : Int32)), .val (.ref A_WORDNET), .val (.int (0 : Int32)), .val (.int (0 : Int32)), .unset] [(.ref A_WORDNET)]))
    obtain ⟨cq49, kq49, q49a, q49b, q49c⟩ := isOf hZ eq47 (u9.ext O0.2)
    obtain ⟨_, _, ⟨T49, L49, k49, n49⟩, -, X49, ⟨Lc49, hQ49, l49, y49, z49⟩, st49⟩ := X47.virtualBack hx (y := (⟨"com/example/mehr/mehr/Expansion", "addsEntities", "()Z"⟩ : MethodName)) (z := (⟨"com/example/mehr/mehr/Expansion", "addsEntities", "()Z"⟩ : MethodName)) hown (mvT hZ (hw _ (List.mem_of_getElem? (i := 22) rfl))) (mvT hZ (hw _ (List.mem_of_getElem? (i := 23) rfl))) (notFace_of_selects (args := #[]) (mvT hZ (hw _ (List.mem_of_getElem? (i := 25) rfl)))) (mvT hZ (hw _ (List.mem_of_getElem? (i := 25) rfl))) (mvT hZ (hw _ (List.mem_of_getElem? (i := 24) rfl))) (by decide) (backOf (W := 0) (rm_ae0 l Z a0 hw [] A_WORDNET h0 n0 O0 (u19.ext O0.2)) hZ (hw _ (List.mem_of_getElem? (i := 26) rfl)) (hw _ (List.mem_of_getElem? (i := 6) rfl)) (by decide) (by decide)) q49a q49c (g := (mkF me_ 47 #[.val (.int p0), .val (.int (4 : Int32)), .val (.ref A_WORDNET), .val (.int (0 : Int32)), .val (.int (0 : Int32)), .unset] [(.ref A_WORDNET)])) rfl (by rw [hml]; rfl) (Steps.refl _) (argsL := []) (rest := []) (lenOf pd_1 rfl) rfl (by show 2 * 0 + _ ≤ _; exact Nat.le_of_eq rfl) (hb hby at_47) (fun _ _ => ⟨rfl, eq47, (by decide : 0 + 0 ≤ _), (by decide : 0 + 0 ≤ _)⟩)
    dsimp only [Pt.U, Pt.locs, Pt.cells, Pt.slots] at X49 l49 y49 z49 st49 hQ49
    subst l49 y49 z49
    obtain ⟨rfl, Nq49, eq49⟩ := hQ49
    have N50 := Fr.app N48 Nq49
    refine gv (fun tQ kQ => st49.trans kQ) ?_
    show G (T49.setTop (mkF me_ 50 #[.val (.int p0), .val (.int (4 : Int32)), .val (.ref A_WORDNET), .val (.int (0 : Int32)), .val (.int (0 : Int32)), .unset] [(.int (0 : Int32))]))
    refine gv (fun tQ kQ => XS.ifYes X49.here hx rfl (pc0 := 50) (pc' := 57) rfl (hb hby at_50) rfl ((if0 _ _).trans (teq (by decide : (0 : Int32) = (0 : Int32))).1) (by decide) (by decide) kQ) ?_
    show G (T49.setTop (mkF me_ 57 #[.val (.int p0), .val (.int (4 : Int32)), .val (.ref A_WORDNET), .val (.int (0 : Int32)), .val (.int (0 : Int32)), .unset] []))
    refine gv (fun tQ kQ => XS.iconst X49.here hx rfl (hb hby at_57) kQ) ?_
    show G (T49.setTop (mkF me_ 58 #[.val (.int p0), .val (.int (4 : Int32)), .val (.ref A_WORDNET), .val (.int (0 : Int32)), .val (.int (0 : Int32)), .unset] [(.int (0 : Int32))]))
    refine gv (fun tQ kQ => XS.istore X49.here hx rfl (hb hby at_58) rfl (l' := #[.val (.int p0), .val (.int (4 : Int32)), .val (.ref A_WORDNET), .val (.int (0 : Int32)), .val (.int (0 : Int32)), .val (.int (0 : Int32))]) rfl kQ) ?_
    show G (T49.setTop (mkF me_ 60 #[.val (.int p0), .val (.int (4 : Int32)), .val (.ref A_WORDNET), .val (.int (0 : Int32)), .val (.int (0 : Int32)), .val (.int (0 : Int32))] []))
    refine gv (fun tQ kQ => XS.iload X49.here hx rfl (hb hby at_60) rfl kQ) ?_
    show G (T49.setTop (mkF me_ 62 #[.val (.int p0), .val (.int (4 : Int32)), .val (.ref A_WORDNET), .val (.int (0 : Int32)), .val (.int (0 : Int32)), .val (.int (0 : Int32))] [(.int (0 : Int32))]))
    refine gv (fun tQ kQ => XS.iloadN X49.here hx rfl (hb hby at_62) rfl kQ) ?_
    show G (T49.setTop (mkF me_ 63 #[.val (.int p0), .val (.int (4 : Int32)), .val (.ref A_WORDNET), .val (.int (0 : Int32)), .val (.int (0 : Int32)), .val (.int (0 : Int32))] [(.int (0 : Int32)), (.int (0 : Int32))]))
    refine gv (fun tQ kQ => XS.icmpNo X49.here hx rfl (hb hby at_63) rfl (teq (by decide : (0 : Int32) = (0 : Int32))).2 kQ) ?_
    show G (T49.setTop (mkF me_ 66 #[.val (.int p0), .val (.int (4 : Int32)), .val (.ref A_WORDNET), .val (.int (0 : Int32)), .val (.int (0 : Int32)), .val (.int (0 : Int32))] []))
    refine gv (fun tQ kQ => XS.iload X49.here hx rfl (hb hby at_66) rfl kQ) ?_
    show G (T49.setTop (mkF me_ 68 #[.val (.int p0), .val (.int (4 : Int32)), .val (.ref A_WORDNET), .val (.int (0 : Int32)), .val (.int (0 : Int32)), .val (.int (0 : Int32))] [(.int (0 : Int32))]))
    refine gv (fun tQ kQ => XS.ifYes X49.here hx rfl (pc0 := 68) (pc' := 76) rfl (hb hby at_68) rfl ((if0 _ _).trans (teq (by decide : (0 : Int32) = (0 : Int32))).1) (by decide) (by decide) kQ) ?_
    show G (T49.setTop (mkF me_ 76 #[.val (.int p0), .val (.int (4 : Int32)), .val (.ref A_WORDNET), .val (.int (0 : Int32)), .val (.int (0 : Int32)), .val (.int (0 : Int32))] []))
    refine gv (fun tQ kQ => XS.iconst X49.here hx rfl (hb hby at_76) kQ) ?_
    show G (T49.setTop (mkF me_ 77 #[.val (.int p0), .val (.int (4 : Int32)), .val (.ref A_WORDNET), .val (.int (0 : Int32)), .val (.int (0 : Int32)), .val (.int (0 : Int32))] [(.int (1 : Int32))]))
    refine gv (fun tQ kQ => XS.goto X49.here hx rfl (pc0 := 77) (pc' := 81) rfl (hb hby at_77) (by decide) (by decide) kQ) ?_
    show G (T49.setTop (mkF me_ 81 #[.val (.int p0), .val (.int (4 : Int32)), .val (.ref A_WORDNET), .val (.int (0 : Int32)), .val (.int (0 : Int32)), .val (.int (0 : Int32))] [(.int (1 : Int32))]))
    refine gf _ (own_ret X49 Bd.notSynchronized (v := some (.int (1 : Int32))) (fun h => by rw [Bd.returns] at h; cases h) ?_ (by decide) (by decide) (fun fs hr => retN X49 hx (t := .boolean) Bd.returns (by simp) (hb hby at_81) hr))
    show Q0 Z p0 A_NONE A_QA A_CODE A_QA_CODE A_WORDNET h0 n0 _ T49.heap _
    rw [eq49]
    exact ⟨rfl, N50⟩
set_option maxRecDepth 65536 in
set_option maxHeartbeats 40000000 in
theorem comes_1 {Post : Tables → Env → Array Value → State → Outcome → State → Prop} (hpost : ∀ tb e args s v u, (limb_1_1.after args s (.returned v) u = true ∧ limb_1_2.after args s (.returned v) u = true ∧ True) → FrameEnd s (.returned v) u (Jvm.fieldLocs frame_1_writes args s ++ Jvm.arrayLocs frame_1_arrays args s ++ Jvm.staticLocs frame_1_statics s) 0 0 → Post tb e args s (.returned v) u) :
    ArmFor flags0 classFile x code maxLocals ret World_1 tables_1 room_1 Calls_1 rest_1 Pre_1 Post := by
  intro l hfl _ _ p e ha hc hk s m args below hf hA hF happ hP
  obtain ⟨hcalls, hrest, hpre⟩ := hP
  obtain ⟨-, -, -, hnamed, -, -, -, hat⟩ := (Spec.applies_iff hf).mp happ
  obtain ⟨hg, hn⟩ := and_e (Cond.before_iff.mp (show (Jvm.Cond.and given_1 narrow_1).before args s = true from hpre))
  obtain ⟨g1, g2⟩ := and_e hg
  obtain ⟨g3, g4⟩ := and_e hn
  obtain ⟨g5, g6⟩ := and_e g4
  obtain ⟨g7, g8⟩ := and_e g6
  obtain ⟨g9, g10⟩ := and_e g8
  obtain ⟨g11, g12⟩ := and_e g10
  obtain ⟨g13, g14⟩ := and_e g12
  obtain ⟨g15, g16⟩ := and_e g14
  obtain ⟨g17, g18⟩ := and_e g16
  obtain ⟨g19, g20⟩ := and_e g18
  obtain ⟨g21, g22⟩ := and_e g20
  obtain ⟨g23, g24⟩ := and_e g22
  obtain ⟨g25, g26⟩ := and_e g24
  obtain ⟨g27, g28⟩ := and_e g26
  obtain ⟨g29, g30⟩ := and_e g28
  obtain ⟨w0, rfl⟩ : ∃ w0 : Value, args = #[w0] := by
    have hs : args.size = 1 := by simpa [Cond.value, given_1] using g1
    obtain ⟨L⟩ := args
    match L, hs with
    | [w0], _ => exact ⟨w0, rfl⟩
  have hw := fun d (hd : d ∈ tables_1) => atoms_spec (ws := Jvm.Cond.code x code maxLocals ret :: tables_1) hat d (List.mem_cons_of_mem _ hd)
  have hfit : Fit s := fun {y c} hc i hi => by
    obtain ⟨ha, rfl⟩ := Array.getElem?_eq_some_iff.mp hc
    have q := List.all_eq_true.mp ((Array.all_eq_true_iff_forall_mem.mp hF) _ (Array.getElem_mem ha)) i (List.mem_range.mpr hi)
    simpa [Array.getElem?_eq_getElem hi] using q
  obtain ⟨i0, ei0⟩ := is_v g2
  obtain rfl : w0 = (.int i0) := Option.some.inj ei0
  obtain ⟨A_NONE, ev_NONE, E_NONE⟩ := own_exa g3
  have S_NONE : Sta s s.heap "com/example/mehr/mehr/Expansion" "NONE" "Lcom/example/mehr/mehr/Expansion;" (.ref A_NONE) := Sta.start ev_NONE (Or.inr ⟨(hw _ (List.mem_of_getElem? (i := 6) rfl)), (hw _ (List.mem_of_getElem? (i := 7) rfl))⟩)
  obtain ⟨A_QA_CODE, ev_QA_CODE, E_QA_CODE⟩ := own_exa g9
  have S_QA_CODE : Sta s s.heap "com/example/mehr/mehr/Expansion" "QA_CODE" "Lcom/example/mehr/mehr/Expansion;" (.ref A_QA_CODE) := Sta.start ev_QA_CODE (Or.inr ⟨(hw _ (List.mem_of_getElem? (i := 6) rfl)), (hw _ (List.mem_of_getElem? (i := 28) rfl))⟩)
  obtain ⟨A_QA, ev_QA, E_QA⟩ := own_exa g13
  have S_QA : Sta s s.heap "com/example/mehr/mehr/Expansion" "QA" "Lcom/example/mehr/mehr/Expansion;" (.ref A_QA) := Sta.start ev_QA (Or.inr ⟨(hw _ (List.mem_of_getElem? (i := 6) rfl)), (hw _ (List.mem_of_getElem? (i := 30) rfl))⟩)
  obtain ⟨A_WORDNET, ev_WORDNET, E_WORDNET⟩ := own_exa g17
  have S_WORDNET : Sta s s.heap "com/example/mehr/mehr/Expansion" "WORDNET" "Lcom/example/mehr/mehr/Expansion;" (.ref A_WORDNET) := Sta.start ev_WORDNET (Or.inr ⟨(hw _ (List.mem_of_getElem? (i := 6) rfl)), (hw _ (List.mem_of_getElem? (i := 32) rfl))⟩)
  obtain ⟨A_CODE, ev_CODE, E_CODE⟩ := own_exa g23
  have S_CODE : Sta s s.heap "com/example/mehr/mehr/Expansion" "CODE" "Lcom/example/mehr/mehr/Expansion;" (.ref A_CODE) := Sta.start ev_CODE (Or.inr ⟨(hw _ (List.mem_of_getElem? (i := 6) rfl)), (hw _ (List.mem_of_getElem? (i := 34) rfl))⟩)
  have F_NONE_addsWords := own_fint ev_NONE g5
  have F_NONE_addsEntities := own_fint ev_NONE g7
  have F_QA_CODE_addsWords := own_fint ev_QA_CODE g11
  have F_QA_addsWords := own_fint ev_QA g15
  have F_WORDNET_addsWords := own_fint ev_WORDNET g19
  have F_WORDNET_addsEntities := own_fint ev_WORDNET g21
  have F_CODE_addsWords := own_fint ev_CODE g25
  have F_CODE_addsEntities := own_fint ev_CODE g27
  have F_QA_CODE_addsEntities := own_fint ev_QA_CODE g29
  have F_QA_addsEntities := own_fint ev_QA g30
  obtain ⟨n, o, h1, h2, h3, _, L, rfl, ⟨rfl, N⟩, hq⟩ := rm0 l s _ hw tables_1 i0 A_NONE A_QA A_CODE A_QA_CODE A_WORDNET s.heap s.heap.size (Old.start s) S_NONE S_QA S_CODE S_QA_CODE S_WORDNET E_NONE E_QA E_CODE E_QA_CODE E_WORDNET F_NONE_addsWords F_QA_addsWords F_CODE_addsWords F_QA_CODE_addsWords F_WORDNET_addsWords F_NONE_addsEntities F_QA_addsEntities F_CODE_addsEntities F_QA_CODE_addsEntities F_WORDNET_addsEntities p e ha hc hk s m _ below hf ((Spec.applies_iff_loose hf).mp happ).1 ⟨rfl, State.Warmed39.refl s, rfl⟩ trivial
  refine ⟨n, _, h1, h2, h3, hpost _ _ _ _ _ _ ⟨Cond.after_iff.mpr rfl, Cond.after_iff.mpr (eq_i res_at (Term.int_eval (1)) rfl), trivial⟩ ⟨hq.1, hq.2.1, (hq.2.2.sift fun y hy => Or.inr (N y hy)).mono (by decide) (by decide)⟩⟩
theorem main_1_1 : Claimed_1_1 := comes_1 fun _ _ _ _ _ _ h hF => ⟨h.1, hF⟩
theorem main_1_2 : Claimed_1_2 := comes_1 fun _ _ _ _ _ _ h hF => ⟨h.2.1, hF⟩
end Jvm.Pilot.@@N@@
namespace Jvm.Pilot.@@N@@
open Jvm Jvm.ClassFile Sem Op Lib Jvm.Free Jvm.Stand Jvm.Pilot.@@N@@.Jvm.D
/-! MADE BY PROGRAM (witnessworld.py) out of the Statement's table words and the real class files: 12 classes; the members and pool entries that the words name. The judged class is class 1, her method 2. -/
namespace start1
open Jvm.ClassFile
def u (s : String) : CpInfo := .utf8 (stringToUtf16 s)
/-- a pool by its gaps: so many unusable entries, then the entry; so many at the end -/
def gap : Nat → List CpInfo → List CpInfo
  | 0, r => r
  | n + 1, r => .unusable :: gap n r
def poolList (es : List (Nat × CpInfo)) (last : Nat) : List CpInfo := es.foldr (fun e r => gap e.1 (e.2 :: r)) (gap last [])
def pool (es : List (Nat × CpInfo)) (last : Nat) : Array CpInfo := ⟨poolList es last⟩
def fileOf (pool : Array CpInfo) (this : Nat) (attrs : Array Attribute := #[]) (ms : Array MethodInfo := #[]) (fl : Nat := 33) (sup : Nat := 0) (ifs : Array Nat := #[]) (fds : Array FieldInfo := #[]) : ClassFile where
  minorVersion := 0
  majorVersion := 65
  constantPool := pool
  accessFlags := fl
  thisClass := this
  superClass := sup
  interfaces := ifs
  fields := fds
  methods := ms
  attributes := attrs
def plain (name : String) (sup : Option ClassId) : Class where
  name := name
  kind := .ordinary
  loader := none
  accessFlags := 33
  super := sup
  interfaces := #[]
  cf := none
  fields := #[]
  methods := #[]
  instanceTypes := #[]
  staticTypes := #[]
  resolved := #[]
  callSites := []
  init := .initialized
  statics := none
  mirror := none

def pool0 : Array CpInfo := pool [(5, u "<init>"), (0, u "()V"), (1, .class_ 10), (1, u "java/lang/Object")] 113

def k0m0 : Method := { name := "<init>", desc := "()V", sig := { parameters := [], returnType := none }, accessFlags := 1, code := none }
/-- java/lang/Object -/
def k0 : Class := { plain "java/lang/Object" none with
  accessFlags := 33
  interfaces := #[]
  cf := some (fileOf pool0 8 #[] #[{ accessFlags := 1, nameIndex := 5, descriptorIndex := 6, attributes := #[] }] 33 0 #[] #[])
  fields := #[]
  methods := #[k0m0]
  instanceTypes := #[]
  staticTypes := #[]
  resolved := Array.replicate 124 none
  statics := none }

def pool1 : Array CpInfo := pool [(2, .class_ 4), (1, u "java/lang/Object"), (0, u "<init>"), (0, u "()V"), (0, .fieldref 8 9), (0, .class_ 10), (0, .nameAndType 11 12), (0, u "com/example/mehr/mehr/Expansion"), (0, u "NONE"), (0, u "Lcom/example/mehr/mehr/Expansion;"), (0, .fieldref 8 14), (0, .nameAndType 15 12), (0, u "QA"), (0, .fieldref 8 17), (0, .nameAndType 18 12), (0, u "CODE"), (0, .fieldref 8 20), (0, .nameAndType 21 12), (0, u "QA_CODE"), (0, .fieldref 8 23), (0, .nameAndType 24 12), (0, u "WORDNET"), (0, .integer 2147483647), (0, .methodref 27 28), (0, .class_ 29), (0, .nameAndType 30 31), (0, u "com/example/mehr/mehr/ExpansionTakesFeedbackPinLaw"), (0, u "pick"), (0, u "(I)Lcom/example/mehr/mehr/Expansion;"), (0, .methodref 8 33), (0, .nameAndType 34 35), (0, u "takesFeedback"), (0, u "()Z"), (0, .methodref 8 37), (0, .nameAndType 38 35), (0, u "addsWords"), (0, .methodref 8 40), (0, .nameAndType 41 35), (0, u "addsEntities"), (3, u "law"), (0, u "(I)Z")] 2

def k1m0 : Method := { name := "<init>", desc := "()V", sig := { parameters := [], returnType := none }, accessFlags := 2, code := none }
def k1c1 : Code := { maxStack := 2, maxLocals := 1, code := method_2_code, exceptionTable := #[], attributes := #[] }
def k1m1 : Method := { name := "pick", desc := "(I)Lcom/example/mehr/mehr/Expansion;", sig := { parameters := [.int], returnType := some (.object "com/example/mehr/mehr/Expansion") }, accessFlags := 10, code := some k1c1 }
def k1c2 : Code := { maxStack := 2, maxLocals := 6, code := code, exceptionTable := #[], attributes := #[] }
def k1m2 : Method := { name := "law", desc := "(I)Z", sig := { parameters := [.int], returnType := some .boolean }, accessFlags := 9, code := some k1c2 }
/-- com/example/mehr/mehr/ExpansionTakesFeedbackPinLaw -/
def k1 : Class := { plain "com/example/mehr/mehr/ExpansionTakesFeedbackPinLaw" (some 0) with
  accessFlags := 49
  interfaces := #[]
  cf := some (fileOf pool1 27 #[] #[{ accessFlags := 2, nameIndex := 5, descriptorIndex := 6, attributes := #[] }, { accessFlags := 10, nameIndex := 30, descriptorIndex := 31, attributes := #[] }, { accessFlags := 9, nameIndex := 45, descriptorIndex := 46, attributes := #[] }] 49 2 #[] #[])
  fields := #[]
  methods := #[k1m0, k1m1, k1m2]
  instanceTypes := #[]
  staticTypes := #[]
  resolved := Array.replicate 49 none
  statics := none }

def pool2 : Array CpInfo := pool [(1, .class_ 2), (0, u "java/lang/constant/Constable"), (0, .class_ 4), (0, u "java/lang/Object")] 6

/-- java/lang/constant/Constable -/
def k2 : Class := { plain "java/lang/constant/Constable" (some 0) with
  accessFlags := 1537
  interfaces := #[]
  cf := some (fileOf pool2 1 #[] #[] 1537 3 #[] #[])
  fields := #[]
  methods := #[]
  instanceTypes := #[]
  staticTypes := #[]
  resolved := Array.replicate 11 none
  statics := none }

def pool3 : Array CpInfo := pool [(1, .class_ 2), (0, u "java/lang/Comparable"), (0, .class_ 4), (0, u "java/lang/Object")] 7

/-- java/lang/Comparable -/
def k3 : Class := { plain "java/lang/Comparable" (some 0) with
  accessFlags := 1537
  interfaces := #[]
  cf := some (fileOf pool3 1 #[] #[] 1537 3 #[] #[])
  fields := #[]
  methods := #[]
  instanceTypes := #[]
  staticTypes := #[]
  resolved := Array.replicate 12 none
  statics := none }

def pool4 : Array CpInfo := pool [(1, .class_ 2), (0, u "java/io/Serializable"), (0, .class_ 4), (0, u "java/lang/Object")] 2

/-- java/io/Serializable -/
def k4 : Class := { plain "java/io/Serializable" (some 0) with
  accessFlags := 1537
  interfaces := #[]
  cf := some (fileOf pool4 1 #[] #[] 1537 3 #[] #[])
  fields := #[]
  methods := #[]
  instanceTypes := #[]
  staticTypes := #[]
  resolved := Array.replicate 7 none
  statics := none }

def pool5 : Array CpInfo := pool [(2, .class_ 4), (1, u "java/lang/Enum"), (0, u "name"), (0, u "Ljava/lang/String;"), (2, u "ordinal"), (0, u "I"), (1, .class_ 14), (1, u "java/lang/Object"), (4, u "hash"), (86, .class_ 108), (1, u "java/lang/Enum$EnumDesc"), (2, .class_ 112), (0, u "java/lang/constant/Constable"), (0, .class_ 114), (0, u "java/lang/Comparable"), (0, .class_ 116), (0, u "java/io/Serializable")] 87

/-- java/lang/Enum -/
def k5 : Class := { plain "java/lang/Enum" (some 0) with
  accessFlags := 1057
  interfaces := #[2, 3, 4]
  cf := some (fileOf pool5 2 #[.nestMembers #[106]] #[] 1057 12 #[111, 113, 115] #[{ accessFlags := 18, nameIndex := 5, descriptorIndex := 6, attributes := #[] }, { accessFlags := 18, nameIndex := 9, descriptorIndex := 10, attributes := #[] }, { accessFlags := 2, nameIndex := 19, descriptorIndex := 10, attributes := #[] }])
  fields := #[{ name := "name", type := (.object "java/lang/String"), accessFlags := 18, slot := 0, constantValue := 0 }, { name := "ordinal", type := .int, accessFlags := 18, slot := 1, constantValue := 0 }, { name := "hash", type := .int, accessFlags := 2, slot := 2, constantValue := 0 }]
  methods := #[]
  instanceTypes := #[(.object "java/lang/String"), .int, .int]
  staticTypes := #[]
  resolved := Array.replicate 204 none
  statics := none }

def pool6 : Array CpInfo := pool [(1, .class_ 2), (0, u "com/example/mehr/mehr/Expansion"), (2, u "NONE"), (0, u "Lcom/example/mehr/mehr/Expansion;"), (2, u "QA"), (2, u "CODE"), (2, u "QA_CODE"), (2, u "WORDNET"), (2, u "$VALUES"), (0, u "[Lcom/example/mehr/mehr/Expansion;"), (6, .class_ 31), (1, u "java/lang/Enum"), (8, u "commandName"), (0, u "Ljava/lang/String;"), (0, .fieldref 1 43), (0, .nameAndType 44 45), (0, u "addsWords"), (0, u "Z"), (0, .fieldref 1 47), (0, .nameAndType 48 45), (0, u "addsEntities"), (81, u "()Z"), (0, u "takesFeedback")] 44

def k6c0 : Code := { maxStack := 1, maxLocals := 1, code := prog_7_method_6_code, exceptionTable := #[], attributes := #[] }
def k6m0 : Method := { name := "addsWords", desc := "()Z", sig := { parameters := [], returnType := some .boolean }, accessFlags := 0, code := some k6c0 }
def k6c1 : Code := { maxStack := 1, maxLocals := 1, code := prog_7_method_7_code, exceptionTable := #[], attributes := #[] }
def k6m1 : Method := { name := "addsEntities", desc := "()Z", sig := { parameters := [], returnType := some .boolean }, accessFlags := 0, code := some k6c1 }
def k6c2 : Code := { maxStack := 1, maxLocals := 1, code := prog_7_method_8_code, exceptionTable := #[], attributes := #[] }
def k6m2 : Method := { name := "takesFeedback", desc := "()Z", sig := { parameters := [], returnType := some .boolean }, accessFlags := 0, code := some k6c2 }
/-- com/example/mehr/mehr/Expansion -/
def k6 : Class := { plain "com/example/mehr/mehr/Expansion" (some 5) with
  accessFlags := 16432
  interfaces := #[]
  cf := some (fileOf pool6 1 #[] #[{ accessFlags := 0, nameIndex := 44, descriptorIndex := 130, attributes := #[] }, { accessFlags := 0, nameIndex := 48, descriptorIndex := 130, attributes := #[] }, { accessFlags := 0, nameIndex := 131, descriptorIndex := 130, attributes := #[] }] 16432 29 #[] #[{ accessFlags := 16409, nameIndex := 5, descriptorIndex := 6, attributes := #[] }, { accessFlags := 16409, nameIndex := 9, descriptorIndex := 6, attributes := #[] }, { accessFlags := 16409, nameIndex := 12, descriptorIndex := 6, attributes := #[] }, { accessFlags := 16409, nameIndex := 15, descriptorIndex := 6, attributes := #[] }, { accessFlags := 16409, nameIndex := 18, descriptorIndex := 6, attributes := #[] }, { accessFlags := 18, nameIndex := 40, descriptorIndex := 41, attributes := #[] }, { accessFlags := 18, nameIndex := 44, descriptorIndex := 45, attributes := #[] }, { accessFlags := 18, nameIndex := 48, descriptorIndex := 45, attributes := #[] }, { accessFlags := 4122, nameIndex := 21, descriptorIndex := 22, attributes := #[] }])
  fields := #[{ name := "NONE", type := (.object "com/example/mehr/mehr/Expansion"), accessFlags := 16409, slot := 0, constantValue := 0 }, { name := "QA", type := (.object "com/example/mehr/mehr/Expansion"), accessFlags := 16409, slot := 1, constantValue := 0 }, { name := "CODE", type := (.object "com/example/mehr/mehr/Expansion"), accessFlags := 16409, slot := 2, constantValue := 0 }, { name := "QA_CODE", type := (.object "com/example/mehr/mehr/Expansion"), accessFlags := 16409, slot := 3, constantValue := 0 }, { name := "WORDNET", type := (.object "com/example/mehr/mehr/Expansion"), accessFlags := 16409, slot := 4, constantValue := 0 }, { name := "commandName", type := (.object "java/lang/String"), accessFlags := 18, slot := 3, constantValue := 0 }, { name := "addsWords", type := .boolean, accessFlags := 18, slot := 4, constantValue := 0 }, { name := "addsEntities", type := .boolean, accessFlags := 18, slot := 5, constantValue := 0 }, { name := "$VALUES", type := (.array (.object "com/example/mehr/mehr/Expansion")), accessFlags := 4122, slot := 5, constantValue := 0 }]
  methods := #[k6m0, k6m1, k6m2]
  instanceTypes := #[(.object "java/lang/String"), .int, .int, (.object "java/lang/String"), .boolean, .boolean]
  staticTypes := #[(.object "com/example/mehr/mehr/Expansion"), (.object "com/example/mehr/mehr/Expansion"), (.object "com/example/mehr/mehr/Expansion"), (.object "com/example/mehr/mehr/Expansion"), (.object "com/example/mehr/mehr/Expansion"), (.array (.object "com/example/mehr/mehr/Expansion"))]
  resolved := Array.replicate 176 none
  statics := some 0 }

def pool7 : Array CpInfo := pool [(1, u "java/lang/Cloneable"), (0, .class_ 1), (0, u "java/lang/Object"), (0, .class_ 3)] 3

/-- java/lang/Cloneable -/
def k7 : Class := { plain "java/lang/Cloneable" (some 0) with
  accessFlags := 1537
  interfaces := #[]
  cf := some (fileOf pool7 2 #[] #[] 1537 4 #[] #[])
  fields := #[]
  methods := #[]
  instanceTypes := #[]
  staticTypes := #[]
  resolved := Array.replicate 8 none
  statics := none }

/-- the primitive byte -/
def k8 : Class := { plain "byte" none with kind := .primitive 'B', accessFlags := 0x411 }
/-- [B -/
def k9 : Class := { plain "[B" (some 0) with kind := .array 8 .byte, interfaces := #[7, 4], accessFlags := 1041 }

/-- the primitive int -/
def k10 : Class := { plain "int" none with kind := .primitive 'I', accessFlags := 0x411 }
/-- [I -/
def k11 : Class := { plain "[I" (some 0) with kind := .array 10 .int, interfaces := #[7, 4], accessFlags := 1041 }

def heap : Heap := #[{ cls := 6, slots := #[.ref 1, .ref 2, .ref 3, .ref 4, .ref 5, .null], vm := .statics 6 },
  { cls := 6, slots := #[.null, .int 0, .int 0, .null, .int 0, .int 0], vm := .none },
  { cls := 6, slots := #[.null, .int 1, .int 0, .null, .int 1, .int 0], vm := .none },
  { cls := 6, slots := #[.null, .int 2, .int 0, .null, .int 0, .int 1], vm := .none },
  { cls := 6, slots := #[.null, .int 3, .int 0, .null, .int 1, .int 1], vm := .none },
  { cls := 6, slots := #[.null, .int 4, .int 0, .null, .int 0, .int 0], vm := .none }]
def classes : Array Class := #[k0, k1, k2, k3, k4, k5, k6, k7, k8, k9, k10, k11]
def interned : List (Array UInt16 × Addr) := []
def slotsUsed : Nat := 36
def theMethod : MethodId := ⟨1, 2⟩
def args0 : Array Value := #[.int 5]
def aboutOver (below : List Frame) : State where
  vm := { classes := classes, interned := interned.toArray }
  heap := heap
  slotsUsed := slotsUsed
  threads := #[{ frames := .invoking theMethod args0 :: below }]
def below0 : List Frame := [.native { method := ⟨0, 0⟩, args := #[] }]
def about1 : State := aboutOver below0
def p0 : Program := .bare "" "" ""
def e0 : Env := launch0.env 0 0 0
theorem w_frames : about1.frames = Frame.invoking theMethod args0 :: below0 := rfl
set_option maxRecDepth 65536 in
theorem w_args : argsFit about1.vm theMethod args0 = true := by decide +kernel
set_option maxRecDepth 65536 in
theorem w_heap : heapFits about1 = true := by decide +kernel
set_option maxRecDepth 65536 in
theorem w_runnable : about1.curStatus? = some .runnable := by decide +kernel
set_option maxRecDepth 65536 in
theorem w_alone : about1.alone = true := by decide +kernel
set_option maxRecDepth 65536 in
theorem w_named : about1.methodNamed? x = some theMethod := by decide +kernel
set_option maxRecDepth 65536 in
theorem w_hears : about1.hears theMethod below0 = true := by decide +kernel
set_option maxRecDepth 65536 in
theorem w_ripe : about1.ripe theMethod args0 below0 = true := by decide +kernel
theorem w_running : about1.status = .running := rfl
set_option maxRecDepth 65536 in
theorem w_room : about1.hasRoom e0.platform room_1 = true :=
  launch0.hasRoom_least _ room_1 (by decide +kernel) (by decide +kernel) (by decide +kernel) (by decide +kernel) (by decide +kernel) (by decide +kernel)
theorem allAtoms_all (ts : List Jvm.Cond) (a : Array Jvm.Value) (st : Jvm.State) : (allAtoms ts).before a st = ts.all (fun c => c.before a st) := by
  induction ts with
  | nil => rfl
  | cons c t ih =>
    show (Jvm.Cond.and c (allAtoms t)).before a st = _
    rw [Jvm.Cond.before_and, ih, List.all_cons]
def words1 : List Jvm.Cond := Jvm.Cond.code x code maxLocals ret :: tables_1
/-- a 'code' word, met by the world's own term for the bytes: nothing is compared byte by byte -/
theorem code_word {y : MethodName} {bytes : ByteArray} {mx : Nat} {rt : Option FieldType} {a : Array Value} {s : State} {m : MethodId} {meth : Method} {c : Code} (h1 : s.methodNamed? y = some m) (h2 : s.vm.method? m = some meth) (h3 : meth.code = some c) (h4 : c.code = bytes)
    (h5 : (c.maxLocals == mx && c.exceptionTable.isEmpty && decide (c.maxStack ≤ mostOperands) && decide (meth.sig.returnType = rt) && !meth.locks && decide (parseMethodDescriptor y.desc = some meth.sig)) = true) : (Jvm.Cond.code y bytes mx rt).before a s = true := by
  simp only [Bool.and_eq_true, beq_iff_eq, Bool.not_eq_true', decide_eq_true_eq] at h5
  obtain ⟨⟨⟨⟨⟨g1, g2⟩, g3⟩, g4⟩, g5⟩, g6⟩ := h5
  simp [Cond.before, Cond.holds, Cond.value, h1, h2, h3, h4, g1, g2, g3, g4, g5, g6]
def isCode : Jvm.Cond → Bool
  | .code _ _ _ _ => true
  | _ => false
theorem all_split {L : List Jvm.Cond} {P : Jvm.Cond → Bool} (h1 : L.all (fun c => isCode c || P c) = true) (h2 : ∀ c ∈ L.filter isCode, P c = true) : L.all P = true := by
  refine List.all_eq_true.mpr fun c hc => ?_
  have h := List.all_eq_true.mp h1 c hc
  rcases Bool.eq_false_or_eq_true (isCode c) with hi | hi
  · exact h2 c (List.mem_filter.mpr ⟨hc, hi⟩)
  · simpa [hi] using h
set_option maxRecDepth 65536 in
theorem w_c0 : (Jvm.Cond.code x code maxLocals ret).before args0 about1 = true := code_word (m := ⟨1, 2⟩) (meth := k1m2) (c := k1c2) (by decide +kernel) rfl rfl rfl (by decide +kernel)
set_option maxRecDepth 65536 in
theorem w_c1 : (Jvm.Cond.code ({ cls := "com/example/mehr/mehr/ExpansionTakesFeedbackPinLaw", name := "pick", desc := "(I)Lcom/example/mehr/mehr/Expansion;" } : Jvm.MethodName) method_2_code (1 : Nat) (Option.some (Jvm.ClassFile.FieldType.object "com/example/mehr/mehr/Expansion"))).before args0 about1 = true := code_word (m := ⟨1, 1⟩) (meth := k1m1) (c := k1c1) (by decide +kernel) rfl rfl rfl (by decide +kernel)
set_option maxRecDepth 65536 in
theorem w_c2 : (Jvm.Cond.code ({ cls := "com/example/mehr/mehr/Expansion", name := "takesFeedback", desc := "()Z" } : Jvm.MethodName) prog_7_method_8_code (1 : Nat) (Option.some Jvm.ClassFile.FieldType.boolean)).before args0 about1 = true := code_word (m := ⟨6, 2⟩) (meth := k6m2) (c := k6c2) (by decide +kernel) rfl rfl rfl (by decide +kernel)
set_option maxRecDepth 65536 in
theorem w_c3 : (Jvm.Cond.code ({ cls := "com/example/mehr/mehr/Expansion", name := "addsWords", desc := "()Z" } : Jvm.MethodName) prog_7_method_6_code (1 : Nat) (Option.some Jvm.ClassFile.FieldType.boolean)).before args0 about1 = true := code_word (m := ⟨6, 0⟩) (meth := k6m0) (c := k6c0) (by decide +kernel) rfl rfl rfl (by decide +kernel)
set_option maxRecDepth 65536 in
theorem w_c4 : (Jvm.Cond.code ({ cls := "com/example/mehr/mehr/Expansion", name := "addsEntities", desc := "()Z" } : Jvm.MethodName) prog_7_method_7_code (1 : Nat) (Option.some Jvm.ClassFile.FieldType.boolean)).before args0 about1 = true := code_word (m := ⟨6, 1⟩) (meth := k6m1) (c := k6c1) (by decide +kernel) rfl rfl rfl (by decide +kernel)
def codes1 : List Jvm.Cond := [Jvm.Cond.code x code maxLocals ret, Jvm.Cond.code ({ cls := "com/example/mehr/mehr/ExpansionTakesFeedbackPinLaw", name := "pick", desc := "(I)Lcom/example/mehr/mehr/Expansion;" } : Jvm.MethodName) method_2_code (1 : Nat) (Option.some (Jvm.ClassFile.FieldType.object "com/example/mehr/mehr/Expansion")), Jvm.Cond.code ({ cls := "com/example/mehr/mehr/Expansion", name := "takesFeedback", desc := "()Z" } : Jvm.MethodName) prog_7_method_8_code (1 : Nat) (Option.some Jvm.ClassFile.FieldType.boolean), Jvm.Cond.code ({ cls := "com/example/mehr/mehr/Expansion", name := "addsWords", desc := "()Z" } : Jvm.MethodName) prog_7_method_6_code (1 : Nat) (Option.some Jvm.ClassFile.FieldType.boolean), Jvm.Cond.code ({ cls := "com/example/mehr/mehr/Expansion", name := "addsEntities", desc := "()Z" } : Jvm.MethodName) prog_7_method_7_code (1 : Nat) (Option.some Jvm.ClassFile.FieldType.boolean)]
set_option maxRecDepth 65536 in
theorem codes_eq : words1.filter isCode = codes1 := rfl
theorem w_codes : ∀ c ∈ words1.filter isCode, c.before args0 about1 = true := by
  rw [codes_eq]
  intro c hc
  simp only [codes1, List.mem_cons, List.not_mem_nil, or_false] at hc
  rcases hc with rfl | rfl | rfl | rfl | rfl
  · exact w_c0
  · exact w_c1
  · exact w_c2
  · exact w_c3
  · exact w_c4
set_option maxRecDepth 65536 in
theorem w_t1 : (words1.take 24).all (fun c => isCode c || c.before args0 about1) = true := by decide +kernel
set_option maxRecDepth 65536 in
theorem w_t2 : (words1.drop 24).all (fun c => isCode c || c.before args0 about1) = true := by decide +kernel
theorem w_tables : (allAtoms (Jvm.Cond.code x code maxLocals ret :: tables_1)).before args0 about1 = true := by
  rw [allAtoms_all]
  show words1.all (fun c => c.before args0 about1) = true
  refine all_split ?_ w_codes
  rw [← List.take_append_drop 24 words1, List.all_append, w_t1, w_t2]
  rfl
set_option maxRecDepth 65536 in
theorem w_case : (Jvm.Cond.and given_1 narrow_1).before args0 about1 = true := by decide +kernel
theorem w_applies : (headSpec (Jvm.Cond.code x code maxLocals ret :: tables_1) room_1).applies x e0.platform about1 = true :=
  (Spec.applies_iff w_frames).mpr ⟨w_running, w_runnable, w_alone, w_named, w_hears, w_ripe, w_room, w_tables⟩
theorem atStart : AtStart classFile x code maxLocals ret World_1 tables_1 room_1 Calls_1 rest_1 Pre_1 launch0 p0 e0 about1 theMethod args0 below0 :=
  ⟨lists_1, trivial, launch0.admits_env _ _ _, launch0.least_env, fairChoices_fair.cas, fairChoices_fair.clock, w_frames, w_args, w_heap, w_applies, trivial, trivial, w_case⟩
end start1
theorem witness_1 : WitnessClaimed_1 := ⟨start1.p0, start1.e0, start1.about1, start1.theMethod, start1.args0, start1.below0, start1.atStart⟩
end Jvm.Pilot.@@N@@
