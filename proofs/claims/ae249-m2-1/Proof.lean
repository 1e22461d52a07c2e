import JvmDerived
import JvmDerived.Pilot.@@N@@Statement
import JvmDerived.Pilot.@@N@@Code
set_option linter.unusedVariables false
set_option linter.unusedSimpArgs false
namespace Jvm.Pilot.@@N@@
open Jvm Jvm.ClassFile Sem Op Lib Jvm.Free Jvm.Stand Jvm.LawKit Jvm.RoadKit Bundle Jvm.Pilot.@@N@@.Jvm.D
/-- from the state A the body comes to its end as Q says -/
def own_Fin (tb : Tables) (e : Env) (below : List Frame) (s : State) (Q : Option Value → Heap → List Loc → Prop) (kc ks : Nat) (A : State) : Prop :=
  ∃ s₂ o, Steps tb e below A s₂ ∧ s₂.status = .running ∧ Ended s₂ below o ∧ ∃ v L, o = .returned v ∧ Q v s₂.heap L ∧ FrameEnd s o s₂ L kc ks
theorem own_G (tb : Tables) (e : Env) (below : List Frame) (s : State) (Q : Option Value → Heap → List Loc → Prop) (kc ks : Nat) :
    ∃ G : State → Prop, (∀ {A B : State}, (∀ t, Steps tb e below B t → Steps tb e below A t) → G B → G A) ∧ (∀ A, own_Fin tb e below s Q kc ks A → G A) ∧ (∀ A, G A → own_Fin tb e below s Q kc ks A) :=
  ⟨own_Fin tb e below s Q kc ks, fun h k => by obtain ⟨s₂, o, h1, r⟩ := k; exact ⟨s₂, o, h _ h1, r⟩, fun _ h => h, fun _ h => h⟩
theorem own_ret {p : Program} {l : Launch} {e : Env} {R : Room} {s : State} {m : MethodId} {args : Array Value} {below : List Frame} {meth : Method} {c : Code} {T : State} {locs : List Loc} {cells slots : Nat} {Q : Option Value → Heap → List Loc → Prop} {kc ks : Nat} {A : State} {v : Option Value}
    (X : Stand p l e R s m args below meth c T locs cells slots) (hlk : meth.locks = false) (hv : meth.sig.returnType = none → v = none) (hQ : Q v T.heap locs) (hc : cells ≤ kc) (hs : slots ≤ ks)
    (st : ∀ fs, (∀ (f : JFrame) (acts : List Action), f.method = m → f.locked = none → f.entered = [] → (doReturn e (T.setTop f) acts v).1 = T.setFrames fs) → Steps p.tables e below A (T.setFrames fs)) : own_Fin p.tables e below s Q kc ks A := by
  obtain ⟨fs, hr, hrun, hended, hW, hsame⟩ := X.leave hv hlk
  exact ⟨_, _, st fs hr, hrun, hended, _, _, rfl, hQ, ⟨_, rfl⟩, hW, hsame.mono hc hs⟩
theorem own_old {Z : State} {n0 : Nat} {h : Heap} (O : Old Z n0 h) : n0 ≤ h.size := O.1 ▸ O.2.1
theorem own_cat {v : Value} (h : v.isRef = true) : v.category = 1 := by rcases ref_cases h with rfl | ⟨a, rfl⟩ <;> rfl
theorem own_mvM {Z s : State} {a0 args : Array Value} {own host : String} {index : Nat} {y : MethodName} (hZ : Z.Warmed39 s.vm) (w : (Jvm.Cond.methodLinkNest own index y host).before a0 Z = true) : (Jvm.Cond.methodLinkNest own index y host).before args s = true := (Cond.methodLinkNest_wide hZ w :)
theorem own_ne_arv {Z : State} {h : Heap} {a b : Addr} {C : String} {a0 : Array Value} {n : Nat} {k : ClassId} {ty : FieldType} {z : Int32} {vs : List Value} {d : Value} (E : Exa Z h a C) (wi : (Jvm.Cond.instantiable C n).before a0 Z = true) (A : Arv Z h b k ty z vs d) : a ≠ b := by
  obtain ⟨c, A, -⟩ := A
  exact ne_arr E wi A
theorem own_narB (x : Int32) : nar .byte x.toInt8.toInt32 = x.toInt8.toInt32 := by
  refine Int32.toInt_inj.mp ?_
  have h1 := c_i2b x
  have h2 := c_i2b x.toInt8.toInt32
  show (x.toInt8.toInt32.toInt8.toInt32).toInt = _
  omega
theorem own_narC (x : Int32) : nar .char x.toUInt32.toUInt16.toUInt32.toInt32 = x.toUInt32.toUInt16.toUInt32.toInt32 := by
  refine Int32.toInt_inj.mp ?_
  have h1 := c_i2c x
  have h2 := c_i2c x.toUInt32.toUInt16.toUInt32.toInt32
  show (x.toUInt32.toUInt16.toUInt32.toInt32.toUInt32.toUInt16.toUInt32.toInt32).toInt = _
  omega
theorem own_exa {s : State} {args : Array Value} {t : Term} {K : String} (h : (Jvm.Cond.exactly t K).value args s none s [] = some true) : ∃ a, t.eval args s none [] s = some (.ref a) ∧ Exa s s.heap a K := by
  obtain ⟨a, c', cell, k, e1, e2, e3, e4, e5, e6, e7⟩ := Cond.exactly_spec (Cond.before_iff.mpr h)
  exact ⟨a, e1, Exa.start e1 h⟩
theorem own_fint {s : State} {args : Array Value} {t : Term} {C n d : String} {a : Addr} {k : Int32} (ht : t.eval args s none [] s = some (.ref a)) (h : (Jvm.Cond.eq (.field t C n d) (.int k)).value args s none s [] = some true) : Fld s s.heap a C n d (.int k) := by
  refine Fld.start ?_
  rw [← fld_at ht]
  have hk : (Term.int k).eval args s none [] s = some (.int k) := rfl
  cases q : (Term.field t C n d).eval args s none [] s with
  | none => simp [Cond.value, q] at h
  | some v => cases v <;> simp [Cond.value, q, hk] at h; rw [h]
theorem own_flong {s : State} {args : Array Value} {t : Term} {C n d : String} {a : Addr} {k : Int64} (ht : t.eval args s none [] s = some (.ref a)) (h : (Jvm.Cond.eq (.field t C n d) (.long k)).value args s none s [] = some true) : Fld s s.heap a C n d (.long k) := by
  refine Fld.start ?_
  rw [← fld_at ht]
  have hk : (Term.long k).eval args s none [] s = some (.long k) := rfl
  cases q : (Term.field t C n d).eval args s none [] s with
  | none => simp [Cond.value, q] at h
  | some v => cases v <;> simp [Cond.value, q, hk] at h; rw [h]
theorem own_and3 (a : Int32) : a &&& (3 : Int32) = 0 ∨ a &&& (3 : Int32) = 1 ∨ a &&& (3 : Int32) = 2 ∨ a &&& (3 : Int32) = 3 := by
  have h := c_mask a 3 2 (by decide) (by decide)
  have h1 : (a &&& 3).toInt = 0 ∨ (a &&& 3).toInt = 1 ∨ (a &&& 3).toInt = 2 ∨ (a &&& 3).toInt = 3 := by omega
  rcases h1 with q | q | q | q
  · exact Or.inl (Int32.toInt_inj.mp (by rw [q]; rfl))
  · exact Or.inr (Or.inl (Int32.toInt_inj.mp (by rw [q]; rfl)))
  · exact Or.inr (Or.inr (Or.inl (Int32.toInt_inj.mp (by rw [q]; rfl))))
  · exact Or.inr (Or.inr (Or.inr (Int32.toInt_inj.mp (by rw [q]; rfl))))
theorem ef_0 (m : MethodId) (x0 : Int32)  : entryFrame m #[(.int x0)] 1 = mkF m 0 #[.val (.int x0)] [] := by first | (simp [entryFrame, mkF, argsToLocals, Value.category]; done) | rfl
theorem pn_0 : plainName "scorewise/TrendReversedPinLaw" = true := by first | (simp [plainName, overriddenIn]; done) | decide +kernel
theorem d1_0 : decode method_2_code 0 = .ok (.iload_n 0, 1) := by decide +kernel
theorem d1_1 : decode method_2_code 1 = .ok (.ifCond .ne 7, 3) := by decide +kernel
theorem d1_4 : decode method_2_code 4 = .ok (.getstatic 7, 3) := by decide +kernel
theorem d1_7 : decode method_2_code 7 = .ok (.areturn, 1) := by decide +kernel
def Q_pick0 (Z : State) (A_UNREAD : Addr) (h0 : Heap) (n0 : Nat) (v : Option Value) (h : Heap) (L : List Loc) : Prop := v = some (.ref A_UNREAD) ∧ Fr n0 L ∧ h = h0
set_option maxRecDepth 65536 in
set_option maxHeartbeats 40000000 in
theorem rm_pick0 (l : Launch) (Z : State) (a0 : Array Value) (hw : ∀ d ∈ tables_1, d.before a0 Z = true) (ws : List Jvm.Cond) (A_UNREAD : Addr) (h0 : Heap) (n0 : Nat) (O0 : Old Z n0 h0) (u0 : Sta Z Z.heap "scorewise/Bounds$Trend" "UNREAD" "Lscorewise/Bounds$Trend;" (.ref A_UNREAD)) :
    MetFree l (⟨"scorewise/TrendReversedPinLaw", "pick", "(I)Lscorewise/Bounds$Trend;"⟩ : MethodName) (head1 (Jvm.Cond.code (⟨"scorewise/TrendReversedPinLaw", "pick", "(I)Lscorewise/Bounds$Trend;"⟩ : MethodName) method_2_code 1 (some (.object "scorewise/Bounds$Trend")) :: ws) ({ frames := 0, cells := 0, slots := 0, locals := 0 } : Room)) (fun aV U => aV = #[(.int (0 : Int32))] ∧ Z.Warmed39 U.vm ∧ U.heap = h0) (fun _ _ _ _ _ => True) (fun _ U o U' => ∃ v L, o = .returned v ∧ Q_pick0 Z A_UNREAD h0 n0 v U'.heap L ∧ FrameEnd U o U' L ({ frames := 0, cells := 0, slots := 0, locals := 0 } : Room).cells ({ frames := 0, cells := 0, slots := 0, locals := 0 } : Room).slots) := by
  refine MetFree.of_bodySF (plainFor_of_name pn_0) hisR ?_
  intro p e s m args below meth c s₁ Bd hml0 hP hK
  obtain ⟨rfl, hZ, hh⟩ := hP
  have hx := Bd.exec
  have hby := Bd.bytes
  have hml : c.maxLocals = 1 := hml0
  have hown : s.vm.findClass "scorewise/TrendReversedPinLaw" = some m.cls := findClass_of_methodNamed Bd.named
  have hnm := (name_of_methodNamed Bd.named Bd.method).1
  have X0 : Stand p l e ({ frames := 0, cells := 0, slots := 0, locals := 0 } : Room) s m #[(.int (0 : Int32))] below meth c s₁ [] 0 0 := Stand.of_body Bd
  have e0 : s₁.heap = h0 := by rw [← hh, Bd.state]; rfl
  have N0 := Fr.nil n0
  have K0 := Keep.refl h0 []
  obtain ⟨G, gv, gf, gb⟩ := own_G p.tables e below s (Q_pick0 Z A_UNREAD h0 n0) ({ frames := 0, cells := 0, slots := 0, locals := 0 } : Room).cells ({ frames := 0, cells := 0, slots := 0, locals := 0 } : Room).slots
  show own_Fin p.tables e below s (Q_pick0 Z A_UNREAD h0 n0) ({ frames := 0, cells := 0, slots := 0, locals := 0 } : Room).cells ({ frames := 0, cells := 0, slots := 0, locals := 0 } : Room).slots (s₁.setTop (entryFrame m #[(.int (0 : Int32))] 1))
  refine gb _ (gv (fun t k => castTop (ef_0 m (0 : Int32)) k) ?_)
  show G (s₁.setTop (mkF m 0 #[.val (.int (0 : Int32))] []))
  refine gv (fun t k => XS.iloadN X0.here hx rfl (hb hby d1_0) rfl k) ?_
  show G (s₁.setTop (mkF m 1 #[.val (.int (0 : Int32))] [(.int (0 : Int32))]))
  refine gv (fun t k => XS.ifNo X0.here hx rfl (hb hby d1_1) rfl ((if0 _ _).trans (teq (by decide : (0 : Int32) = (0 : Int32))).2) k) ?_
  show G (s₁.setTop (mkF m 4 #[.val (.int (0 : Int32))] []))
  obtain ⟨T1, X1, e1, st1⟩ := getS2 X0 hx hZ hown (host := "") (Or.inl (hw _ (List.mem_of_getElem? (i := 4) rfl))) Via.refl e0 (u0.ext O0.2) (g := (mkF m 4 #[.val (.int (0 : Int32))] [])) rfl (hb hby d1_4)
  refine gv st1 ?_
  show G (T1.setTop (mkF m 7 #[.val (.int (0 : Int32))] [(.ref A_UNREAD)]))
  refine gf _ (own_ret X1 Bd.notSynchronized (v := some (.ref A_UNREAD)) (fun h => by rw [Bd.returns] at h; cases h) ?_ (by decide) (by decide) (fun fs hr => retOut X1 hx (t := (.object "scorewise/Bounds$Trend")) Bd.returns rfl (Or.inr (Or.inr (Or.inr (Or.inr ⟨rfl, rfl, rfl⟩)))) (hb hby d1_7) hr))
  show Q_pick0 Z A_UNREAD h0 n0 _ T1.heap _
  rw [e1]
  exact ⟨rfl, N0, rfl⟩
theorem d1_8 : decode method_2_code 8 = .ok (.iload_n 0, 1) := by decide +kernel
theorem d1_9 : decode method_2_code 9 = .ok (.iconst 1, 1) := by decide +kernel
theorem d1_10 : decode method_2_code 10 = .ok (.if_icmp .ne 7, 3) := by decide +kernel
theorem d1_13 : decode method_2_code 13 = .ok (.getstatic 13, 3) := by decide +kernel
theorem d1_16 : decode method_2_code 16 = .ok (.areturn, 1) := by decide +kernel
def Q_pick1 (Z : State) (A_RISING : Addr) (h0 : Heap) (n0 : Nat) (v : Option Value) (h : Heap) (L : List Loc) : Prop := v = some (.ref A_RISING) ∧ Fr n0 L ∧ h = h0
set_option maxRecDepth 65536 in
set_option maxHeartbeats 40000000 in
theorem rm_pick1 (l : Launch) (Z : State) (a0 : Array Value) (hw : ∀ d ∈ tables_1, d.before a0 Z = true) (ws : List Jvm.Cond) (A_RISING : Addr) (h0 : Heap) (n0 : Nat) (O0 : Old Z n0 h0) (u0 : Sta Z Z.heap "scorewise/Bounds$Trend" "RISING" "Lscorewise/Bounds$Trend;" (.ref A_RISING)) :
    MetFree l (⟨"scorewise/TrendReversedPinLaw", "pick", "(I)Lscorewise/Bounds$Trend;"⟩ : MethodName) (head1 (Jvm.Cond.code (⟨"scorewise/TrendReversedPinLaw", "pick", "(I)Lscorewise/Bounds$Trend;"⟩ : MethodName) method_2_code 1 (some (.object "scorewise/Bounds$Trend")) :: ws) ({ frames := 0, cells := 0, slots := 0, locals := 0 } : Room)) (fun aV U => aV = #[(.int (1 : Int32))] ∧ Z.Warmed39 U.vm ∧ U.heap = h0) (fun _ _ _ _ _ => True) (fun _ U o U' => ∃ v L, o = .returned v ∧ Q_pick1 Z A_RISING h0 n0 v U'.heap L ∧ FrameEnd U o U' L ({ frames := 0, cells := 0, slots := 0, locals := 0 } : Room).cells ({ frames := 0, cells := 0, slots := 0, locals := 0 } : Room).slots) := by
  refine MetFree.of_bodySF (plainFor_of_name pn_0) hisR ?_
  intro p e s m args below meth c s₁ Bd hml0 hP hK
  obtain ⟨rfl, hZ, hh⟩ := hP
  have hx := Bd.exec
  have hby := Bd.bytes
  have hml : c.maxLocals = 1 := hml0
  have hown : s.vm.findClass "scorewise/TrendReversedPinLaw" = some m.cls := findClass_of_methodNamed Bd.named
  have hnm := (name_of_methodNamed Bd.named Bd.method).1
  have X0 : Stand p l e ({ frames := 0, cells := 0, slots := 0, locals := 0 } : Room) s m #[(.int (1 : Int32))] below meth c s₁ [] 0 0 := Stand.of_body Bd
  have e0 : s₁.heap = h0 := by rw [← hh, Bd.state]; rfl
  have N0 := Fr.nil n0
  have K0 := Keep.refl h0 []
  obtain ⟨G, gv, gf, gb⟩ := own_G p.tables e below s (Q_pick1 Z A_RISING h0 n0) ({ frames := 0, cells := 0, slots := 0, locals := 0 } : Room).cells ({ frames := 0, cells := 0, slots := 0, locals := 0 } : Room).slots
  show own_Fin p.tables e below s (Q_pick1 Z A_RISING h0 n0) ({ frames := 0, cells := 0, slots := 0, locals := 0 } : Room).cells ({ frames := 0, cells := 0, slots := 0, locals := 0 } : Room).slots (s₁.setTop (entryFrame m #[(.int (1 : Int32))] 1))
  refine gb _ (gv (fun t k => castTop (ef_0 m (1 : Int32)) k) ?_)
  show G (s₁.setTop (mkF m 0 #[.val (.int (1 : Int32))] []))
  refine gv (fun t k => XS.iloadN X0.here hx rfl (hb hby d1_0) rfl k) ?_
  show G (s₁.setTop (mkF m 1 #[.val (.int (1 : Int32))] [(.int (1 : Int32))]))
  refine gv (fun t k => XS.ifYes X0.here hx rfl (pc0 := 1) (pc' := 8) rfl (hb hby d1_1) rfl ((if0 _ _).trans (feq (by decide : ¬ ((1 : Int32) = (0 : Int32)))).2) (by decide) (by decide) k) ?_
  show G (s₁.setTop (mkF m 8 #[.val (.int (1 : Int32))] []))
  refine gv (fun t k => XS.iloadN X0.here hx rfl (hb hby d1_8) rfl k) ?_
  show G (s₁.setTop (mkF m 9 #[.val (.int (1 : Int32))] [(.int (1 : Int32))]))
  refine gv (fun t k => XS.iconst X0.here hx rfl (hb hby d1_9) k) ?_
  show G (s₁.setTop (mkF m 10 #[.val (.int (1 : Int32))] [(.int (1 : Int32)), (.int (1 : Int32))]))
  refine gv (fun t k => XS.icmpNo X0.here hx rfl (hb hby d1_10) rfl (teq (by decide : (1 : Int32) = (1 : Int32))).2 k) ?_
  show G (s₁.setTop (mkF m 13 #[.val (.int (1 : Int32))] []))
  obtain ⟨T2, X2, e2, st2⟩ := getS2 X0 hx hZ hown (host := "") (Or.inl (hw _ (List.mem_of_getElem? (i := 19) rfl))) Via.refl e0 (u0.ext O0.2) (g := (mkF m 13 #[.val (.int (1 : Int32))] [])) rfl (hb hby d1_13)
  refine gv st2 ?_
  show G (T2.setTop (mkF m 16 #[.val (.int (1 : Int32))] [(.ref A_RISING)]))
  refine gf _ (own_ret X2 Bd.notSynchronized (v := some (.ref A_RISING)) (fun h => by rw [Bd.returns] at h; cases h) ?_ (by decide) (by decide) (fun fs hr => retOut X2 hx (t := (.object "scorewise/Bounds$Trend")) Bd.returns rfl (Or.inr (Or.inr (Or.inr (Or.inr ⟨rfl, rfl, rfl⟩)))) (hb hby d1_16) hr))
  show Q_pick1 Z A_RISING h0 n0 _ T2.heap _
  rw [e2]
  exact ⟨rfl, N0, rfl⟩
theorem d1_17 : decode method_2_code 17 = .ok (.iload_n 0, 1) := by decide +kernel
theorem d1_18 : decode method_2_code 18 = .ok (.iconst 2, 1) := by decide +kernel
theorem d1_19 : decode method_2_code 19 = .ok (.if_icmp .ne 7, 3) := by decide +kernel
theorem d1_22 : decode method_2_code 22 = .ok (.getstatic 16, 3) := by decide +kernel
theorem d1_25 : decode method_2_code 25 = .ok (.areturn, 1) := by decide +kernel
def Q_pick2 (Z : State) (A_FALLING : Addr) (h0 : Heap) (n0 : Nat) (v : Option Value) (h : Heap) (L : List Loc) : Prop := v = some (.ref A_FALLING) ∧ Fr n0 L ∧ h = h0
set_option maxRecDepth 65536 in
set_option maxHeartbeats 40000000 in
theorem rm_pick2 (l : Launch) (Z : State) (a0 : Array Value) (hw : ∀ d ∈ tables_1, d.before a0 Z = true) (ws : List Jvm.Cond) (A_FALLING : Addr) (h0 : Heap) (n0 : Nat) (O0 : Old Z n0 h0) (u0 : Sta Z Z.heap "scorewise/Bounds$Trend" "FALLING" "Lscorewise/Bounds$Trend;" (.ref A_FALLING)) :
    MetFree l (⟨"scorewise/TrendReversedPinLaw", "pick", "(I)Lscorewise/Bounds$Trend;"⟩ : MethodName) (head1 (Jvm.Cond.code (⟨"scorewise/TrendReversedPinLaw", "pick", "(I)Lscorewise/Bounds$Trend;"⟩ : MethodName) method_2_code 1 (some (.object "scorewise/Bounds$Trend")) :: ws) ({ frames := 0, cells := 0, slots := 0, locals := 0 } : Room)) (fun aV U => aV = #[(.int (2 : Int32))] ∧ Z.Warmed39 U.vm ∧ U.heap = h0) (fun _ _ _ _ _ => True) (fun _ U o U' => ∃ v L, o = .returned v ∧ Q_pick2 Z A_FALLING h0 n0 v U'.heap L ∧ FrameEnd U o U' L ({ frames := 0, cells := 0, slots := 0, locals := 0 } : Room).cells ({ frames := 0, cells := 0, slots := 0, locals := 0 } : Room).slots) := by
  refine MetFree.of_bodySF (plainFor_of_name pn_0) hisR ?_
  intro p e s m args below meth c s₁ Bd hml0 hP hK
  obtain ⟨rfl, hZ, hh⟩ := hP
  have hx := Bd.exec
  have hby := Bd.bytes
  have hml : c.maxLocals = 1 := hml0
  have hown : s.vm.findClass "scorewise/TrendReversedPinLaw" = some m.cls := findClass_of_methodNamed Bd.named
  have hnm := (name_of_methodNamed Bd.named Bd.method).1
  have X0 : Stand p l e ({ frames := 0, cells := 0, slots := 0, locals := 0 } : Room) s m #[(.int (2 : Int32))] below meth c s₁ [] 0 0 := Stand.of_body Bd
  have e0 : s₁.heap = h0 := by rw [← hh, Bd.state]; rfl
  have N0 := Fr.nil n0
  have K0 := Keep.refl h0 []
  obtain ⟨G, gv, gf, gb⟩ := own_G p.tables e below s (Q_pick2 Z A_FALLING h0 n0) ({ frames := 0, cells := 0, slots := 0, locals := 0 } : Room).cells ({ frames := 0, cells := 0, slots := 0, locals := 0 } : Room).slots
  show own_Fin p.tables e below s (Q_pick2 Z A_FALLING h0 n0) ({ frames := 0, cells := 0, slots := 0, locals := 0 } : Room).cells ({ frames := 0, cells := 0, slots := 0, locals := 0 } : Room).slots (s₁.setTop (entryFrame m #[(.int (2 : Int32))] 1))
  refine gb _ (gv (fun t k => castTop (ef_0 m (2 : Int32)) k) ?_)
  show G (s₁.setTop (mkF m 0 #[.val (.int (2 : Int32))] []))
  refine gv (fun t k => XS.iloadN X0.here hx rfl (hb hby d1_0) rfl k) ?_
  show G (s₁.setTop (mkF m 1 #[.val (.int (2 : Int32))] [(.int (2 : Int32))]))
  refine gv (fun t k => XS.ifYes X0.here hx rfl (pc0 := 1) (pc' := 8) rfl (hb hby d1_1) rfl ((if0 _ _).trans (feq (by decide : ¬ ((2 : Int32) = (0 : Int32)))).2) (by decide) (by decide) k) ?_
  show G (s₁.setTop (mkF m 8 #[.val (.int (2 : Int32))] []))
  refine gv (fun t k => XS.iloadN X0.here hx rfl (hb hby d1_8) rfl k) ?_
  show G (s₁.setTop (mkF m 9 #[.val (.int (2 : Int32))] [(.int (2 : Int32))]))
  refine gv (fun t k => XS.iconst X0.here hx rfl (hb hby d1_9) k) ?_
  show G (s₁.setTop (mkF m 10 #[.val (.int (2 : Int32))] [(.int (1 : Int32)), (.int (2 : Int32))]))
  refine gv (fun t k => XS.icmpYes X0.here hx rfl (pc0 := 10) (pc' := 17) rfl (hb hby d1_10) rfl (feq (by decide : ¬ ((2 : Int32) = (1 : Int32)))).2 (by decide) (by decide) k) ?_
  show G (s₁.setTop (mkF m 17 #[.val (.int (2 : Int32))] []))
  refine gv (fun t k => XS.iloadN X0.here hx rfl (hb hby d1_17) rfl k) ?_
  show G (s₁.setTop (mkF m 18 #[.val (.int (2 : Int32))] [(.int (2 : Int32))]))
  refine gv (fun t k => XS.iconst X0.here hx rfl (hb hby d1_18) k) ?_
  show G (s₁.setTop (mkF m 19 #[.val (.int (2 : Int32))] [(.int (2 : Int32)), (.int (2 : Int32))]))
  refine gv (fun t k => XS.icmpNo X0.here hx rfl (hb hby d1_19) rfl (teq (by decide : (2 : Int32) = (2 : Int32))).2 k) ?_
  show G (s₁.setTop (mkF m 22 #[.val (.int (2 : Int32))] []))
  obtain ⟨T3, X3, e3, st3⟩ := getS2 X0 hx hZ hown (host := "") (Or.inl (hw _ (List.mem_of_getElem? (i := 18) rfl))) Via.refl e0 (u0.ext O0.2) (g := (mkF m 22 #[.val (.int (2 : Int32))] [])) rfl (hb hby d1_22)
  refine gv st3 ?_
  show G (T3.setTop (mkF m 25 #[.val (.int (2 : Int32))] [(.ref A_FALLING)]))
  refine gf _ (own_ret X3 Bd.notSynchronized (v := some (.ref A_FALLING)) (fun h => by rw [Bd.returns] at h; cases h) ?_ (by decide) (by decide) (fun fs hr => retOut X3 hx (t := (.object "scorewise/Bounds$Trend")) Bd.returns rfl (Or.inr (Or.inr (Or.inr (Or.inr ⟨rfl, rfl, rfl⟩)))) (hb hby d1_25) hr))
  show Q_pick2 Z A_FALLING h0 n0 _ T3.heap _
  rw [e3]
  exact ⟨rfl, N0, rfl⟩
theorem d1_26 : decode method_2_code 26 = .ok (.getstatic 19, 3) := by decide +kernel
theorem d1_29 : decode method_2_code 29 = .ok (.areturn, 1) := by decide +kernel
def Q_pick3 (Z : State) (A_UNKNOWN : Addr) (h0 : Heap) (n0 : Nat) (v : Option Value) (h : Heap) (L : List Loc) : Prop := v = some (.ref A_UNKNOWN) ∧ Fr n0 L ∧ h = h0
set_option maxRecDepth 65536 in
set_option maxHeartbeats 40000000 in
theorem rm_pick3 (l : Launch) (Z : State) (a0 : Array Value) (hw : ∀ d ∈ tables_1, d.before a0 Z = true) (ws : List Jvm.Cond) (A_UNKNOWN : Addr) (h0 : Heap) (n0 : Nat) (O0 : Old Z n0 h0) (u0 : Sta Z Z.heap "scorewise/Bounds$Trend" "UNKNOWN" "Lscorewise/Bounds$Trend;" (.ref A_UNKNOWN)) :
    MetFree l (⟨"scorewise/TrendReversedPinLaw", "pick", "(I)Lscorewise/Bounds$Trend;"⟩ : MethodName) (head1 (Jvm.Cond.code (⟨"scorewise/TrendReversedPinLaw", "pick", "(I)Lscorewise/Bounds$Trend;"⟩ : MethodName) method_2_code 1 (some (.object "scorewise/Bounds$Trend")) :: ws) ({ frames := 0, cells := 0, slots := 0, locals := 0 } : Room)) (fun aV U => aV = #[(.int (3 : Int32))] ∧ Z.Warmed39 U.vm ∧ U.heap = h0) (fun _ _ _ _ _ => True) (fun _ U o U' => ∃ v L, o = .returned v ∧ Q_pick3 Z A_UNKNOWN h0 n0 v U'.heap L ∧ FrameEnd U o U' L ({ frames := 0, cells := 0, slots := 0, locals := 0 } : Room).cells ({ frames := 0, cells := 0, slots := 0, locals := 0 } : Room).slots) := by
  refine MetFree.of_bodySF (plainFor_of_name pn_0) hisR ?_
  intro p e s m args below meth c s₁ Bd hml0 hP hK
  obtain ⟨rfl, hZ, hh⟩ := hP
  have hx := Bd.exec
  have hby := Bd.bytes
  have hml : c.maxLocals = 1 := hml0
  have hown : s.vm.findClass "scorewise/TrendReversedPinLaw" = some m.cls := findClass_of_methodNamed Bd.named
  have hnm := (name_of_methodNamed Bd.named Bd.method).1
  have X0 : Stand p l e ({ frames := 0, cells := 0, slots := 0, locals := 0 } : Room) s m #[(.int (3 : Int32))] below meth c s₁ [] 0 0 := Stand.of_body Bd
  have e0 : s₁.heap = h0 := by rw [← hh, Bd.state]; rfl
  have N0 := Fr.nil n0
  have K0 := Keep.refl h0 []
  obtain ⟨G, gv, gf, gb⟩ := own_G p.tables e below s (Q_pick3 Z A_UNKNOWN h0 n0) ({ frames := 0, cells := 0, slots := 0, locals := 0 } : Room).cells ({ frames := 0, cells := 0, slots := 0, locals := 0 } : Room).slots
  show own_Fin p.tables e below s (Q_pick3 Z A_UNKNOWN h0 n0) ({ frames := 0, cells := 0, slots := 0, locals := 0 } : Room).cells ({ frames := 0, cells := 0, slots := 0, locals := 0 } : Room).slots (s₁.setTop (entryFrame m #[(.int (3 : Int32))] 1))
  refine gb _ (gv (fun t k => castTop (ef_0 m (3 : Int32)) k) ?_)
  show G (s₁.setTop (mkF m 0 #[.val (.int (3 : Int32))] []))
  refine gv (fun t k => XS.iloadN X0.here hx rfl (hb hby d1_0) rfl k) ?_
  show G (s₁.setTop (mkF m 1 #[.val (.int (3 : Int32))] [(.int (3 : Int32))]))
  refine gv (fun t k => XS.ifYes X0.here hx rfl (pc0 := 1) (pc' := 8) rfl (hb hby d1_1) rfl ((if0 _ _).trans (feq (by decide : ¬ ((3 : Int32) = (0 : Int32)))).2) (by decide) (by decide) k) ?_
  show G (s₁.setTop (mkF m 8 #[.val (.int (3 : Int32))] []))
  refine gv (fun t k => XS.iloadN X0.here hx rfl (hb hby d1_8) rfl k) ?_
  show G (s₁.setTop (mkF m 9 #[.val (.int (3 : Int32))] [(.int (3 : Int32))]))
  refine gv (fun t k => XS.iconst X0.here hx rfl (hb hby d1_9) k) ?_
  show G (s₁.setTop (mkF m 10 #[.val (.int (3 : Int32))] [(.int (1 : Int32)), (.int (3 : Int32))]))
  refine gv (fun t k => XS.icmpYes X0.here hx rfl (pc0 := 10) (pc' := 17) rfl (hb hby d1_10) rfl (feq (by decide : ¬ ((3 : Int32) = (1 : Int32)))).2 (by decide) (by decide) k) ?_
  show G (s₁.setTop (mkF m 17 #[.val (.int (3 : Int32))] []))
  refine gv (fun t k => XS.iloadN X0.here hx rfl (hb hby d1_17) rfl k) ?_
  show G (s₁.setTop (mkF m 18 #[.val (.int (3 : Int32))] [(.int (3 : Int32))]))
  refine gv (fun t k => XS.iconst X0.here hx rfl (hb hby d1_18) k) ?_
  show G (s₁.setTop (mkF m 19 #[.val (.int (3 : Int32))] [(.int (2 : Int32)), (.int (3 : Int32))]))
  refine gv (fun t k => XS.icmpYes X0.here hx rfl (pc0 := 19) (pc' := 26) rfl (hb hby d1_19) rfl (feq (by decide : ¬ ((3 : Int32) = (2 : Int32)))).2 (by decide) (by decide) k) ?_
  show G (s₁.setTop (mkF m 26 #[.val (.int (3 : Int32))] []))
  obtain ⟨T4, X4, e4, st4⟩ := getS2 X0 hx hZ hown (host := "") (Or.inl (hw _ (List.mem_of_getElem? (i := 16) rfl))) Via.refl e0 (u0.ext O0.2) (g := (mkF m 26 #[.val (.int (3 : Int32))] [])) rfl (hb hby d1_26)
  refine gv st4 ?_
  show G (T4.setTop (mkF m 29 #[.val (.int (3 : Int32))] [(.ref A_UNKNOWN)]))
  refine gf _ (own_ret X4 Bd.notSynchronized (v := some (.ref A_UNKNOWN)) (fun h => by rw [Bd.returns] at h; cases h) ?_ (by decide) (by decide) (fun fs hr => retOut X4 hx (t := (.object "scorewise/Bounds$Trend")) Bd.returns rfl (Or.inr (Or.inr (Or.inr (Or.inr ⟨rfl, rfl, rfl⟩)))) (hb hby d1_29) hr))
  show Q_pick3 Z A_UNKNOWN h0 n0 _ T4.heap _
  rw [e4]
  exact ⟨rfl, N0, rfl⟩
theorem ef_1 (m : MethodId) (x0 : Addr)  : entryFrame m #[(.ref x0)] 1 = mkF m 0 #[.val (.ref x0)] [] := by first | (simp [entryFrame, mkF, argsToLocals, Value.category]; done) | rfl
theorem pn_1 : plainName "scorewise/Bounds$Trend" = true := by first | (simp [plainName, overriddenIn]; done) | decide +kernel
theorem d2_0 : decode prog_5_method_5_code 0 = .ok (.aload_n 0, 1) := by decide +kernel
theorem d2_1 : decode prog_5_method_5_code 1 = .ok (.getstatic 7, 3) := by decide +kernel
theorem d2_4 : decode prog_5_method_5_code 4 = .ok (.if_acmp .ne 9, 3) := by decide +kernel
theorem d2_7 : decode prog_5_method_5_code 7 = .ok (.getstatic 10, 3) := by decide +kernel
theorem d2_10 : decode prog_5_method_5_code 10 = .ok (.goto 17, 3) := by decide +kernel
theorem d2_27 : decode prog_5_method_5_code 27 = .ok (.areturn, 1) := by decide +kernel
def Q_rev1 (Z : State) (A_RISING : Addr) (A_FALLING : Addr) (h0 : Heap) (n0 : Nat) (v : Option Value) (h : Heap) (L : List Loc) : Prop := v = some (.ref A_FALLING) ∧ Fr n0 L ∧ h = h0
set_option maxRecDepth 65536 in
set_option maxHeartbeats 40000000 in
theorem rm_rev1 (l : Launch) (Z : State) (a0 : Array Value) (hw : ∀ d ∈ tables_1, d.before a0 Z = true) (ws : List Jvm.Cond) (A_RISING : Addr) (A_FALLING : Addr) (h0 : Heap) (n0 : Nat) (O0 : Old Z n0 h0) (u0 : Sta Z Z.heap "scorewise/Bounds$Trend" "RISING" "Lscorewise/Bounds$Trend;" (.ref A_RISING)) (u1 : Sta Z Z.heap "scorewise/Bounds$Trend" "FALLING" "Lscorewise/Bounds$Trend;" (.ref A_FALLING)) :
    MetFree l (⟨"scorewise/Bounds$Trend", "reversed", "()Lscorewise/Bounds$Trend;"⟩ : MethodName) (head1 (Jvm.Cond.code (⟨"scorewise/Bounds$Trend", "reversed", "()Lscorewise/Bounds$Trend;"⟩ : MethodName) prog_5_method_5_code 1 (some (.object "scorewise/Bounds$Trend")) :: ws) ({ frames := 0, cells := 0, slots := 0, locals := 0 } : Room)) (fun aV U => aV = #[(.ref A_RISING)] ∧ Z.Warmed39 U.vm ∧ U.heap = h0) (fun _ _ _ _ _ => True) (fun _ U o U' => ∃ v L, o = .returned v ∧ Q_rev1 Z A_RISING A_FALLING h0 n0 v U'.heap L ∧ FrameEnd U o U' L ({ frames := 0, cells := 0, slots := 0, locals := 0 } : Room).cells ({ frames := 0, cells := 0, slots := 0, locals := 0 } : Room).slots) := by
  refine MetFree.of_bodySF (plainFor_of_name pn_1) hisR ?_
  intro p e s m args below meth c s₁ Bd hml0 hP hK
  obtain ⟨rfl, hZ, hh⟩ := hP
  have hx := Bd.exec
  have hby := Bd.bytes
  have hml : c.maxLocals = 1 := hml0
  have hown : s.vm.findClass "scorewise/Bounds$Trend" = some m.cls := findClass_of_methodNamed Bd.named
  have hnm := (name_of_methodNamed Bd.named Bd.method).1
  have X0 : Stand p l e ({ frames := 0, cells := 0, slots := 0, locals := 0 } : Room) s m #[(.ref A_RISING)] below meth c s₁ [] 0 0 := Stand.of_body Bd
  have e0 : s₁.heap = h0 := by rw [← hh, Bd.state]; rfl
  have N0 := Fr.nil n0
  have K0 := Keep.refl h0 []
  obtain ⟨G, gv, gf, gb⟩ := own_G p.tables e below s (Q_rev1 Z A_RISING A_FALLING h0 n0) ({ frames := 0, cells := 0, slots := 0, locals := 0 } : Room).cells ({ frames := 0, cells := 0, slots := 0, locals := 0 } : Room).slots
  show own_Fin p.tables e below s (Q_rev1 Z A_RISING A_FALLING h0 n0) ({ frames := 0, cells := 0, slots := 0, locals := 0 } : Room).cells ({ frames := 0, cells := 0, slots := 0, locals := 0 } : Room).slots (s₁.setTop (entryFrame m #[(.ref A_RISING)] 1))
  refine gb _ (gv (fun t k => castTop (ef_1 m A_RISING) k) ?_)
  show G (s₁.setTop (mkF m 0 #[.val (.ref A_RISING)] []))
  refine gv (fun t k => XS.aloadN X0.here hx rfl (hb hby d2_0) rfl rfl k) ?_
  show G (s₁.setTop (mkF m 1 #[.val (.ref A_RISING)] [(.ref A_RISING)]))
  obtain ⟨T5, X5, e5, st5⟩ := getS2 X0 hx hZ hown (host := "") (Or.inl (hw _ (List.mem_of_getElem? (i := 12) rfl))) Via.refl e0 (u0.ext O0.2) (g := (mkF m 1 #[.val (.ref A_RISING)] [(.ref A_RISING)])) rfl (hb hby d2_1)
  refine gv st5 ?_
  show G (T5.setTop (mkF m 4 #[.val (.ref A_RISING)] [(.ref A_RISING), (.ref A_RISING)]))
  refine gv (fun t k => Jvm.RoadKit.acmp (g := (mkF m 4 #[.val (.ref A_RISING)] [(.ref A_RISING), (.ref A_RISING)])) X5 hx rfl rfl rfl (pc0 := 4) (pc' := 7) (same := true) rfl (hb hby d2_4) rfl (decide_eq_true rfl) (by decide) (by decide) k) ?_
  show G (T5.setTop (mkF m 7 #[.val (.ref A_RISING)] []))
  obtain ⟨T6, X6, e6, st6⟩ := getS2 X5 hx hZ hown (host := "") (Or.inl (hw _ (List.mem_of_getElem? (i := 14) rfl))) Via.refl e5 (u1.ext O0.2) (g := (mkF m 7 #[.val (.ref A_RISING)] [])) rfl (hb hby d2_7)
  refine gv st6 ?_
  show G (T6.setTop (mkF m 10 #[.val (.ref A_RISING)] [(.ref A_FALLING)]))
  refine gv (fun t k => XS.goto X6.here hx rfl (pc0 := 10) (pc' := 27) rfl (hb hby d2_10) (by decide) (by decide) k) ?_
  show G (T6.setTop (mkF m 27 #[.val (.ref A_RISING)] [(.ref A_FALLING)]))
  refine gf _ (own_ret X6 Bd.notSynchronized (v := some (.ref A_FALLING)) (fun h => by rw [Bd.returns] at h; cases h) ?_ (by decide) (by decide) (fun fs hr => retOut X6 hx (t := (.object "scorewise/Bounds$Trend")) Bd.returns rfl (Or.inr (Or.inr (Or.inr (Or.inr ⟨rfl, rfl, rfl⟩)))) (hb hby d2_27) hr))
  show Q_rev1 Z A_RISING A_FALLING h0 n0 _ T6.heap _
  rw [e6]
  exact ⟨rfl, N0, rfl⟩
theorem d2_13 : decode prog_5_method_5_code 13 = .ok (.aload_n 0, 1) := by decide +kernel
theorem d2_14 : decode prog_5_method_5_code 14 = .ok (.getstatic 10, 3) := by decide +kernel
theorem d2_17 : decode prog_5_method_5_code 17 = .ok (.if_acmp .ne 9, 3) := by decide +kernel
theorem d2_20 : decode prog_5_method_5_code 20 = .ok (.getstatic 7, 3) := by decide +kernel
theorem d2_23 : decode prog_5_method_5_code 23 = .ok (.goto 4, 3) := by decide +kernel
def Q_rev2 (Z : State) (A_RISING : Addr) (A_FALLING : Addr) (h0 : Heap) (n0 : Nat) (v : Option Value) (h : Heap) (L : List Loc) : Prop := v = some (.ref A_RISING) ∧ Fr n0 L ∧ h = h0
set_option maxRecDepth 65536 in
set_option maxHeartbeats 40000000 in
theorem rm_rev2 (l : Launch) (Z : State) (a0 : Array Value) (hw : ∀ d ∈ tables_1, d.before a0 Z = true) (ws : List Jvm.Cond) (A_RISING : Addr) (A_FALLING : Addr) (h0 : Heap) (n0 : Nat) (O0 : Old Z n0 h0) (u0 : Sta Z Z.heap "scorewise/Bounds$Trend" "RISING" "Lscorewise/Bounds$Trend;" (.ref A_RISING)) (u1 : Sta Z Z.heap "scorewise/Bounds$Trend" "FALLING" "Lscorewise/Bounds$Trend;" (.ref A_FALLING)) (u2 : A_FALLING ≠ A_RISING) :
    MetFree l (⟨"scorewise/Bounds$Trend", "reversed", "()Lscorewise/Bounds$Trend;"⟩ : MethodName) (head1 (Jvm.Cond.code (⟨"scorewise/Bounds$Trend", "reversed", "()Lscorewise/Bounds$Trend;"⟩ : MethodName) prog_5_method_5_code 1 (some (.object "scorewise/Bounds$Trend")) :: ws) ({ frames := 0, cells := 0, slots := 0, locals := 0 } : Room)) (fun aV U => aV = #[(.ref A_FALLING)] ∧ Z.Warmed39 U.vm ∧ U.heap = h0) (fun _ _ _ _ _ => True) (fun _ U o U' => ∃ v L, o = .returned v ∧ Q_rev2 Z A_RISING A_FALLING h0 n0 v U'.heap L ∧ FrameEnd U o U' L ({ frames := 0, cells := 0, slots := 0, locals := 0 } : Room).cells ({ frames := 0, cells := 0, slots := 0, locals := 0 } : Room).slots) := by
  refine MetFree.of_bodySF (plainFor_of_name pn_1) hisR ?_
  intro p e s m args below meth c s₁ Bd hml0 hP hK
  obtain ⟨rfl, hZ, hh⟩ := hP
  have hx := Bd.exec
  have hby := Bd.bytes
  have hml : c.maxLocals = 1 := hml0
  have hown : s.vm.findClass "scorewise/Bounds$Trend" = some m.cls := findClass_of_methodNamed Bd.named
  have hnm := (name_of_methodNamed Bd.named Bd.method).1
  have X0 : Stand p l e ({ frames := 0, cells := 0, slots := 0, locals := 0 } : Room) s m #[(.ref A_FALLING)] below meth c s₁ [] 0 0 := Stand.of_body Bd
  have e0 : s₁.heap = h0 := by rw [← hh, Bd.state]; rfl
  have N0 := Fr.nil n0
  have K0 := Keep.refl h0 []
  obtain ⟨G, gv, gf, gb⟩ := own_G p.tables e below s (Q_rev2 Z A_RISING A_FALLING h0 n0) ({ frames := 0, cells := 0, slots := 0, locals := 0 } : Room).cells ({ frames := 0, cells := 0, slots := 0, locals := 0 } : Room).slots
  show own_Fin p.tables e below s (Q_rev2 Z A_RISING A_FALLING h0 n0) ({ frames := 0, cells := 0, slots := 0, locals := 0 } : Room).cells ({ frames := 0, cells := 0, slots := 0, locals := 0 } : Room).slots (s₁.setTop (entryFrame m #[(.ref A_FALLING)] 1))
  refine gb _ (gv (fun t k => castTop (ef_1 m A_FALLING) k) ?_)
  show G (s₁.setTop (mkF m 0 #[.val (.ref A_FALLING)] []))
  refine gv (fun t k => XS.aloadN X0.here hx rfl (hb hby d2_0) rfl rfl k) ?_
  show G (s₁.setTop (mkF m 1 #[.val (.ref A_FALLING)] [(.ref A_FALLING)]))
  obtain ⟨T7, X7, e7, st7⟩ := getS2 X0 hx hZ hown (host := "") (Or.inl (hw _ (List.mem_of_getElem? (i := 12) rfl))) Via.refl e0 (u0.ext O0.2) (g := (mkF m 1 #[.val (.ref A_FALLING)] [(.ref A_FALLING)])) rfl (hb hby d2_1)
  refine gv st7 ?_
  show G (T7.setTop (mkF m 4 #[.val (.ref A_FALLING)] [(.ref A_RISING), (.ref A_FALLING)]))
  refine gv (fun t k => Jvm.RoadKit.acmp (g := (mkF m 4 #[.val (.ref A_FALLING)] [(.ref A_RISING), (.ref A_FALLING)])) X7 hx rfl rfl rfl (pc0 := 4) (pc' := 13) (same := false) rfl (hb hby d2_4) rfl (decide_eq_false fun q => u2 (Value.ref.inj q)) (by decide) (by decide) k) ?_
  show G (T7.setTop (mkF m 13 #[.val (.ref A_FALLING)] []))
  refine gv (fun t k => XS.aloadN X7.here hx rfl (hb hby d2_13) rfl rfl k) ?_
  show G (T7.setTop (mkF m 14 #[.val (.ref A_FALLING)] [(.ref A_FALLING)]))
  obtain ⟨T8, X8, e8, st8⟩ := getS2 X7 hx hZ hown (host := "") (Or.inl (hw _ (List.mem_of_getElem? (i := 14) rfl))) Via.refl e7 (u1.ext O0.2) (g := (mkF m 14 #[.val (.ref A_FALLING)] [(.ref A_FALLING)])) rfl (hb hby d2_14)
  refine gv st8 ?_
  show G (T8.setTop (mkF m 17 #[.val (.ref A_FALLING)] [(.ref A_FALLING), (.ref A_FALLING)]))
  refine gv (fun t k => Jvm.RoadKit.acmp (g := (mkF m 17 #[.val (.ref A_FALLING)] [(.ref A_FALLING), (.ref A_FALLING)])) X8 hx rfl rfl rfl (pc0 := 17) (pc' := 20) (same := true) rfl (hb hby d2_17) rfl (decide_eq_true rfl) (by decide) (by decide) k) ?_
  show G (T8.setTop (mkF m 20 #[.val (.ref A_FALLING)] []))
  obtain ⟨T9, X9, e9, st9⟩ := getS2 X8 hx hZ hown (host := "") (Or.inl (hw _ (List.mem_of_getElem? (i := 12) rfl))) Via.refl e8 (u0.ext O0.2) (g := (mkF m 20 #[.val (.ref A_FALLING)] [])) rfl (hb hby d2_20)
  refine gv st9 ?_
  show G (T9.setTop (mkF m 23 #[.val (.ref A_FALLING)] [(.ref A_RISING)]))
  refine gv (fun t k => XS.goto X9.here hx rfl (pc0 := 23) (pc' := 27) rfl (hb hby d2_23) (by decide) (by decide) k) ?_
  show G (T9.setTop (mkF m 27 #[.val (.ref A_FALLING)] [(.ref A_RISING)]))
  refine gf _ (own_ret X9 Bd.notSynchronized (v := some (.ref A_RISING)) (fun h => by rw [Bd.returns] at h; cases h) ?_ (by decide) (by decide) (fun fs hr => retOut X9 hx (t := (.object "scorewise/Bounds$Trend")) Bd.returns rfl (Or.inr (Or.inr (Or.inr (Or.inr ⟨rfl, rfl, rfl⟩)))) (hb hby d2_27) hr))
  show Q_rev2 Z A_RISING A_FALLING h0 n0 _ T9.heap _
  rw [e9]
  exact ⟨rfl, N0, rfl⟩
theorem d2_26 : decode prog_5_method_5_code 26 = .ok (.aload_n 0, 1) := by decide +kernel
def Q_rev0 (Z : State) (a : Addr) (A_RISING : Addr) (A_FALLING : Addr) (h0 : Heap) (n0 : Nat) (v : Option Value) (h : Heap) (L : List Loc) : Prop := v = some (.ref a) ∧ Fr n0 L ∧ h = h0
set_option maxRecDepth 65536 in
set_option maxHeartbeats 40000000 in
theorem rm_rev0 (l : Launch) (Z : State) (a0 : Array Value) (hw : ∀ d ∈ tables_1, d.before a0 Z = true) (ws : List Jvm.Cond) (a : Addr) (A_RISING : Addr) (A_FALLING : Addr) (h0 : Heap) (n0 : Nat) (O0 : Old Z n0 h0) (u0 : Sta Z Z.heap "scorewise/Bounds$Trend" "RISING" "Lscorewise/Bounds$Trend;" (.ref A_RISING)) (u1 : Sta Z Z.heap "scorewise/Bounds$Trend" "FALLING" "Lscorewise/Bounds$Trend;" (.ref A_FALLING)) (u2 : a ≠ A_RISING) (u3 : a ≠ A_FALLING) :
    MetFree l (⟨"scorewise/Bounds$Trend", "reversed", "()Lscorewise/Bounds$Trend;"⟩ : MethodName) (head1 (Jvm.Cond.code (⟨"scorewise/Bounds$Trend", "reversed", "()Lscorewise/Bounds$Trend;"⟩ : MethodName) prog_5_method_5_code 1 (some (.object "scorewise/Bounds$Trend")) :: ws) ({ frames := 0, cells := 0, slots := 0, locals := 0 } : Room)) (fun aV U => aV = #[(.ref a)] ∧ Z.Warmed39 U.vm ∧ U.heap = h0) (fun _ _ _ _ _ => True) (fun _ U o U' => ∃ v L, o = .returned v ∧ Q_rev0 Z a A_RISING A_FALLING h0 n0 v U'.heap L ∧ FrameEnd U o U' L ({ frames := 0, cells := 0, slots := 0, locals := 0 } : Room).cells ({ frames := 0, cells := 0, slots := 0, locals := 0 } : Room).slots) := by
  refine MetFree.of_bodySF (plainFor_of_name pn_1) hisR ?_
  intro p e s m args below meth c s₁ Bd hml0 hP hK
  obtain ⟨rfl, hZ, hh⟩ := hP
  have hx := Bd.exec
  have hby := Bd.bytes
  have hml : c.maxLocals = 1 := hml0
  have hown : s.vm.findClass "scorewise/Bounds$Trend" = some m.cls := findClass_of_methodNamed Bd.named
  have hnm := (name_of_methodNamed Bd.named Bd.method).1
  have X0 : Stand p l e ({ frames := 0, cells := 0, slots := 0, locals := 0 } : Room) s m #[(.ref a)] below meth c s₁ [] 0 0 := Stand.of_body Bd
  have e0 : s₁.heap = h0 := by rw [← hh, Bd.state]; rfl
  have N0 := Fr.nil n0
  have K0 := Keep.refl h0 []
  obtain ⟨G, gv, gf, gb⟩ := own_G p.tables e below s (Q_rev0 Z a A_RISING A_FALLING h0 n0) ({ frames := 0, cells := 0, slots := 0, locals := 0 } : Room).cells ({ frames := 0, cells := 0, slots := 0, locals := 0 } : Room).slots
  show own_Fin p.tables e below s (Q_rev0 Z a A_RISING A_FALLING h0 n0) ({ frames := 0, cells := 0, slots := 0, locals := 0 } : Room).cells ({ frames := 0, cells := 0, slots := 0, locals := 0 } : Room).slots (s₁.setTop (entryFrame m #[(.ref a)] 1))
  refine gb _ (gv (fun t k => castTop (ef_1 m a) k) ?_)
  show G (s₁.setTop (mkF m 0 #[.val (.ref a)] []))
  refine gv (fun t k => XS.aloadN X0.here hx rfl (hb hby d2_0) rfl rfl k) ?_
  show G (s₁.setTop (mkF m 1 #[.val (.ref a)] [(.ref a)]))
  obtain ⟨T10, X10, e10, st10⟩ := getS2 X0 hx hZ hown (host := "") (Or.inl (hw _ (List.mem_of_getElem? (i := 12) rfl))) Via.refl e0 (u0.ext O0.2) (g := (mkF m 1 #[.val (.ref a)] [(.ref a)])) rfl (hb hby d2_1)
  refine gv st10 ?_
  show G (T10.setTop (mkF m 4 #[.val (.ref a)] [(.ref A_RISING), (.ref a)]))
  refine gv (fun t k => Jvm.RoadKit.acmp (g := (mkF m 4 #[.val (.ref a)] [(.ref A_RISING), (.ref a)])) X10 hx rfl rfl rfl (pc0 := 4) (pc' := 13) (same := false) rfl (hb hby d2_4) rfl (decide_eq_false fun q => u2 (Value.ref.inj q)) (by decide) (by decide) k) ?_
  show G (T10.setTop (mkF m 13 #[.val (.ref a)] []))
  refine gv (fun t k => XS.aloadN X10.here hx rfl (hb hby d2_13) rfl rfl k) ?_
  show G (T10.setTop (mkF m 14 #[.val (.ref a)] [(.ref a)]))
  obtain ⟨T11, X11, e11, st11⟩ := getS2 X10 hx hZ hown (host := "") (Or.inl (hw _ (List.mem_of_getElem? (i := 14) rfl))) Via.refl e10 (u1.ext O0.2) (g := (mkF m 14 #[.val (.ref a)] [(.ref a)])) rfl (hb hby d2_14)
  refine gv st11 ?_
  show G (T11.setTop (mkF m 17 #[.val (.ref a)] [(.ref A_FALLING), (.ref a)]))
  refine gv (fun t k => Jvm.RoadKit.acmp (g := (mkF m 17 #[.val (.ref a)] [(.ref A_FALLING), (.ref a)])) X11 hx rfl rfl rfl (pc0 := 17) (pc' := 26) (same := false) rfl (hb hby d2_17) rfl (decide_eq_false fun q => u3 (Value.ref.inj q)) (by decide) (by decide) k) ?_
  show G (T11.setTop (mkF m 26 #[.val (.ref a)] []))
  refine gv (fun t k => XS.aloadN X11.here hx rfl (hb hby d2_26) rfl rfl k) ?_
  show G (T11.setTop (mkF m 27 #[.val (.ref a)] [(.ref a)]))
  refine gf _ (own_ret X11 Bd.notSynchronized (v := some (.ref a)) (fun h => by rw [Bd.returns] at h; cases h) ?_ (by decide) (by decide) (fun fs hr => retOut X11 hx (t := (.object "scorewise/Bounds$Trend")) Bd.returns rfl (Or.inr (Or.inr (Or.inr (Or.inr ⟨rfl, rfl, rfl⟩)))) (hb hby d2_27) hr))
  show Q_rev0 Z a A_RISING A_FALLING h0 n0 _ T11.heap _
  rw [e11]
  exact ⟨rfl, N0, rfl⟩
theorem ef_2 (m : MethodId) (x0 : Int32)  : entryFrame m #[(.int x0)] maxLocals = mkF m 0 #[.val (.int x0), .unset, .unset, .unset, .unset, .unset] [] := by first | (simp [entryFrame, mkF, argsToLocals, Value.category, maxLocals]; done) | rfl
theorem pd_0 : parseMethodDescriptor "(I)Lscorewise/Bounds$Trend;" = some ⟨[.int], some (.object "scorewise/Bounds$Trend")⟩ := by decide +kernel
theorem pd_1 : parseMethodDescriptor "()Lscorewise/Bounds$Trend;" = some ⟨[], some (.object "scorewise/Bounds$Trend")⟩ := by decide +kernel
def Q0 (Z : State) (p0 : Int32) (A_UNREAD : Addr) (A_RISING : Addr) (A_FALLING : Addr) (A_UNKNOWN : Addr) (h0 : Heap) (n0 : Nat) (v : Option Value) (h : Heap) (L : List Loc) : Prop := v = some (.int (1 : Int32)) ∧ Fr n0 L
set_option maxRecDepth 65536 in
set_option maxHeartbeats 40000000 in
theorem rm0 (l : Launch) (Z : State) (a0 : Array Value) (hw : ∀ d ∈ tables_1, d.before a0 Z = true) (ws : List Jvm.Cond) (p0 : Int32) (A_UNREAD : Addr) (A_RISING : Addr) (A_FALLING : Addr) (A_UNKNOWN : Addr) (h0 : Heap) (n0 : Nat) (O0 : Old Z n0 h0) (u0 : Sta Z Z.heap "scorewise/Bounds$Trend" "UNREAD" "Lscorewise/Bounds$Trend;" (.ref A_UNREAD)) (u1 : Sta Z Z.heap "scorewise/Bounds$Trend" "RISING" "Lscorewise/Bounds$Trend;" (.ref A_RISING)) (u2 : Sta Z Z.heap "scorewise/Bounds$Trend" "FALLING" "Lscorewise/Bounds$Trend;" (.ref A_FALLING)) (u3 : Sta Z Z.heap "scorewise/Bounds$Trend" "UNKNOWN" "Lscorewise/Bounds$Trend;" (.ref A_UNKNOWN)) (u4 : Exa Z Z.heap A_UNREAD "scorewise/Bounds$Trend") (u5 : Exa Z Z.heap A_RISING "scorewise/Bounds$Trend") (u6 : Exa Z Z.heap A_FALLING "scorewise/Bounds$Trend") (u7 : Exa Z Z.heap A_UNKNOWN "scorewise/Bounds$Trend") (u8 : A_UNREAD ≠ A_RISING) (u9 : A_UNREAD ≠ A_FALLING) (u10 : A_FALLING ≠ A_RISING) (u11 : A_UNKNOWN ≠ A_RISING) (u12 : A_UNKNOWN ≠ A_FALLING) :
    MetFree l x (head1 (Jvm.Cond.code x code maxLocals ret :: ws) room_1) (fun aV U => aV = #[(.int p0)] ∧ Z.Warmed39 U.vm ∧ U.heap = h0) (fun _ _ _ _ _ => True) (fun _ U o U' => ∃ v L, o = .returned v ∧ Q0 Z p0 A_UNREAD A_RISING A_FALLING A_UNKNOWN h0 n0 v U'.heap L ∧ FrameEnd U o U' L room_1.cells room_1.slots) := by
  refine MetFree.of_bodySF (plainFor_of_name pn_0) hisR ?_
  intro p e s m args below meth c s₁ Bd hml0 hP hK
  obtain ⟨rfl, hZ, hh⟩ := hP
  have hx := Bd.exec
  have hby := Bd.bytes
  have hml : c.maxLocals = 6 := hml0
  have hown : s.vm.findClass "scorewise/TrendReversedPinLaw" = some m.cls := findClass_of_methodNamed Bd.named
  have hnm := (name_of_methodNamed Bd.named Bd.method).1
  have X0 : Stand p l e room_1 s m #[(.int p0)] below meth c s₁ [] 0 0 := Stand.of_body Bd
  have e0 : s₁.heap = h0 := by rw [← hh, Bd.state]; rfl
  have N0 := Fr.nil n0
  have K0 := Keep.refl h0 []
  obtain ⟨G, gv, gf, gb⟩ := own_G p.tables e below s (Q0 Z p0 A_UNREAD A_RISING A_FALLING A_UNKNOWN h0 n0) room_1.cells room_1.slots
  show own_Fin p.tables e below s (Q0 Z p0 A_UNREAD A_RISING A_FALLING A_UNKNOWN h0 n0) room_1.cells room_1.slots (s₁.setTop (entryFrame m #[(.int p0)] maxLocals))
  refine gb _ (gv (fun t k => castTop (ef_2 m p0) k) ?_)
  show G (s₁.setTop (mkF m 0 #[.val (.int p0), .unset, .unset, .unset, .unset, .unset] []))
  refine gv (fun t k => XS.iloadN X0.here hx rfl (hb hby at_0) rfl k) ?_
  show G (s₁.setTop (mkF m 1 #[.val (.int p0), .unset, .unset, .unset, .unset, .unset] [(.int p0)]))
  refine gv (fun t k => XS.iconst X0.here hx rfl (hb hby at_1) k) ?_
  show G (s₁.setTop (mkF m 2 #[.val (.int p0), .unset, .unset, .unset, .unset, .unset] [(.int (3 : Int32)), (.int p0)]))
  refine gv (fun t k => XS.iand X0.here hx rfl (hb hby at_2) rfl k) ?_
  show G (s₁.setTop (mkF m 3 #[.val (.int p0), .unset, .unset, .unset, .unset, .unset] [(.int (p0 &&& (3 : Int32)))]))
  refine gv (fun t k => XS.istoreN X0.here hx rfl (hb hby at_3) rfl (l' := #[.val (.int p0), .val (.int (p0 &&& (3 : Int32))), .unset, .unset, .unset, .unset]) rfl k) ?_
  show G (s₁.setTop (mkF m 4 #[.val (.int p0), .val (.int (p0 &&& (3 : Int32))), .unset, .unset, .unset, .unset] []))
  rcases own_and3 p0 with q | q | q | q
  · rw [q]
    show G (s₁.setTop (mkF m 4 #[.val (.int p0), .val (.int (0 : Int32)), .unset, .unset, .unset, .unset] []))
    refine gv (fun t k => XS.iloadN X0.here hx rfl (hb hby at_4) rfl k) ?_
    show G (s₁.setTop (mkF m 5 #[.val (.int p0), .val (.int (0 : Int32)), .unset, .unset, .unset, .unset] [(.int (0 : Int32))]))
    obtain ⟨_, _, ⟨T12, L12, k12, n12⟩, -, X12, ⟨Lc12, hQ12, l12, y12, z12⟩, st12⟩ := Jvm.LawKit.callS X0 hx (y := (⟨"scorewise/TrendReversedPinLaw", "pick", "(I)Lscorewise/Bounds$Trend;"⟩ : MethodName)) hown (mvT hZ (hw _ (List.mem_of_getElem? (i := 0) rfl))) (mvT hZ (hw _ (List.mem_of_getElem? (i := 1) rfl))) (mvT hZ (hw _ (List.mem_of_getElem? (i := 2) rfl))) (mvT hZ (hw _ (List.mem_of_getElem? (i := 3) rfl))) (by decide) (backOf (W := 0) (rm_pick0 l Z a0 hw [] A_UNREAD h0 n0 O0 u0) hZ (hw _ (List.mem_of_getElem? (i := 3) rfl)) (hw _ (List.mem_of_getElem? (i := 2) rfl)) (by decide) (by decide)) (g := (mkF m 5 #[.val (.int p0), .val (.int (0 : Int32)), .unset, .unset, .unset, .unset] [(.int (0 : Int32))])) rfl (by rw [hml]; rfl) (argsL := [(.int (0 : Int32))]) (rest := []) (lenOf pd_0 rfl) rfl (by show 2 * 0 + _ ≤ _; exact Nat.le_of_eq rfl) (hb hby at_5) (fun _ _ => ⟨rfl, e0, (by decide : 0 + 0 ≤ _), (by decide : 0 + 0 ≤ _)⟩)
    dsimp only [Pt.U, Pt.locs, Pt.cells, Pt.slots] at X12 l12 y12 z12 st12 hQ12
    subst l12 y12 z12
    obtain ⟨rfl, Nq12, eq12⟩ := hQ12
    have N13 := Fr.app N0 Nq12
    refine gv st12 ?_
    show G (T12.setTop (mkF m 8 #[.val (.int p0), .val (.int (0 : Int32)), .unset, .unset, .unset, .unset] [(.ref A_UNREAD)]))
    refine gv (fun t k => XS.astoreN X12.here hx rfl (hb hby at_8) rfl rfl (l' := #[.val (.int p0), .val (.int (0 : Int32)), .val (.ref A_UNREAD), .unset, .unset, .unset]) rfl k) ?_
    show G (T12.setTop (mkF m 9 #[.val (.int p0), .val (.int (0 : Int32)), .val (.ref A_UNREAD), .unset, .unset, .unset] []))
    refine gv (fun t k => XS.iloadN X12.here hx rfl (hb hby at_9) rfl k) ?_
    show G (T12.setTop (mkF m 10 #[.val (.int p0), .val (.int (0 : Int32)), .val (.ref A_UNREAD), .unset, .unset, .unset] [(.int (0 : Int32))]))
    refine gv (fun t k => XS.iconst X12.here hx rfl (hb hby at_10) k) ?_
    show G (T12.setTop (mkF m 11 #[.val (.int p0), .val (.int (0 : Int32)), .val (.ref A_UNREAD), .unset, .unset, .unset] [(.int (1 : Int32)), (.int (0 : Int32))]))
    refine gv (fun t k => XS.icmpYes X12.here hx rfl (pc0 := 11) (pc' := 18) rfl (hb hby at_11) rfl (feq (by decide : ¬ ((0 : Int32) = (1 : Int32)))).2 (by decide) (by decide) k) ?_
    show G (T12.setTop (mkF m 18 #[.val (.int p0), .val (.int (0 : Int32)), .val (.ref A_UNREAD), .unset, .unset, .unset] []))
    refine gv (fun t k => XS.iloadN X12.here hx rfl (hb hby at_18) rfl k) ?_
    show G (T12.setTop (mkF m 19 #[.val (.int p0), .val (.int (0 : Int32)), .val (.ref A_UNREAD), .unset, .unset, .unset] [(.int (0 : Int32))]))
    refine gv (fun t k => XS.iconst X12.here hx rfl (hb hby at_19) k) ?_
    show G (T12.setTop (mkF m 20 #[.val (.int p0), .val (.int (0 : Int32)), .val (.ref A_UNREAD), .unset, .unset, .unset] [(.int (2 : Int32)), (.int (0 : Int32))]))
    refine gv (fun t k => XS.icmpYes X12.here hx rfl (pc0 := 20) (pc' := 27) rfl (hb hby at_20) rfl (feq (by decide : ¬ ((0 : Int32) = (2 : Int32)))).2 (by decide) (by decide) k) ?_
    show G (T12.setTop (mkF m 27 #[.val (.int p0), .val (.int (0 : Int32)), .val (.ref A_UNREAD), .unset, .unset, .unset] []))
    refine gv (fun t k => XS.iloadN X12.here hx rfl (hb hby at_27) rfl k) ?_
    show G (T12.setTop (mkF m 28 #[.val (.int p0), .val (.int (0 : Int32)), .val (.ref A_UNREAD), .unset, .unset, .unset] [(.int (0 : Int32))]))
    refine gv (fun t k => XS.istoreN X12.here hx rfl (hb hby at_28) rfl (l' := #[.val (.int p0), .val (.int (0 : Int32)), .val (.ref A_UNREAD), .val (.int (0 : Int32)), .unset, .unset]) rfl k) ?_
    show G (T12.setTop (mkF m 29 #[.val (.int p0), .val (.int (0 : Int32)), .val (.ref A_UNREAD), .val (.int (0 : Int32)), .unset, .unset] []))
    refine gv (fun t k => XS.iloadN X12.here hx rfl (hb hby at_29) rfl k) ?_
    show G (T12.setTop (mkF m 30 #[.val (.int p0), .val (.int (0 : Int32)), .val (.ref A_UNREAD), .val (.int (0 : Int32)), .unset, .unset] [(.int (0 : Int32))]))
    obtain ⟨_, _, ⟨T14, L14, k14, n14⟩, -, X14, ⟨Lc14, hQ14, l14, y14, z14⟩, st14⟩ := Jvm.LawKit.callS X12 hx (y := (⟨"scorewise/TrendReversedPinLaw", "pick", "(I)Lscorewise/Bounds$Trend;"⟩ : MethodName)) hown (mvT hZ (hw _ (List.mem_of_getElem? (i := 0) rfl))) (mvT hZ (hw _ (List.mem_of_getElem? (i := 1) rfl))) (mvT hZ (hw _ (List.mem_of_getElem? (i := 2) rfl))) (mvT hZ (hw _ (List.mem_of_getElem? (i := 3) rfl))) (by decide) (backOf (W := 0) (rm_pick0 l Z a0 hw [] A_UNREAD h0 n0 O0 u0) hZ (hw _ (List.mem_of_getElem? (i := 3) rfl)) (hw _ (List.mem_of_getElem? (i := 2) rfl)) (by decide) (by decide)) (g := (mkF m 30 #[.val (.int p0), .val (.int (0 : Int32)), .val (.ref A_UNREAD), .val (.int (0 : Int32)), .unset, .unset] [(.int (0 : Int32))])) rfl (by rw [hml]; rfl) (argsL := [(.int (0 : Int32))]) (rest := []) (lenOf pd_0 rfl) rfl (by show 2 * 0 + _ ≤ _; exact Nat.le_of_eq rfl) (hb hby at_30) (fun _ _ => ⟨rfl, eq12, (by decide : 0 + 0 ≤ _), (by decide : 0 + 0 ≤ _)⟩)
    dsimp only [Pt.U, Pt.locs, Pt.cells, Pt.slots] at X14 l14 y14 z14 st14 hQ14
    subst l14 y14 z14
    obtain ⟨rfl, Nq14, eq14⟩ := hQ14
    have N15 := Fr.app N13 Nq14
    refine gv st14 ?_
    show G (T14.setTop (mkF m 33 #[.val (.int p0), .val (.int (0 : Int32)), .val (.ref A_UNREAD), .val (.int (0 : Int32)), .unset, .unset] [(.ref A_UNREAD)]))
    refine gv (fun t k => XS.astore X14.here hx rfl (hb hby at_33) rfl rfl (l' := #[.val (.int p0), .val (.int (0 : Int32)), .val (.ref A_UNREAD), .val (.int (0 : Int32)), .val (.ref A_UNREAD), .unset]) rfl k) ?_
    show G (T14.setTop (mkF m 35 #[.val (.int p0), .val (.int (0 : Int32)), .val (.ref A_UNREAD), .val (.int (0 : Int32)), .val (.ref A_UNREAD), .unset] []))
    refine gv (fun t k => XS.aloadN X14.here hx rfl (hb hby at_35) rfl rfl k) ?_
    show G (T14.setTop (mkF m 36 #[.val (.int p0), .val (.int (0 : Int32)), .val (.ref A_UNREAD), .val (.int (0 : Int32)), .val (.ref A_UNREAD), .unset] [(.ref A_UNREAD)]))
    obtain ⟨cq16, kq16, q16a, q16b, q16c⟩ := isOf hZ eq14 (u4.ext O0.2)
    obtain ⟨_, _, ⟨T16, L16, k16, n16⟩, -, X16, ⟨Lc16, hQ16, l16, y16, z16⟩, st16⟩ := X14.virtualBack hx (y := (⟨"scorewise/Bounds$Trend", "reversed", "()Lscorewise/Bounds$Trend;"⟩ : MethodName)) (z := (⟨"scorewise/Bounds$Trend", "reversed", "()Lscorewise/Bounds$Trend;"⟩ : MethodName)) hown (mvT hZ (hw _ (List.mem_of_getElem? (i := 7) rfl))) (mvT hZ (hw _ (List.mem_of_getElem? (i := 8) rfl))) (notFace_of_selects (args := #[]) (mvT hZ (hw _ (List.mem_of_getElem? (i := 10) rfl)))) (mvT hZ (hw _ (List.mem_of_getElem? (i := 10) rfl))) (mvT hZ (hw _ (List.mem_of_getElem? (i := 9) rfl))) (by decide) (backOf (W := 0) (rm_rev0 l Z a0 hw [] A_UNREAD A_RISING A_FALLING h0 n0 O0 u1 u2 u8 u9) hZ (hw _ (List.mem_of_getElem? (i := 11) rfl)) (hw _ (List.mem_of_getElem? (i := 5) rfl)) (by decide) (by decide)) q16a q16c (g := (mkF m 36 #[.val (.int p0), .val (.int (0 : Int32)), .val (.ref A_UNREAD), .val (.int (0 : Int32)), .val (.ref A_UNREAD), .unset] [(.ref A_UNREAD)])) rfl (by rw [hml]; rfl) (Steps.refl _) (argsL := []) (rest := []) (lenOf pd_1 rfl) rfl (by show 2 * 0 + _ ≤ _; exact Nat.le_of_eq rfl) (hb hby at_36) (fun _ _ => ⟨rfl, eq14, (by decide : 0 + 0 ≤ _), (by decide : 0 + 0 ≤ _)⟩)
    dsimp only [Pt.U, Pt.locs, Pt.cells, Pt.slots] at X16 l16 y16 z16 st16 hQ16
    subst l16 y16 z16
    obtain ⟨rfl, Nq16, eq16⟩ := hQ16
    have N17 := Fr.app N15 Nq16
    refine gv (fun t k => st16.trans k) ?_
    show G (T16.setTop (mkF m 39 #[.val (.int p0), .val (.int (0 : Int32)), .val (.ref A_UNREAD), .val (.int (0 : Int32)), .val (.ref A_UNREAD), .unset] [(.ref A_UNREAD)]))
    refine gv (fun t k => XS.astore X16.here hx rfl (hb hby at_39) rfl rfl (l' := #[.val (.int p0), .val (.int (0 : Int32)), .val (.ref A_UNREAD), .val (.int (0 : Int32)), .val (.ref A_UNREAD), .val (.ref A_UNREAD)]) rfl k) ?_
    show G (T16.setTop (mkF m 41 #[.val (.int p0), .val (.int (0 : Int32)), .val (.ref A_UNREAD), .val (.int (0 : Int32)), .val (.ref A_UNREAD), .val (.ref A_UNREAD)] []))
    refine gv (fun t k => XS.aload X16.here hx rfl (hb hby at_41) rfl rfl k) ?_
    show G (T16.setTop (mkF m 43 #[.val (.int p0), .val (.int (0 : Int32)), .val (.ref A_UNREAD), .val (.int (0 : Int32)), .val (.ref A_UNREAD), .val (.ref A_UNREAD)] [(.ref A_UNREAD)]))
    refine gv (fun t k => XS.aload X16.here hx rfl (hb hby at_43) rfl rfl k) ?_
    show G (T16.setTop (mkF m 45 #[.val (.int p0), .val (.int (0 : Int32)), .val (.ref A_UNREAD), .val (.int (0 : Int32)), .val (.ref A_UNREAD), .val (.ref A_UNREAD)] [(.ref A_UNREAD), (.ref A_UNREAD)]))
    refine gv (fun t k => Jvm.RoadKit.acmp (g := (mkF m 45 #[.val (.int p0), .val (.int (0 : Int32)), .val (.ref A_UNREAD), .val (.int (0 : Int32)), .val (.ref A_UNREAD), .val (.ref A_UNREAD)] [(.ref A_UNREAD), (.ref A_UNREAD)])) X16 hx rfl rfl rfl (pc0 := 45) (pc' := 50) (same := true) rfl (hb hby at_45) rfl (decide_eq_true rfl) (by decide) (by decide) k) ?_
    show G (T16.setTop (mkF m 50 #[.val (.int p0), .val (.int (0 : Int32)), .val (.ref A_UNREAD), .val (.int (0 : Int32)), .val (.ref A_UNREAD), .val (.ref A_UNREAD)] []))
    refine gv (fun t k => XS.aload X16.here hx rfl (hb hby at_50) rfl rfl k) ?_
    show G (T16.setTop (mkF m 52 #[.val (.int p0), .val (.int (0 : Int32)), .val (.ref A_UNREAD), .val (.int (0 : Int32)), .val (.ref A_UNREAD), .val (.ref A_UNREAD)] [(.ref A_UNREAD)]))
    obtain ⟨cq18, kq18, q18a, q18b, q18c⟩ := isOf hZ eq16 (u4.ext O0.2)
    obtain ⟨_, _, ⟨T18, L18, k18, n18⟩, -, X18, ⟨Lc18, hQ18, l18, y18, z18⟩, st18⟩ := X16.virtualBack hx (y := (⟨"scorewise/Bounds$Trend", "reversed", "()Lscorewise/Bounds$Trend;"⟩ : MethodName)) (z := (⟨"scorewise/Bounds$Trend", "reversed", "()Lscorewise/Bounds$Trend;"⟩ : MethodName)) hown (mvT hZ (hw _ (List.mem_of_getElem? (i := 7) rfl))) (mvT hZ (hw _ (List.mem_of_getElem? (i := 8) rfl))) (notFace_of_selects (args := #[]) (mvT hZ (hw _ (List.mem_of_getElem? (i := 10) rfl)))) (mvT hZ (hw _ (List.mem_of_getElem? (i := 10) rfl))) (mvT hZ (hw _ (List.mem_of_getElem? (i := 9) rfl))) (by decide) (backOf (W := 0) (rm_rev0 l Z a0 hw [] A_UNREAD A_RISING A_FALLING h0 n0 O0 u1 u2 u8 u9) hZ (hw _ (List.mem_of_getElem? (i := 11) rfl)) (hw _ (List.mem_of_getElem? (i := 5) rfl)) (by decide) (by decide)) q18a q18c (g := (mkF m 52 #[.val (.int p0), .val (.int (0 : Int32)), .val (.ref A_UNREAD), .val (.int (0 : Int32)), .val (.ref A_UNREAD), .val (.ref A_UNREAD)] [(.ref A_UNREAD)])) rfl (by rw [hml]; rfl) (Steps.refl _) (argsL := []) (rest := []) (lenOf pd_1 rfl) rfl (by show 2 * 0 + _ ≤ _; exact Nat.le_of_eq rfl) (hb hby at_52) (fun _ _ => ⟨rfl, eq16, (by decide : 0 + 0 ≤ _), (by decide : 0 + 0 ≤ _)⟩)
    dsimp only [Pt.U, Pt.locs, Pt.cells, Pt.slots] at X18 l18 y18 z18 st18 hQ18
    subst l18 y18 z18
    obtain ⟨rfl, Nq18, eq18⟩ := hQ18
    have N19 := Fr.app N17 Nq18
    refine gv (fun t k => st18.trans k) ?_
    show G (T18.setTop (mkF m 55 #[.val (.int p0), .val (.int (0 : Int32)), .val (.ref A_UNREAD), .val (.int (0 : Int32)), .val (.ref A_UNREAD), .val (.ref A_UNREAD)] [(.ref A_UNREAD)]))
    refine gv (fun t k => XS.aloadN X18.here hx rfl (hb hby at_55) rfl rfl k) ?_
    show G (T18.setTop (mkF m 56 #[.val (.int p0), .val (.int (0 : Int32)), .val (.ref A_UNREAD), .val (.int (0 : Int32)), .val (.ref A_UNREAD), .val (.ref A_UNREAD)] [(.ref A_UNREAD), (.ref A_UNREAD)]))
    refine gv (fun t k => Jvm.RoadKit.acmp (g := (mkF m 56 #[.val (.int p0), .val (.int (0 : Int32)), .val (.ref A_UNREAD), .val (.int (0 : Int32)), .val (.ref A_UNREAD), .val (.ref A_UNREAD)] [(.ref A_UNREAD), (.ref A_UNREAD)])) X18 hx rfl rfl rfl (pc0 := 56) (pc' := 59) (same := true) rfl (hb hby at_56) rfl (decide_eq_true rfl) (by decide) (by decide) k) ?_
    show G (T18.setTop (mkF m 59 #[.val (.int p0), .val (.int (0 : Int32)), .val (.ref A_UNREAD), .val (.int (0 : Int32)), .val (.ref A_UNREAD), .val (.ref A_UNREAD)] []))
    refine gv (fun t k => XS.iconst X18.here hx rfl (hb hby at_59) k) ?_
    show G (T18.setTop (mkF m 60 #[.val (.int p0), .val (.int (0 : Int32)), .val (.ref A_UNREAD), .val (.int (0 : Int32)), .val (.ref A_UNREAD), .val (.ref A_UNREAD)] [(.int (1 : Int32))]))
    refine gv (fun t k => XS.goto X18.here hx rfl (pc0 := 60) (pc' := 64) rfl (hb hby at_60) (by decide) (by decide) k) ?_
    show G (T18.setTop (mkF m 64 #[.val (.int p0), .val (.int (0 : Int32)), .val (.ref A_UNREAD), .val (.int (0 : Int32)), .val (.ref A_UNREAD), .val (.ref A_UNREAD)] [(.int (1 : Int32))]))
    refine gf _ (own_ret X18 Bd.notSynchronized (v := some (.int (1 : Int32))) (fun h => by rw [Bd.returns] at h; cases h) ?_ (by decide) (by decide) (fun fs hr => retN X18 hx (t := .boolean) Bd.returns (by simp) (hb hby at_64) hr))
    show Q0 Z p0 A_UNREAD A_RISING A_FALLING A_UNKNOWN h0 n0 _ T18.heap _
    rw [eq18]
    exact ⟨rfl, N19⟩
  · rw [q]
    show G (s₁.setTop (mkF m 4 #[.val (.int p0), .val (.int (1 : Int32)), .unset, .unset, .unset, .unset] []))
    refine gv (fun t k => XS.iloadN X0.here hx rfl (hb hby at_4) rfl k) ?_
    show G (s₁.setTop (mkF m 5 #[.val (.int p0), .val (.int (1 : Int32)), .unset, .unset, .unset, .unset] [(.int (1 : Int32))]))
    obtain ⟨_, _, ⟨T20, L20, k20, n20⟩, -, X20, ⟨Lc20, hQ20, l20, y20, z20⟩, st20⟩ := Jvm.LawKit.callS X0 hx (y := (⟨"scorewise/TrendReversedPinLaw", "pick", "(I)Lscorewise/Bounds$Trend;"⟩ : MethodName)) hown (mvT hZ (hw _ (List.mem_of_getElem? (i := 0) rfl))) (mvT hZ (hw _ (List.mem_of_getElem? (i := 1) rfl))) (mvT hZ (hw _ (List.mem_of_getElem? (i := 2) rfl))) (mvT hZ (hw _ (List.mem_of_getElem? (i := 3) rfl))) (by decide) (backOf (W := 0) (rm_pick1 l Z a0 hw [] A_RISING h0 n0 O0 u1) hZ (hw _ (List.mem_of_getElem? (i := 3) rfl)) (hw _ (List.mem_of_getElem? (i := 2) rfl)) (by decide) (by decide)) (g := (mkF m 5 #[.val (.int p0), .val (.int (1 : Int32)), .unset, .unset, .unset, .unset] [(.int (1 : Int32))])) rfl (by rw [hml]; rfl) (argsL := [(.int (1 : Int32))]) (rest := []) (lenOf pd_0 rfl) rfl (by show 2 * 0 + _ ≤ _; exact Nat.le_of_eq rfl) (hb hby at_5) (fun _ _ => ⟨rfl, e0, (by decide : 0 + 0 ≤ _), (by decide : 0 + 0 ≤ _)⟩)
    dsimp only [Pt.U, Pt.locs, Pt.cells, Pt.slots] at X20 l20 y20 z20 st20 hQ20
    subst l20 y20 z20
    obtain ⟨rfl, Nq20, eq20⟩ := hQ20
    have N21 := Fr.app N0 Nq20
    refine gv st20 ?_
    show G (T20.setTop (mkF m 8 #[.val (.int p0), .val (.int (1 : Int32)), .unset, .unset, .unset, .unset] [(.ref A_RISING)]))
    refine gv (fun t k => XS.astoreN X20.here hx rfl (hb hby at_8) rfl rfl (l' := #[.val (.int p0), .val (.int (1 : Int32)), .val (.ref A_RISING), .unset, .unset, .unset]) rfl k) ?_
    show G (T20.setTop (mkF m 9 #[.val (.int p0), .val (.int (1 : Int32)), .val (.ref A_RISING), .unset, .unset, .unset] []))
    refine gv (fun t k => XS.iloadN X20.here hx rfl (hb hby at_9) rfl k) ?_
    show G (T20.setTop (mkF m 10 #[.val (.int p0), .val (.int (1 : Int32)), .val (.ref A_RISING), .unset, .unset, .unset] [(.int (1 : Int32))]))
    refine gv (fun t k => XS.iconst X20.here hx rfl (hb hby at_10) k) ?_
    show G (T20.setTop (mkF m 11 #[.val (.int p0), .val (.int (1 : Int32)), .val (.ref A_RISING), .unset, .unset, .unset] [(.int (1 : Int32)), (.int (1 : Int32))]))
    refine gv (fun t k => XS.icmpNo X20.here hx rfl (hb hby at_11) rfl (teq (by decide : (1 : Int32) = (1 : Int32))).2 k) ?_
    show G (T20.setTop (mkF m 14 #[.val (.int p0), .val (.int (1 : Int32)), .val (.ref A_RISING), .unset, .unset, .unset] []))
    refine gv (fun t k => XS.iconst X20.here hx rfl (hb hby at_14) k) ?_
    show G (T20.setTop (mkF m 15 #[.val (.int p0), .val (.int (1 : Int32)), .val (.ref A_RISING), .unset, .unset, .unset] [(.int (2 : Int32))]))
    refine gv (fun t k => XS.goto X20.here hx rfl (pc0 := 15) (pc' := 28) rfl (hb hby at_15) (by decide) (by decide) k) ?_
    show G (T20.setTop (mkF m 28 #[.val (.int p0), .val (.int (1 : Int32)), .val (.ref A_RISING), .unset, .unset, .unset] [(.int (2 : Int32))]))
    refine gv (fun t k => XS.istoreN X20.here hx rfl (hb hby at_28) rfl (l' := #[.val (.int p0), .val (.int (1 : Int32)), .val (.ref A_RISING), .val (.int (2 : Int32)), .unset, .unset]) rfl k) ?_
    show G (T20.setTop (mkF m 29 #[.val (.int p0), .val (.int (1 : Int32)), .val (.ref A_RISING), .val (.int (2 : Int32)), .unset, .unset] []))
    refine gv (fun t k => XS.iloadN X20.here hx rfl (hb hby at_29) rfl k) ?_
    show G (T20.setTop (mkF m 30 #[.val (.int p0), .val (.int (1 : Int32)), .val (.ref A_RISING), .val (.int (2 : Int32)), .unset, .unset] [(.int (2 : Int32))]))
    obtain ⟨_, _, ⟨T22, L22, k22, n22⟩, -, X22, ⟨Lc22, hQ22, l22, y22, z22⟩, st22⟩ := Jvm.LawKit.callS X20 hx (y := (⟨"scorewise/TrendReversedPinLaw", "pick", "(I)Lscorewise/Bounds$Trend;"⟩ : MethodName)) hown (mvT hZ (hw _ (List.mem_of_getElem? (i := 0) rfl))) (mvT hZ (hw _ (List.mem_of_getElem? (i := 1) rfl))) (mvT hZ (hw _ (List.mem_of_getElem? (i := 2) rfl))) (mvT hZ (hw _ (List.mem_of_getElem? (i := 3) rfl))) (by decide) (backOf (W := 0) (rm_pick2 l Z a0 hw [] A_FALLING h0 n0 O0 u2) hZ (hw _ (List.mem_of_getElem? (i := 3) rfl)) (hw _ (List.mem_of_getElem? (i := 2) rfl)) (by decide) (by decide)) (g := (mkF m 30 #[.val (.int p0), .val (.int (1 : Int32)), .val (.ref A_RISING), .val (.int (2 : Int32)), .unset, .unset] [(.int (2 : Int32))])) rfl (by rw [hml]; rfl) (argsL := [(.int (2 : Int32))]) (rest := []) (lenOf pd_0 rfl) rfl (by show 2 * 0 + _ ≤ _; exact Nat.le_of_eq rfl) (hb hby at_30) (fun _ _ => ⟨rfl, eq20, (by decide : 0 + 0 ≤ _), (by decide : 0 + 0 ≤ _)⟩)
    dsimp only [Pt.U, Pt.locs, Pt.cells, Pt.slots] at X22 l22 y22 z22 st22 hQ22
    subst l22 y22 z22
    obtain ⟨rfl, Nq22, eq22⟩ := hQ22
    have N23 := Fr.app N21 Nq22
    refine gv st22 ?_
    show G (T22.setTop (mkF m 33 #[.val (.int p0), .val (.int (1 : Int32)), .val (.ref A_RISING), .val (.int (2 : Int32)), .unset, .unset] [(.ref A_FALLING)]))
    refine gv (fun t k => XS.astore X22.here hx rfl (hb hby at_33) rfl rfl (l' := #[.val (.int p0), .val (.int (1 : Int32)), .val (.ref A_RISING), .val (.int (2 : Int32)), .val (.ref A_FALLING), .unset]) rfl k) ?_
    show G (T22.setTop (mkF m 35 #[.val (.int p0), .val (.int (1 : Int32)), .val (.ref A_RISING), .val (.int (2 : Int32)), .val (.ref A_FALLING), .unset] []))
    refine gv (fun t k => XS.aloadN X22.here hx rfl (hb hby at_35) rfl rfl k) ?_
    show G (T22.setTop (mkF m 36 #[.val (.int p0), .val (.int (1 : Int32)), .val (.ref A_RISING), .val (.int (2 : Int32)), .val (.ref A_FALLING), .unset] [(.ref A_RISING)]))
    obtain ⟨cq24, kq24, q24a, q24b, q24c⟩ := isOf hZ eq22 (u5.ext O0.2)
    obtain ⟨_, _, ⟨T24, L24, k24, n24⟩, -, X24, ⟨Lc24, hQ24, l24, y24, z24⟩, st24⟩ := X22.virtualBack hx (y := (⟨"scorewise/Bounds$Trend", "reversed", "()Lscorewise/Bounds$Trend;"⟩ : MethodName)) (z := (⟨"scorewise/Bounds$Trend", "reversed", "()Lscorewise/Bounds$Trend;"⟩ : MethodName)) hown (mvT hZ (hw _ (List.mem_of_getElem? (i := 7) rfl))) (mvT hZ (hw _ (List.mem_of_getElem? (i := 8) rfl))) (notFace_of_selects (args := #[]) (mvT hZ (hw _ (List.mem_of_getElem? (i := 10) rfl)))) (mvT hZ (hw _ (List.mem_of_getElem? (i := 10) rfl))) (mvT hZ (hw _ (List.mem_of_getElem? (i := 9) rfl))) (by decide) (backOf (W := 0) (rm_rev1 l Z a0 hw [] A_RISING A_FALLING h0 n0 O0 u1 u2) hZ (hw _ (List.mem_of_getElem? (i := 11) rfl)) (hw _ (List.mem_of_getElem? (i := 5) rfl)) (by decide) (by decide)) q24a q24c (g := (mkF m 36 #[.val (.int p0), .val (.int (1 : Int32)), .val (.ref A_RISING), .val (.int (2 : Int32)), .val (.ref A_FALLING), .unset] [(.ref A_RISING)])) rfl (by rw [hml]; rfl) (Steps.refl _) (argsL := []) (rest := []) (lenOf pd_1 rfl) rfl (by show 2 * 0 + _ ≤ _; exact Nat.le_of_eq rfl) (hb hby at_36) (fun _ _ => ⟨rfl, eq22, (by decide : 0 + 0 ≤ _), (by decide : 0 + 0 ≤ _)⟩)
    dsimp only [Pt.U, Pt.locs, Pt.cells, Pt.slots] at X24 l24 y24 z24 st24 hQ24
    subst l24 y24 z24
    obtain ⟨rfl, Nq24, eq24⟩ := hQ24
    have N25 := Fr.app N23 Nq24
    refine gv (fun t k => st24.trans k) ?_
    show G (T24.setTop (mkF m 39 #[.val (.int p0), .val (.int (1 : Int32)), .val (.ref A_RISING), .val (.int (2 : Int32)), .val (.ref A_FALLING), .unset] [(.ref A_FALLING)]))
    refine gv (fun t k => XS.astore X24.here hx rfl (hb hby at_39) rfl rfl (l' := #[.val (.int p0), .val (.int (1 : Int32)), .val (.ref A_RISING), .val (.int (2 : Int32)), .val (.ref A_FALLING), .val (.ref A_FALLING)]) rfl k) ?_
    show G (T24.setTop (mkF m 41 #[.val (.int p0), .val (.int (1 : Int32)), .val (.ref A_RISING), .val (.int (2 : Int32)), .val (.ref A_FALLING), .val (.ref A_FALLING)] []))
    refine gv (fun t k => XS.aload X24.here hx rfl (hb hby at_41) rfl rfl k) ?_
    show G (T24.setTop (mkF m 43 #[.val (.int p0), .val (.int (1 : Int32)), .val (.ref A_RISING), .val (.int (2 : Int32)), .val (.ref A_FALLING), .val (.ref A_FALLING)] [(.ref A_FALLING)]))
    refine gv (fun t k => XS.aload X24.here hx rfl (hb hby at_43) rfl rfl k) ?_
    show G (T24.setTop (mkF m 45 #[.val (.int p0), .val (.int (1 : Int32)), .val (.ref A_RISING), .val (.int (2 : Int32)), .val (.ref A_FALLING), .val (.ref A_FALLING)] [(.ref A_FALLING), (.ref A_FALLING)]))
    refine gv (fun t k => Jvm.RoadKit.acmp (g := (mkF m 45 #[.val (.int p0), .val (.int (1 : Int32)), .val (.ref A_RISING), .val (.int (2 : Int32)), .val (.ref A_FALLING), .val (.ref A_FALLING)] [(.ref A_FALLING), (.ref A_FALLING)])) X24 hx rfl rfl rfl (pc0 := 45) (pc' := 50) (same := true) rfl (hb hby at_45) rfl (decide_eq_true rfl) (by decide) (by decide) k) ?_
    show G (T24.setTop (mkF m 50 #[.val (.int p0), .val (.int (1 : Int32)), .val (.ref A_RISING), .val (.int (2 : Int32)), .val (.ref A_FALLING), .val (.ref A_FALLING)] []))
    refine gv (fun t k => XS.aload X24.here hx rfl (hb hby at_50) rfl rfl k) ?_
    show G (T24.setTop (mkF m 52 #[.val (.int p0), .val (.int (1 : Int32)), .val (.ref A_RISING), .val (.int (2 : Int32)), .val (.ref A_FALLING), .val (.ref A_FALLING)] [(.ref A_FALLING)]))
    obtain ⟨cq26, kq26, q26a, q26b, q26c⟩ := isOf hZ eq24 (u6.ext O0.2)
    obtain ⟨_, _, ⟨T26, L26, k26, n26⟩, -, X26, ⟨Lc26, hQ26, l26, y26, z26⟩, st26⟩ := X24.virtualBack hx (y := (⟨"scorewise/Bounds$Trend", "reversed", "()Lscorewise/Bounds$Trend;"⟩ : MethodName)) (z := (⟨"scorewise/Bounds$Trend", "reversed", "()Lscorewise/Bounds$Trend;"⟩ : MethodName)) hown (mvT hZ (hw _ (List.mem_of_getElem? (i := 7) rfl))) (mvT hZ (hw _ (List.mem_of_getElem? (i := 8) rfl))) (notFace_of_selects (args := #[]) (mvT hZ (hw _ (List.mem_of_getElem? (i := 10) rfl)))) (mvT hZ (hw _ (List.mem_of_getElem? (i := 10) rfl))) (mvT hZ (hw _ (List.mem_of_getElem? (i := 9) rfl))) (by decide) (backOf (W := 0) (rm_rev2 l Z a0 hw [] A_RISING A_FALLING h0 n0 O0 u1 u2 u10) hZ (hw _ (List.mem_of_getElem? (i := 11) rfl)) (hw _ (List.mem_of_getElem? (i := 5) rfl)) (by decide) (by decide)) q26a q26c (g := (mkF m 52 #[.val (.int p0), .val (.int (1 : Int32)), .val (.ref A_RISING), .val (.int (2 : Int32)), .val (.ref A_FALLING), .val (.ref A_FALLING)] [(.ref A_FALLING)])) rfl (by rw [hml]; rfl) (Steps.refl _) (argsL := []) (rest := []) (lenOf pd_1 rfl) rfl (by show 2 * 0 + _ ≤ _; exact Nat.le_of_eq rfl) (hb hby at_52) (fun _ _ => ⟨rfl, eq24, (by decide : 0 + 0 ≤ _), (by decide : 0 + 0 ≤ _)⟩)
    dsimp only [Pt.U, Pt.locs, Pt.cells, Pt.slots] at X26 l26 y26 z26 st26 hQ26
    subst l26 y26 z26
    obtain ⟨rfl, Nq26, eq26⟩ := hQ26
    have N27 := Fr.app N25 Nq26
    refine gv (fun t k => st26.trans k) ?_
    show G (T26.setTop (mkF m 55 #[.val (.int p0), .val (.int (1 : Int32)), .val (.ref A_RISING), .val (.int (2 : Int32)), .val (.ref A_FALLING), .val (.ref A_FALLING)] [(.ref A_RISING)]))
    refine gv (fun t k => XS.aloadN X26.here hx rfl (hb hby at_55) rfl rfl k) ?_
    show G (T26.setTop (mkF m 56 #[.val (.int p0), .val (.int (1 : Int32)), .val (.ref A_RISING), .val (.int (2 : Int32)), .val (.ref A_FALLING), .val (.ref A_FALLING)] [(.ref A_RISING), (.ref A_RISING)]))
    refine gv (fun t k => Jvm.RoadKit.acmp (g := (mkF m 56 #[.val (.int p0), .val (.int (1 : Int32)), .val (.ref A_RISING), .val (.int (2 : Int32)), .val (.ref A_FALLING), .val (.ref A_FALLING)] [(.ref A_RISING), (.ref A_RISING)])) X26 hx rfl rfl rfl (pc0 := 56) (pc' := 59) (same := true) rfl (hb hby at_56) rfl (decide_eq_true rfl) (by decide) (by decide) k) ?_
    show G (T26.setTop (mkF m 59 #[.val (.int p0), .val (.int (1 : Int32)), .val (.ref A_RISING), .val (.int (2 : Int32)), .val (.ref A_FALLING), .val (.ref A_FALLING)] []))
    refine gv (fun t k => XS.iconst X26.here hx rfl (hb hby at_59) k) ?_
    show G (T26.setTop (mkF m 60 #[.val (.int p0), .val (.int (1 : Int32)), .val (.ref A_RISING), .val (.int (2 : Int32)), .val (.ref A_FALLING), .val (.ref A_FALLING)] [(.int (1 : Int32))]))
    refine gv (fun t k => XS.goto X26.here hx rfl (pc0 := 60) (pc' := 64) rfl (hb hby at_60) (by decide) (by decide) k) ?_
    show G (T26.setTop (mkF m 64 #[.val (.int p0), .val (.int (1 : Int32)), .val (.ref A_RISING), .val (.int (2 : Int32)), .val (.ref A_FALLING), .val (.ref A_FALLING)] [(.int (1 : Int32))]))
    refine gf _ (own_ret X26 Bd.notSynchronized (v := some (.int (1 : Int32))) (fun h => by rw [Bd.returns] at h; cases h) ?_ (by decide) (by decide) (fun fs hr => retN X26 hx (t := .boolean) Bd.returns (by simp) (hb hby at_64) hr))
    show Q0 Z p0 A_UNREAD A_RISING A_FALLING A_UNKNOWN h0 n0 _ T26.heap _
    rw [eq26]
    exact ⟨rfl, N27⟩
  · rw [q]
    show G (s₁.setTop (mkF m 4 #[.val (.int p0), .val (.int (2 : Int32)), .unset, .unset, .unset, .unset] []))
    refine gv (fun t k => XS.iloadN X0.here hx rfl (hb hby at_4) rfl k) ?_
    show G (s₁.setTop (mkF m 5 #[.val (.int p0), .val (.int (2 : Int32)), .unset, .unset, .unset, .unset] [(.int (2 : Int32))]))
    obtain ⟨_, _, ⟨T28, L28, k28, n28⟩, -, X28, ⟨Lc28, hQ28, l28, y28, z28⟩, st28⟩ := Jvm.LawKit.callS X0 hx (y := (⟨"scorewise/TrendReversedPinLaw", "pick", "(I)Lscorewise/Bounds$Trend;"⟩ : MethodName)) hown (mvT hZ (hw _ (List.mem_of_getElem? (i := 0) rfl))) (mvT hZ (hw _ (List.mem_of_getElem? (i := 1) rfl))) (mvT hZ (hw _ (List.mem_of_getElem? (i := 2) rfl))) (mvT hZ (hw _ (List.mem_of_getElem? (i := 3) rfl))) (by decide) (backOf (W := 0) (rm_pick2 l Z a0 hw [] A_FALLING h0 n0 O0 u2) hZ (hw _ (List.mem_of_getElem? (i := 3) rfl)) (hw _ (List.mem_of_getElem? (i := 2) rfl)) (by decide) (by decide)) (g := (mkF m 5 #[.val (.int p0), .val (.int (2 : Int32)), .unset, .unset, .unset, .unset] [(.int (2 : Int32))])) rfl (by rw [hml]; rfl) (argsL := [(.int (2 : Int32))]) (rest := []) (lenOf pd_0 rfl) rfl (by show 2 * 0 + _ ≤ _; exact Nat.le_of_eq rfl) (hb hby at_5) (fun _ _ => ⟨rfl, e0, (by decide : 0 + 0 ≤ _), (by decide : 0 + 0 ≤ _)⟩)
    dsimp only [Pt.U, Pt.locs, Pt.cells, Pt.slots] at X28 l28 y28 z28 st28 hQ28
    subst l28 y28 z28
    obtain ⟨rfl, Nq28, eq28⟩ := hQ28
    have N29 := Fr.app N0 Nq28
    refine gv st28 ?_
    show G (T28.setTop (mkF m 8 #[.val (.int p0), .val (.int (2 : Int32)), .unset, .unset, .unset, .unset] [(.ref A_FALLING)]))
    refine gv (fun t k => XS.astoreN X28.here hx rfl (hb hby at_8) rfl rfl (l' := #[.val (.int p0), .val (.int (2 : Int32)), .val (.ref A_FALLING), .unset, .unset, .unset]) rfl k) ?_
    show G (T28.setTop (mkF m 9 #[.val (.int p0), .val (.int (2 : Int32)), .val (.ref A_FALLING), .unset, .unset, .unset] []))
    refine gv (fun t k => XS.iloadN X28.here hx rfl (hb hby at_9) rfl k) ?_
    show G (T28.setTop (mkF m 10 #[.val (.int p0), .val (.int (2 : Int32)), .val (.ref A_FALLING), .unset, .unset, .unset] [(.int (2 : Int32))]))
    refine gv (fun t k => XS.iconst X28.here hx rfl (hb hby at_10) k) ?_
    show G (T28.setTop (mkF m 11 #[.val (.int p0), .val (.int (2 : Int32)), .val (.ref A_FALLING), .unset, .unset, .unset] [(.int (1 : Int32)), (.int (2 : Int32))]))
    refine gv (fun t k => XS.icmpYes X28.here hx rfl (pc0 := 11) (pc' := 18) rfl (hb hby at_11) rfl (feq (by decide : ¬ ((2 : Int32) = (1 : Int32)))).2 (by decide) (by decide) k) ?_
    show G (T28.setTop (mkF m 18 #[.val (.int p0), .val (.int (2 : Int32)), .val (.ref A_FALLING), .unset, .unset, .unset] []))
    refine gv (fun t k => XS.iloadN X28.here hx rfl (hb hby at_18) rfl k) ?_
    show G (T28.setTop (mkF m 19 #[.val (.int p0), .val (.int (2 : Int32)), .val (.ref A_FALLING), .unset, .unset, .unset] [(.int (2 : Int32))]))
    refine gv (fun t k => XS.iconst X28.here hx rfl (hb hby at_19) k) ?_
    show G (T28.setTop (mkF m 20 #[.val (.int p0), .val (.int (2 : Int32)), .val (.ref A_FALLING), .unset, .unset, .unset] [(.int (2 : Int32)), (.int (2 : Int32))]))
    refine gv (fun t k => XS.icmpNo X28.here hx rfl (hb hby at_20) rfl (teq (by decide : (2 : Int32) = (2 : Int32))).2 k) ?_
    show G (T28.setTop (mkF m 23 #[.val (.int p0), .val (.int (2 : Int32)), .val (.ref A_FALLING), .unset, .unset, .unset] []))
    refine gv (fun t k => XS.iconst X28.here hx rfl (hb hby at_23) k) ?_
    show G (T28.setTop (mkF m 24 #[.val (.int p0), .val (.int (2 : Int32)), .val (.ref A_FALLING), .unset, .unset, .unset] [(.int (1 : Int32))]))
    refine gv (fun t k => XS.goto X28.here hx rfl (pc0 := 24) (pc' := 28) rfl (hb hby at_24) (by decide) (by decide) k) ?_
    show G (T28.setTop (mkF m 28 #[.val (.int p0), .val (.int (2 : Int32)), .val (.ref A_FALLING), .unset, .unset, .unset] [(.int (1 : Int32))]))
    refine gv (fun t k => XS.istoreN X28.here hx rfl (hb hby at_28) rfl (l' := #[.val (.int p0), .val (.int (2 : Int32)), .val (.ref A_FALLING), .val (.int (1 : Int32)), .unset, .unset]) rfl k) ?_
    show G (T28.setTop (mkF m 29 #[.val (.int p0), .val (.int (2 : Int32)), .val (.ref A_FALLING), .val (.int (1 : Int32)), .unset, .unset] []))
    refine gv (fun t k => XS.iloadN X28.here hx rfl (hb hby at_29) rfl k) ?_
    show G (T28.setTop (mkF m 30 #[.val (.int p0), .val (.int (2 : Int32)), .val (.ref A_FALLING), .val (.int (1 : Int32)), .unset, .unset] [(.int (1 : Int32))]))
    obtain ⟨_, _, ⟨T30, L30, k30, n30⟩, -, X30, ⟨Lc30, hQ30, l30, y30, z30⟩, st30⟩ := Jvm.LawKit.callS X28 hx (y := (⟨"scorewise/TrendReversedPinLaw", "pick", "(I)Lscorewise/Bounds$Trend;"⟩ : MethodName)) hown (mvT hZ (hw _ (List.mem_of_getElem? (i := 0) rfl))) (mvT hZ (hw _ (List.mem_of_getElem? (i := 1) rfl))) (mvT hZ (hw _ (List.mem_of_getElem? (i := 2) rfl))) (mvT hZ (hw _ (List.mem_of_getElem? (i := 3) rfl))) (by decide) (backOf (W := 0) (rm_pick1 l Z a0 hw [] A_RISING h0 n0 O0 u1) hZ (hw _ (List.mem_of_getElem? (i := 3) rfl)) (hw _ (List.mem_of_getElem? (i := 2) rfl)) (by decide) (by decide)) (g := (mkF m 30 #[.val (.int p0), .val (.int (2 : Int32)), .val (.ref A_FALLING), .val (.int (1 : Int32)), .unset, .unset] [(.int (1 : Int32))])) rfl (by rw [hml]; rfl) (argsL := [(.int (1 : Int32))]) (rest := []) (lenOf pd_0 rfl) rfl (by show 2 * 0 + _ ≤ _; exact Nat.le_of_eq rfl) (hb hby at_30) (fun _ _ => ⟨rfl, eq28, (by decide : 0 + 0 ≤ _), (by decide : 0 + 0 ≤ _)⟩)
    dsimp only [Pt.U, Pt.locs, Pt.cells, Pt.slots] at X30 l30 y30 z30 st30 hQ30
    subst l30 y30 z30
    obtain ⟨rfl, Nq30, eq30⟩ := hQ30
    have N31 := Fr.app N29 Nq30
    refine gv st30 ?_
    show G (T30.setTop (mkF m 33 #[.val (.int p0), .val (.int (2 : Int32)), .val (.ref A_FALLING), .val (.int (1 : Int32)), .unset, .unset] [(.ref A_RISING)]))
    refine gv (fun t k => XS.astore X30.here hx rfl (hb hby at_33) rfl rfl (l' := #[.val (.int p0), .val (.int (2 : Int32)), .val (.ref A_FALLING), .val (.int (1 : Int32)), .val (.ref A_RISING), .unset]) rfl k) ?_
    show G (T30.setTop (mkF m 35 #[.val (.int p0), .val (.int (2 : Int32)), .val (.ref A_FALLING), .val (.int (1 : Int32)), .val (.ref A_RISING), .unset] []))
    refine gv (fun t k => XS.aloadN X30.here hx rfl (hb hby at_35) rfl rfl k) ?_
    show G (T30.setTop (mkF m 36 #[.val (.int p0), .val (.int (2 : Int32)), .val (.ref A_FALLING), .val (.int (1 : Int32)), .val (.ref A_RISING), .unset] [(.ref A_FALLING)]))
    obtain ⟨cq32, kq32, q32a, q32b, q32c⟩ := isOf hZ eq30 (u6.ext O0.2)
    obtain ⟨_, _, ⟨T32, L32, k32, n32⟩, -, X32, ⟨Lc32, hQ32, l32, y32, z32⟩, st32⟩ := X30.virtualBack hx (y := (⟨"scorewise/Bounds$Trend", "reversed", "()Lscorewise/Bounds$Trend;"⟩ : MethodName)) (z := (⟨"scorewise/Bounds$Trend", "reversed", "()Lscorewise/Bounds$Trend;"⟩ : MethodName)) hown (mvT hZ (hw _ (List.mem_of_getElem? (i := 7) rfl))) (mvT hZ (hw _ (List.mem_of_getElem? (i := 8) rfl))) (notFace_of_selects (args := #[]) (mvT hZ (hw _ (List.mem_of_getElem? (i := 10) rfl)))) (mvT hZ (hw _ (List.mem_of_getElem? (i := 10) rfl))) (mvT hZ (hw _ (List.mem_of_getElem? (i := 9) rfl))) (by decide) (backOf (W := 0) (rm_rev2 l Z a0 hw [] A_RISING A_FALLING h0 n0 O0 u1 u2 u10) hZ (hw _ (List.mem_of_getElem? (i := 11) rfl)) (hw _ (List.mem_of_getElem? (i := 5) rfl)) (by decide) (by decide)) q32a q32c (g := (mkF m 36 #[.val (.int p0), .val (.int (2 : Int32)), .val (.ref A_FALLING), .val (.int (1 : Int32)), .val (.ref A_RISING), .unset] [(.ref A_FALLING)])) rfl (by rw [hml]; rfl) (Steps.refl _) (argsL := []) (rest := []) (lenOf pd_1 rfl) rfl (by show 2 * 0 + _ ≤ _; exact Nat.le_of_eq rfl) (hb hby at_36) (fun _ _ => ⟨rfl, eq30, (by decide : 0 + 0 ≤ _), (by decide : 0 + 0 ≤ _)⟩)
    dsimp only [Pt.U, Pt.locs, Pt.cells, Pt.slots] at X32 l32 y32 z32 st32 hQ32
    subst l32 y32 z32
    obtain ⟨rfl, Nq32, eq32⟩ := hQ32
    have N33 := Fr.app N31 Nq32
    refine gv (fun t k => st32.trans k) ?_
    show G (T32.setTop (mkF m 39 #[.val (.int p0), .val (.int (2 : Int32)), .val (.ref A_FALLING), .val (.int (1 : Int32)), .val (.ref A_RISING), .unset] [(.ref A_RISING)]))
    refine gv (fun t k => XS.astore X32.here hx rfl (hb hby at_39) rfl rfl (l' := #[.val (.int p0), .val (.int (2 : Int32)), .val (.ref A_FALLING), .val (.int (1 : Int32)), .val (.ref A_RISING), .val (.ref A_RISING)]) rfl k) ?_
    show G (T32.setTop (mkF m 41 #[.val (.int p0), .val (.int (2 : Int32)), .val (.ref A_FALLING), .val (.int (1 : Int32)), .val (.ref A_RISING), .val (.ref A_RISING)] []))
    refine gv (fun t k => XS.aload X32.here hx rfl (hb hby at_41) rfl rfl k) ?_
    show G (T32.setTop (mkF m 43 #[.val (.int p0), .val (.int (2 : Int32)), .val (.ref A_FALLING), .val (.int (1 : Int32)), .val (.ref A_RISING), .val (.ref A_RISING)] [(.ref A_RISING)]))
    refine gv (fun t k => XS.aload X32.here hx rfl (hb hby at_43) rfl rfl k) ?_
    show G (T32.setTop (mkF m 45 #[.val (.int p0), .val (.int (2 : Int32)), .val (.ref A_FALLING), .val (.int (1 : Int32)), .val (.ref A_RISING), .val (.ref A_RISING)] [(.ref A_RISING), (.ref A_RISING)]))
    refine gv (fun t k => Jvm.RoadKit.acmp (g := (mkF m 45 #[.val (.int p0), .val (.int (2 : Int32)), .val (.ref A_FALLING), .val (.int (1 : Int32)), .val (.ref A_RISING), .val (.ref A_RISING)] [(.ref A_RISING), (.ref A_RISING)])) X32 hx rfl rfl rfl (pc0 := 45) (pc' := 50) (same := true) rfl (hb hby at_45) rfl (decide_eq_true rfl) (by decide) (by decide) k) ?_
    show G (T32.setTop (mkF m 50 #[.val (.int p0), .val (.int (2 : Int32)), .val (.ref A_FALLING), .val (.int (1 : Int32)), .val (.ref A_RISING), .val (.ref A_RISING)] []))
    refine gv (fun t k => XS.aload X32.here hx rfl (hb hby at_50) rfl rfl k) ?_
    show G (T32.setTop (mkF m 52 #[.val (.int p0), .val (.int (2 : Int32)), .val (.ref A_FALLING), .val (.int (1 : Int32)), .val (.ref A_RISING), .val (.ref A_RISING)] [(.ref A_RISING)]))
    obtain ⟨cq34, kq34, q34a, q34b, q34c⟩ := isOf hZ eq32 (u5.ext O0.2)
    obtain ⟨_, _, ⟨T34, L34, k34, n34⟩, -, X34, ⟨Lc34, hQ34, l34, y34, z34⟩, st34⟩ := X32.virtualBack hx (y := (⟨"scorewise/Bounds$Trend", "reversed", "()Lscorewise/Bounds$Trend;"⟩ : MethodName)) (z := (⟨"scorewise/Bounds$Trend", "reversed", "()Lscorewise/Bounds$Trend;"⟩ : MethodName)) hown (mvT hZ (hw _ (List.mem_of_getElem? (i := 7) rfl))) (mvT hZ (hw _ (List.mem_of_getElem? (i := 8) rfl))) (notFace_of_selects (args := #[]) (mvT hZ (hw _ (List.mem_of_getElem? (i := 10) rfl)))) (mvT hZ (hw _ (List.mem_of_getElem? (i := 10) rfl))) (mvT hZ (hw _ (List.mem_of_getElem? (i := 9) rfl))) (by decide) (backOf (W := 0) (rm_rev1 l Z a0 hw [] A_RISING A_FALLING h0 n0 O0 u1 u2) hZ (hw _ (List.mem_of_getElem? (i := 11) rfl)) (hw _ (List.mem_of_getElem? (i := 5) rfl)) (by decide) (by decide)) q34a q34c (g := (mkF m 52 #[.val (.int p0), .val (.int (2 : Int32)), .val (.ref A_FALLING), .val (.int (1 : Int32)), .val (.ref A_RISING), .val (.ref A_RISING)] [(.ref A_RISING)])) rfl (by rw [hml]; rfl) (Steps.refl _) (argsL := []) (rest := []) (lenOf pd_1 rfl) rfl (by show 2 * 0 + _ ≤ _; exact Nat.le_of_eq rfl) (hb hby at_52) (fun _ _ => ⟨rfl, eq32, (by decide : 0 + 0 ≤ _), (by decide : 0 + 0 ≤ _)⟩)
    dsimp only [Pt.U, Pt.locs, Pt.cells, Pt.slots] at X34 l34 y34 z34 st34 hQ34
    subst l34 y34 z34
    obtain ⟨rfl, Nq34, eq34⟩ := hQ34
    have N35 := Fr.app N33 Nq34
    refine gv (fun t k => st34.trans k) ?_
    show G (T34.setTop (mkF m 55 #[.val (.int p0), .val (.int (2 : Int32)), .val (.ref A_FALLING), .val (.int (1 : Int32)), .val (.ref A_RISING), .val (.ref A_RISING)] [(.ref A_FALLING)]))
    refine gv (fun t k => XS.aloadN X34.here hx rfl (hb hby at_55) rfl rfl k) ?_
    show G (T34.setTop (mkF m 56 #[.val (.int p0), .val (.int (2 : Int32)), .val (.ref A_FALLING), .val (.int (1 : Int32)), .val (.ref A_RISING), .val (.ref A_RISING)] [(.ref A_FALLING), (.ref A_FALLING)]))
    refine gv (fun t k => Jvm.RoadKit.acmp (g := (mkF m 56 #[.val (.int p0), .val (.int (2 : Int32)), .val (.ref A_FALLING), .val (.int (1 : Int32)), .val (.ref A_RISING), .val (.ref A_RISING)] [(.ref A_FALLING), (.ref A_FALLING)])) X34 hx rfl rfl rfl (pc0 := 56) (pc' := 59) (same := true) rfl (hb hby at_56) rfl (decide_eq_true rfl) (by decide) (by decide) k) ?_
    show G (T34.setTop (mkF m 59 #[.val (.int p0), .val (.int (2 : Int32)), .val (.ref A_FALLING), .val (.int (1 : Int32)), .val (.ref A_RISING), .val (.ref A_RISING)] []))
    refine gv (fun t k => XS.iconst X34.here hx rfl (hb hby at_59) k) ?_
    show G (T34.setTop (mkF m 60 #[.val (.int p0), .val (.int (2 : Int32)), .val (.ref A_FALLING), .val (.int (1 : Int32)), .val (.ref A_RISING), .val (.ref A_RISING)] [(.int (1 : Int32))]))
    refine gv (fun t k => XS.goto X34.here hx rfl (pc0 := 60) (pc' := 64) rfl (hb hby at_60) (by decide) (by decide) k) ?_
    show G (T34.setTop (mkF m 64 #[.val (.int p0), .val (.int (2 : Int32)), .val (.ref A_FALLING), .val (.int (1 : Int32)), .val (.ref A_RISING), .val (.ref A_RISING)] [(.int (1 : Int32))]))
    refine gf _ (own_ret X34 Bd.notSynchronized (v := some (.int (1 : Int32))) (fun h => by rw [Bd.returns] at h; cases h) ?_ (by decide) (by decide) (fun fs hr => retN X34 hx (t := .boolean) Bd.returns (by simp) (hb hby at_64) hr))
    show Q0 Z p0 A_UNREAD A_RISING A_FALLING A_UNKNOWN h0 n0 _ T34.heap _
    rw [eq34]
    exact ⟨rfl, N35⟩
  · rw [q]
    show G (s₁.setTop (mkF m 4 #[.val (.int p0), .val (.int (3 : Int32)), .unset, .unset, .unset, .unset] []))
    refine gv (fun t k => XS.iloadN X0.here hx rfl (hb hby at_4) rfl k) ?_
    show G (s₁.setTop (mkF m 5 #[.val (.int p0), .val (.int (3 : Int32)), .unset, .unset, .unset, .unset] [(.int (3 : Int32))]))
    obtain ⟨_, _, ⟨T36, L36, k36, n36⟩, -, X36, ⟨Lc36, hQ36, l36, y36, z36⟩, st36⟩ := Jvm.LawKit.callS X0 hx (y := (⟨"scorewise/TrendReversedPinLaw", "pick", "(I)Lscorewise/Bounds$Trend;"⟩ : MethodName)) hown (mvT hZ (hw _ (List.mem_of_getElem? (i := 0) rfl))) (mvT hZ (hw _ (List.mem_of_getElem? (i := 1) rfl))) (mvT hZ (hw _ (List.mem_of_getElem? (i := 2) rfl))) (mvT hZ (hw _ (List.mem_of_getElem? (i := 3) rfl))) (by decide) (backOf (W := 0) (rm_pick3 l Z a0 hw [] A_UNKNOWN h0 n0 O0 u3) hZ (hw _ (List.mem_of_getElem? (i := 3) rfl)) (hw _ (List.mem_of_getElem? (i := 2) rfl)) (by decide) (by decide)) (g := (mkF m 5 #[.val (.int p0), .val (.int (3 : Int32)), .unset, .unset, .unset, .unset] [(.int (3 : Int32))])) rfl (by rw [hml]; rfl) (argsL := [(.int (3 : Int32))]) (rest := []) (lenOf pd_0 rfl) rfl (by show 2 * 0 + _ ≤ _; exact Nat.le_of_eq rfl) (hb hby at_5) (fun _ _ => ⟨rfl, e0, (by decide : 0 + 0 ≤ _), (by decide : 0 + 0 ≤ _)⟩)
    dsimp only [Pt.U, Pt.locs, Pt.cells, Pt.slots] at X36 l36 y36 z36 st36 hQ36
    subst l36 y36 z36
    obtain ⟨rfl, Nq36, eq36⟩ := hQ36
    have N37 := Fr.app N0 Nq36
    refine gv st36 ?_
    show G (T36.setTop (mkF m 8 #[.val (.int p0), .val (.int (3 : Int32)), .unset, .unset, .unset, .unset] [(.ref A_UNKNOWN)]))
    refine gv (fun t k => XS.astoreN X36.here hx rfl (hb hby at_8) rfl rfl (l' := #[.val (.int p0), .val (.int (3 : Int32)), .val (.ref A_UNKNOWN), .unset, .unset, .unset]) rfl k) ?_
    show G (T36.setTop (mkF m 9 #[.val (.int p0), .val (.int (3 : Int32)), .val (.ref A_UNKNOWN), .unset, .unset, .unset] []))
    refine gv (fun t k => XS.iloadN X36.here hx rfl (hb hby at_9) rfl k) ?_
    show G (T36.setTop (mkF m 10 #[.val (.int p0), .val (.int (3 : Int32)), .val (.ref A_UNKNOWN), .unset, .unset, .unset] [(.int (3 : Int32))]))
    refine gv (fun t k => XS.iconst X36.here hx rfl (hb hby at_10) k) ?_
    show G (T36.setTop (mkF m 11 #[.val (.int p0), .val (.int (3 : Int32)), .val (.ref A_UNKNOWN), .unset, .unset, .unset] [(.int (1 : Int32)), (.int (3 : Int32))]))
    refine gv (fun t k => XS.icmpYes X36.here hx rfl (pc0 := 11) (pc' := 18) rfl (hb hby at_11) rfl (feq (by decide : ¬ ((3 : Int32) = (1 : Int32)))).2 (by decide) (by decide) k) ?_
    show G (T36.setTop (mkF m 18 #[.val (.int p0), .val (.int (3 : Int32)), .val (.ref A_UNKNOWN), .unset, .unset, .unset] []))
    refine gv (fun t k => XS.iloadN X36.here hx rfl (hb hby at_18) rfl k) ?_
    show G (T36.setTop (mkF m 19 #[.val (.int p0), .val (.int (3 : Int32)), .val (.ref A_UNKNOWN), .unset, .unset, .unset] [(.int (3 : Int32))]))
    refine gv (fun t k => XS.iconst X36.here hx rfl (hb hby at_19) k) ?_
    show G (T36.setTop (mkF m 20 #[.val (.int p0), .val (.int (3 : Int32)), .val (.ref A_UNKNOWN), .unset, .unset, .unset] [(.int (2 : Int32)), (.int (3 : Int32))]))
    refine gv (fun t k => XS.icmpYes X36.here hx rfl (pc0 := 20) (pc' := 27) rfl (hb hby at_20) rfl (feq (by decide : ¬ ((3 : Int32) = (2 : Int32)))).2 (by decide) (by decide) k) ?_
    show G (T36.setTop (mkF m 27 #[.val (.int p0), .val (.int (3 : Int32)), .val (.ref A_UNKNOWN), .unset, .unset, .unset] []))
    refine gv (fun t k => XS.iloadN X36.here hx rfl (hb hby at_27) rfl k) ?_
    show G (T36.setTop (mkF m 28 #[.val (.int p0), .val (.int (3 : Int32)), .val (.ref A_UNKNOWN), .unset, .unset, .unset] [(.int (3 : Int32))]))
    refine gv (fun t k => XS.istoreN X36.here hx rfl (hb hby at_28) rfl (l' := #[.val (.int p0), .val (.int (3 : Int32)), .val (.ref A_UNKNOWN), .val (.int (3 : Int32)), .unset, .unset]) rfl k) ?_
    show G (T36.setTop (mkF m 29 #[.val (.int p0), .val (.int (3 : Int32)), .val (.ref A_UNKNOWN), .val (.int (3 : Int32)), .unset, .unset] []))
    refine gv (fun t k => XS.iloadN X36.here hx rfl (hb hby at_29) rfl k) ?_
    show G (T36.setTop (mkF m 30 #[.val (.int p0), .val (.int (3 : Int32)), .val (.ref A_UNKNOWN), .val (.int (3 : Int32)), .unset, .unset] [(.int (3 : Int32))]))
    obtain ⟨_, _, ⟨T38, L38, k38, n38⟩, -, X38, ⟨Lc38, hQ38, l38, y38, z38⟩, st38⟩ := Jvm.LawKit.callS X36 hx (y := (⟨"scorewise/TrendReversedPinLaw", "pick", "(I)Lscorewise/Bounds$Trend;"⟩ : MethodName)) hown (mvT hZ (hw _ (List.mem_of_getElem? (i := 0) rfl))) (mvT hZ (hw _ (List.mem_of_getElem? (i := 1) rfl))) (mvT hZ (hw _ (List.mem_of_getElem? (i := 2) rfl))) (mvT hZ (hw _ (List.mem_of_getElem? (i := 3) rfl))) (by decide) (backOf (W := 0) (rm_pick3 l Z a0 hw [] A_UNKNOWN h0 n0 O0 u3) hZ (hw _ (List.mem_of_getElem? (i := 3) rfl)) (hw _ (List.mem_of_getElem? (i := 2) rfl)) (by decide) (by decide)) (g := (mkF m 30 #[.val (.int p0), .val (.int (3 : Int32)), .val (.ref A_UNKNOWN), .val (.int (3 : Int32)), .unset, .unset] [(.int (3 : Int32))])) rfl (by rw [hml]; rfl) (argsL := [(.int (3 : Int32))]) (rest := []) (lenOf pd_0 rfl) rfl (by show 2 * 0 + _ ≤ _; exact Nat.le_of_eq rfl) (hb hby at_30) (fun _ _ => ⟨rfl, eq36, (by decide : 0 + 0 ≤ _), (by decide : 0 + 0 ≤ _)⟩)
    dsimp only [Pt.U, Pt.locs, Pt.cells, Pt.slots] at X38 l38 y38 z38 st38 hQ38
    subst l38 y38 z38
    obtain ⟨rfl, Nq38, eq38⟩ := hQ38
    have N39 := Fr.app N37 Nq38
    refine gv st38 ?_
    show G (T38.setTop (mkF m 33 #[.val (.int p0), .val (.int (3 : Int32)), .val (.ref A_UNKNOWN), .val (.int (3 : Int32)), .unset, .unset] [(.ref A_UNKNOWN)]))
    refine gv (fun t k => XS.astore X38.here hx rfl (hb hby at_33) rfl rfl (l' := #[.val (.int p0), .val (.int (3 : Int32)), .val (.ref A_UNKNOWN), .val (.int (3 : Int32)), .val (.ref A_UNKNOWN), .unset]) rfl k) ?_
    show G (T38.setTop (mkF m 35 #[.val (.int p0), .val (.int (3 : Int32)), .val (.ref A_UNKNOWN), .val (.int (3 : Int32)), .val (.ref A_UNKNOWN), .unset] []))
    refine gv (fun t k => XS.aloadN X38.here hx rfl (hb hby at_35) rfl rfl k) ?_
    show G (T38.setTop (mkF m 36 #[.val (.int p0), .val (.int (3 : Int32)), .val (.ref A_UNKNOWN), .val (.int (3 : Int32)), .val (.ref A_UNKNOWN), .unset] [(.ref A_UNKNOWN)]))
    obtain ⟨cq40, kq40, q40a, q40b, q40c⟩ := isOf hZ eq38 (u7.ext O0.2)
    obtain ⟨_, _, ⟨T40, L40, k40, n40⟩, -, X40, ⟨Lc40, hQ40, l40, y40, z40⟩, st40⟩ := X38.virtualBack hx (y := (⟨"scorewise/Bounds$Trend", "reversed", "()Lscorewise/Bounds$Trend;"⟩ : MethodName)) (z := (⟨"scorewise/Bounds$Trend", "reversed", "()Lscorewise/Bounds$Trend;"⟩ : MethodName)) hown (mvT hZ (hw _ (List.mem_of_getElem? (i := 7) rfl))) (mvT hZ (hw _ (List.mem_of_getElem? (i := 8) rfl))) (notFace_of_selects (args := #[]) (mvT hZ (hw _ (List.mem_of_getElem? (i := 10) rfl)))) (mvT hZ (hw _ (List.mem_of_getElem? (i := 10) rfl))) (mvT hZ (hw _ (List.mem_of_getElem? (i := 9) rfl))) (by decide) (backOf (W := 0) (rm_rev0 l Z a0 hw [] A_UNKNOWN A_RISING A_FALLING h0 n0 O0 u1 u2 u11 u12) hZ (hw _ (List.mem_of_getElem? (i := 11) rfl)) (hw _ (List.mem_of_getElem? (i := 5) rfl)) (by decide) (by decide)) q40a q40c (g := (mkF m 36 #[.val (.int p0), .val (.int (3 : Int32)), .val (.ref A_UNKNOWN), .val (.int (3 : Int32)), .val (.ref A_UNKNOWN), .unset] [(.ref A_UNKNOWN)])) rfl (by rw [hml]; rfl) (Steps.refl _) (argsL := []) (rest := []) (lenOf pd_1 rfl) rfl (by show 2 * 0 + _ ≤ _; exact Nat.le_of_eq rfl) (hb hby at_36) (fun _ _ => ⟨rfl, eq38, (by decide : 0 + 0 ≤ _), (by decide : 0 + 0 ≤ _)⟩)
    dsimp only [Pt.U, Pt.locs, Pt.cells, Pt.slots] at X40 l40 y40 z40 st40 hQ40
    subst l40 y40 z40
    obtain ⟨rfl, Nq40, eq40⟩ := hQ40
    have N41 := Fr.app N39 Nq40
    refine gv (fun t k => st40.trans k) ?_
    show G (T40.setTop (mkF m 39 #[.val (.int p0), .val (.int (3 : Int32)), .val (.ref A_UNKNOWN), .val (.int (3 : Int32)), .val (.ref A_UNKNOWN), .unset] [(.ref A_UNKNOWN)]))
    refine gv (fun t k => XS.astore X40.here hx rfl (hb hby at_39) rfl rfl (l' := #[.val (.int p0), .val (.int (3 : Int32)), .val (.ref A_UNKNOWN), .val (.int (3 : Int32)), .val (.ref A_UNKNOWN), .val (.ref A_UNKNOWN)]) rfl k) ?_
    show G (T40.setTop (mkF m 41 #[.val (.int p0), .val (.int (3 : Int32)), .val (.ref A_UNKNOWN), .val (.int (3 : Int32)), .val (.ref A_UNKNOWN), .val (.ref A_UNKNOWN)] []))
    refine gv (fun t k => XS.aload X40.here hx rfl (hb hby at_41) rfl rfl k) ?_
    show G (T40.setTop (mkF m 43 #[.val (.int p0), .val (.int (3 : Int32)), .val (.ref A_UNKNOWN), .val (.int (3 : Int32)), .val (.ref A_UNKNOWN), .val (.ref A_UNKNOWN)] [(.ref A_UNKNOWN)]))
    refine gv (fun t k => XS.aload X40.here hx rfl (hb hby at_43) rfl rfl k) ?_
    show G (T40.setTop (mkF m 45 #[.val (.int p0), .val (.int (3 : Int32)), .val (.ref A_UNKNOWN), .val (.int (3 : Int32)), .val (.ref A_UNKNOWN), .val (.ref A_UNKNOWN)] [(.ref A_UNKNOWN), (.ref A_UNKNOWN)]))
    refine gv (fun t k => Jvm.RoadKit.acmp (g := (mkF m 45 #[.val (.int p0), .val (.int (3 : Int32)), .val (.ref A_UNKNOWN), .val (.int (3 : Int32)), .val (.ref A_UNKNOWN), .val (.ref A_UNKNOWN)] [(.ref A_UNKNOWN), (.ref A_UNKNOWN)])) X40 hx rfl rfl rfl (pc0 := 45) (pc' := 50) (same := true) rfl (hb hby at_45) rfl (decide_eq_true rfl) (by decide) (by decide) k) ?_
    show G (T40.setTop (mkF m 50 #[.val (.int p0), .val (.int (3 : Int32)), .val (.ref A_UNKNOWN), .val (.int (3 : Int32)), .val (.ref A_UNKNOWN), .val (.ref A_UNKNOWN)] []))
    refine gv (fun t k => XS.aload X40.here hx rfl (hb hby at_50) rfl rfl k) ?_
    show G (T40.setTop (mkF m 52 #[.val (.int p0), .val (.int (3 : Int32)), .val (.ref A_UNKNOWN), .val (.int (3 : Int32)), .val (.ref A_UNKNOWN), .val (.ref A_UNKNOWN)] [(.ref A_UNKNOWN)]))
    obtain ⟨cq42, kq42, q42a, q42b, q42c⟩ := isOf hZ eq40 (u7.ext O0.2)
    obtain ⟨_, _, ⟨T42, L42, k42, n42⟩, -, X42, ⟨Lc42, hQ42, l42, y42, z42⟩, st42⟩ := X40.virtualBack hx (y := (⟨"scorewise/Bounds$Trend", "reversed", "()Lscorewise/Bounds$Trend;"⟩ : MethodName)) (z := (⟨"scorewise/Bounds$Trend", "reversed", "()Lscorewise/Bounds$Trend;"⟩ : MethodName)) hown (mvT hZ (hw _ (List.mem_of_getElem? (i := 7) rfl))) (mvT hZ (hw _ (List.mem_of_getElem? (i := 8) rfl))) (notFace_of_selects (args := #[]) (mvT hZ (hw _ (List.mem_of_getElem? (i := 10) rfl)))) (mvT hZ (hw _ (List.mem_of_getElem? (i := 10) rfl))) (mvT hZ (hw _ (List.mem_of_getElem? (i := 9) rfl))) (by decide) (backOf (W := 0) (rm_rev0 l Z a0 hw [] A_UNKNOWN A_RISING A_FALLING h0 n0 O0 u1 u2 u11 u12) hZ (hw _ (List.mem_of_getElem? (i := 11) rfl)) (hw _ (List.mem_of_getElem? (i := 5) rfl)) (by decide) (by decide)) q42a q42c (g := (mkF m 52 #[.val (.int p0), .val (.int (3 : Int32)), .val (.ref A_UNKNOWN), .val (.int (3 : Int32)), .val (.ref A_UNKNOWN), .val (.ref A_UNKNOWN)] [(.ref A_UNKNOWN)])) rfl (by rw [hml]; rfl) (Steps.refl _) (argsL := []) (rest := []) (lenOf pd_1 rfl) rfl (by show 2 * 0 + _ ≤ _; exact Nat.le_of_eq rfl) (hb hby at_52) (fun _ _ => ⟨rfl, eq40, (by decide : 0 + 0 ≤ _), (by decide : 0 + 0 ≤ _)⟩)
    dsimp only [Pt.U, Pt.locs, Pt.cells, Pt.slots] at X42 l42 y42 z42 st42 hQ42
    subst l42 y42 z42
    obtain ⟨rfl, Nq42, eq42⟩ := hQ42
    have N43 := Fr.app N41 Nq42
    refine gv (fun t k => st42.trans k) ?_
    show G (T42.setTop (mkF m 55 #[.val (.int p0), .val (.int (3 : Int32)), .val (.ref A_UNKNOWN), .val (.int (3 : Int32)), .val (.ref A_UNKNOWN), .val (.ref A_UNKNOWN)] [(.ref A_UNKNOWN)]))
    refine gv (fun t k => XS.aloadN X42.here hx rfl (hb hby at_55) rfl rfl k) ?_
    show G (T42.setTop (mkF m 56 #[.val (.int p0), .val (.int (3 : Int32)), .val (.ref A_UNKNOWN), .val (.int (3 : Int32)), .val (.ref A_UNKNOWN), .val (.ref A_UNKNOWN)] [(.ref A_UNKNOWN), (.ref A_UNKNOWN)]))
    refine gv (fun t k => Jvm.RoadKit.acmp (g := (mkF m 56 #[.val (.int p0), .val (.int (3 : Int32)), .val (.ref A_UNKNOWN), .val (.int (3 : Int32)), .val (.ref A_UNKNOWN), .val (.ref A_UNKNOWN)] [(.ref A_UNKNOWN), (.ref A_UNKNOWN)])) X42 hx rfl rfl rfl (pc0 := 56) (pc' := 59) (same := true) rfl (hb hby at_56) rfl (decide_eq_true rfl) (by decide) (by decide) k) ?_
    show G (T42.setTop (mkF m 59 #[.val (.int p0), .val (.int (3 : Int32)), .val (.ref A_UNKNOWN), .val (.int (3 : Int32)), .val (.ref A_UNKNOWN), .val (.ref A_UNKNOWN)] []))
    refine gv (fun t k => XS.iconst X42.here hx rfl (hb hby at_59) k) ?_
    show G (T42.setTop (mkF m 60 #[.val (.int p0), .val (.int (3 : Int32)), .val (.ref A_UNKNOWN), .val (.int (3 : Int32)), .val (.ref A_UNKNOWN), .val (.ref A_UNKNOWN)] [(.int (1 : Int32))]))
    refine gv (fun t k => XS.goto X42.here hx rfl (pc0 := 60) (pc' := 64) rfl (hb hby at_60) (by decide) (by decide) k) ?_
    show G (T42.setTop (mkF m 64 #[.val (.int p0), .val (.int (3 : Int32)), .val (.ref A_UNKNOWN), .val (.int (3 : Int32)), .val (.ref A_UNKNOWN), .val (.ref A_UNKNOWN)] [(.int (1 : Int32))]))
    refine gf _ (own_ret X42 Bd.notSynchronized (v := some (.int (1 : Int32))) (fun h => by rw [Bd.returns] at h; cases h) ?_ (by decide) (by decide) (fun fs hr => retN X42 hx (t := .boolean) Bd.returns (by simp) (hb hby at_64) hr))
    show Q0 Z p0 A_UNREAD A_RISING A_FALLING A_UNKNOWN h0 n0 _ T42.heap _
    rw [eq42]
    exact ⟨rfl, N43⟩
set_option maxRecDepth 65536 in
set_option maxHeartbeats 40000000 in
theorem comes_1 {Post : Tables → Env → Array Value → State → Outcome → State → Prop} (hpost : ∀ tb e args s v u, (limb_1_1.after args s (.returned v) u = true ∧ limb_1_2.after args s (.returned v) u = true ∧ True) → FrameEnd s (.returned v) u (Jvm.fieldLocs frame_1_writes args s ++ Jvm.arrayLocs frame_1_arrays args s ++ Jvm.staticLocs frame_1_statics s) 0 0 → Post tb e args s (.returned v) u) :
    ArmFor flags0 classFile x code maxLocals ret World_1 tables_1 room_1 Calls_1 rest_1 Pre_1 Post := by
  intro l hfl _ _ p e ha hc hk s m args below hf hA hF happ hP
  obtain ⟨hcalls, hrest, hpre⟩ := hP
  obtain ⟨-, -, -, hnamed, -, -, -, hat⟩ := (Spec.applies_iff hf).mp happ
  obtain ⟨hg, hn⟩ := and_e (Cond.before_iff.mp (show (Jvm.Cond.and given_1 narrow_1).before args s = true from hpre))
  obtain ⟨g1, g2⟩ := and_e hg
  obtain ⟨g3, g4⟩ := and_e hn
  obtain ⟨g5, g6⟩ := and_e g4
  obtain ⟨g7, g8⟩ := and_e g6
  obtain ⟨g9, g10⟩ := and_e g8
  obtain ⟨g11, g12⟩ := and_e g10
  obtain ⟨g13, g14⟩ := and_e g12
  obtain ⟨g15, g16⟩ := and_e g14
  obtain ⟨w0, rfl⟩ : ∃ w0 : Value, args = #[w0] := by
    have hs : args.size = 1 := by simpa [Cond.value, given_1] using g1
    obtain ⟨L⟩ := args
    match L, hs with
    | [w0], _ => exact ⟨w0, rfl⟩
  have hw := fun d (hd : d ∈ tables_1) => atoms_spec (ws := Jvm.Cond.code x code maxLocals ret :: tables_1) hat d (List.mem_cons_of_mem _ hd)
  have hfit : Fit s := fun {y c} hc i hi => by
    obtain ⟨ha, rfl⟩ := Array.getElem?_eq_some_iff.mp hc
    have q := List.all_eq_true.mp ((Array.all_eq_true_iff_forall_mem.mp hF) _ (Array.getElem_mem ha)) i (List.mem_range.mpr hi)
    simpa [Array.getElem?_eq_getElem hi] using q
  obtain ⟨i0, ei0⟩ := is_v g2
  obtain rfl : w0 = (.int i0) := Option.some.inj ei0
  obtain ⟨A_UNREAD, ev_UNREAD, E_UNREAD⟩ := own_exa g3
  have S_UNREAD : Sta s s.heap "scorewise/Bounds$Trend" "UNREAD" "Lscorewise/Bounds$Trend;" (.ref A_UNREAD) := Sta.start ev_UNREAD (Or.inr ⟨(hw _ (List.mem_of_getElem? (i := 5) rfl)), (hw _ (List.mem_of_getElem? (i := 6) rfl))⟩)
  obtain ⟨A_RISING, ev_RISING, E_RISING⟩ := own_exa g5
  have S_RISING : Sta s s.heap "scorewise/Bounds$Trend" "RISING" "Lscorewise/Bounds$Trend;" (.ref A_RISING) := Sta.start ev_RISING (Or.inr ⟨(hw _ (List.mem_of_getElem? (i := 5) rfl)), (hw _ (List.mem_of_getElem? (i := 13) rfl))⟩)
  obtain ⟨A_FALLING, ev_FALLING, E_FALLING⟩ := own_exa g11
  have S_FALLING : Sta s s.heap "scorewise/Bounds$Trend" "FALLING" "Lscorewise/Bounds$Trend;" (.ref A_FALLING) := Sta.start ev_FALLING (Or.inr ⟨(hw _ (List.mem_of_getElem? (i := 5) rfl)), (hw _ (List.mem_of_getElem? (i := 15) rfl))⟩)
  obtain ⟨A_UNKNOWN, ev_UNKNOWN, E_UNKNOWN⟩ := own_exa g15
  have S_UNKNOWN : Sta s s.heap "scorewise/Bounds$Trend" "UNKNOWN" "Lscorewise/Bounds$Trend;" (.ref A_UNKNOWN) := Sta.start ev_UNKNOWN (Or.inr ⟨(hw _ (List.mem_of_getElem? (i := 5) rfl)), (hw _ (List.mem_of_getElem? (i := 17) rfl))⟩)
  have F_UNREAD_ordinal := own_fint ev_UNREAD g7
  have F_RISING_ordinal := own_fint ev_RISING g9
  have F_FALLING_ordinal := own_fint ev_FALLING g13
  have F_UNKNOWN_ordinal := own_fint ev_UNKNOWN g16
  obtain ⟨n, o, h1, h2, h3, _, L, rfl, ⟨rfl, N⟩, hq⟩ := rm0 l s _ hw tables_1 i0 A_UNREAD A_RISING A_FALLING A_UNKNOWN s.heap s.heap.size (Old.start s) S_UNREAD S_RISING S_FALLING S_UNKNOWN E_UNREAD E_RISING E_FALLING E_UNKNOWN (Fld.ne F_UNREAD_ordinal F_RISING_ordinal (by simp)) (Fld.ne F_UNREAD_ordinal F_FALLING_ordinal (by simp)) (Fld.ne F_FALLING_ordinal F_RISING_ordinal (by simp)) (Fld.ne F_UNKNOWN_ordinal F_RISING_ordinal (by simp)) (Fld.ne F_UNKNOWN_ordinal F_FALLING_ordinal (by simp)) p e ha hc hk s m _ below hf ((Spec.applies_iff_loose hf).mp happ).1 ⟨rfl, State.Warmed39.refl s, rfl⟩ trivial
  refine ⟨n, _, h1, h2, h3, hpost _ _ _ _ _ _ ⟨Cond.after_iff.mpr rfl, Cond.after_iff.mpr (eq_i res_at (Term.int_eval (1)) rfl), trivial⟩ ⟨hq.1, hq.2.1, (hq.2.2.sift fun y hy => Or.inr (N y hy)).mono (by decide) (by decide)⟩⟩
theorem main_1_1 : Claimed_1_1 := comes_1 fun _ _ _ _ _ _ h hF => ⟨h.1, hF⟩
theorem main_1_2 : Claimed_1_2 := comes_1 fun _ _ _ _ _ _ h hF => ⟨h.2.1, hF⟩
end Jvm.Pilot.@@N@@
namespace Jvm.Pilot.@@N@@
open Jvm Jvm.ClassFile Sem Op Lib Jvm.Free Jvm.Stand Jvm.Pilot.@@N@@.Jvm.D
/-! MADE BY PROGRAM (witnessworld.py) out of the Statement's table words and the real class files: 12 classes; the members and pool entries that the words name. The judged class is class 1, her method 2. -/
namespace start1
open Jvm.ClassFile
def u (s : String) : CpInfo := .utf8 (stringToUtf16 s)
/-- a pool by its gaps: so many unusable entries, then the entry; so many at the end -/
def gap : Nat → List CpInfo → List CpInfo
  | 0, r => r
  | n + 1, r => .unusable :: gap n r
def poolList (es : List (Nat × CpInfo)) (last : Nat) : List CpInfo := es.foldr (fun e r => gap e.1 (e.2 :: r)) (gap last [])
def pool (es : List (Nat × CpInfo)) (last : Nat) : Array CpInfo := ⟨poolList es last⟩
def fileOf (pool : Array CpInfo) (this : Nat) (attrs : Array Attribute := #[]) (ms : Array MethodInfo := #[]) (fl : Nat := 33) (sup : Nat := 0) (ifs : Array Nat := #[]) (fds : Array FieldInfo := #[]) : ClassFile where
  minorVersion := 0
  majorVersion := 65
  constantPool := pool
  accessFlags := fl
  thisClass := this
  superClass := sup
  interfaces := ifs
  fields := fds
  methods := ms
  attributes := attrs
def plain (name : String) (sup : Option ClassId) : Class where
  name := name
  kind := .ordinary
  loader := none
  accessFlags := 33
  super := sup
  interfaces := #[]
  cf := none
  fields := #[]
  methods := #[]
  instanceTypes := #[]
  staticTypes := #[]
  resolved := #[]
  callSites := []
  init := .initialized
  statics := none
  mirror := none

def pool0 : Array CpInfo := pool [(5, u "<init>"), (0, u "()V"), (1, .class_ 10), (1, u "java/lang/Object")] 113

def k0m0 : Method := { name := "<init>", desc := "()V", sig := { parameters := [], returnType := none }, accessFlags := 1, code := none }
/-- java/lang/Object -/
def k0 : Class := { plain "java/lang/Object" none with
  accessFlags := 33
  interfaces := #[]
  cf := some (fileOf pool0 8 #[] #[{ accessFlags := 1, nameIndex := 5, descriptorIndex := 6, attributes := #[] }] 33 0 #[] #[])
  fields := #[]
  methods := #[k0m0]
  instanceTypes := #[]
  staticTypes := #[]
  resolved := Array.replicate 124 none
  statics := none }

def pool1 : Array CpInfo := pool [(2, .class_ 4), (1, u "java/lang/Object"), (0, u "<init>"), (0, u "()V"), (0, .fieldref 8 9), (0, .class_ 10), (0, .nameAndType 11 12), (0, u "scorewise/Bounds$Trend"), (0, u "UNREAD"), (0, u "Lscorewise/Bounds$Trend;"), (0, .fieldref 8 14), (0, .nameAndType 15 12), (0, u "RISING"), (0, .fieldref 8 17), (0, .nameAndType 18 12), (0, u "FALLING"), (0, .fieldref 8 20), (0, .nameAndType 21 12), (0, u "UNKNOWN"), (0, .methodref 23 24), (0, .class_ 25), (0, .nameAndType 26 27), (0, u "scorewise/TrendReversedPinLaw"), (0, u "pick"), (0, u "(I)Lscorewise/Bounds$Trend;"), (0, .methodref 8 29), (0, .nameAndType 30 31), (0, u "reversed"), (0, u "()Lscorewise/Bounds$Trend;"), (3, u "law"), (0, u "(I)Z")] 6

def k1m0 : Method := { name := "<init>", desc := "()V", sig := { parameters := [], returnType := none }, accessFlags := 1, code := none }
def k1c1 : Code := { maxStack := 2, maxLocals := 1, code := method_2_code, exceptionTable := #[], attributes := #[] }
def k1m1 : Method := { name := "pick", desc := "(I)Lscorewise/Bounds$Trend;", sig := { parameters := [.int], returnType := some (.object "scorewise/Bounds$Trend") }, accessFlags := 10, code := some k1c1 }
def k1c2 : Code := { maxStack := 2, maxLocals := 6, code := code, exceptionTable := #[], attributes := #[] }
def k1m2 : Method := { name := "law", desc := "(I)Z", sig := { parameters := [.int], returnType := some .boolean }, accessFlags := 9, code := some k1c2 }
/-- scorewise/TrendReversedPinLaw -/
def k1 : Class := { plain "scorewise/TrendReversedPinLaw" (some 0) with
  accessFlags := 49
  interfaces := #[]
  cf := some (fileOf pool1 23 #[] #[{ accessFlags := 1, nameIndex := 5, descriptorIndex := 6, attributes := #[] }, { accessFlags := 10, nameIndex := 26, descriptorIndex := 27, attributes := #[] }, { accessFlags := 9, nameIndex := 35, descriptorIndex := 36, attributes := #[] }] 49 2 #[] #[])
  fields := #[]
  methods := #[k1m0, k1m1, k1m2]
  instanceTypes := #[]
  staticTypes := #[]
  resolved := Array.replicate 43 none
  statics := none }

def pool2 : Array CpInfo := pool [(1, .class_ 2), (0, u "java/lang/constant/Constable"), (0, .class_ 4), (0, u "java/lang/Object")] 6

/-- java/lang/constant/Constable -/
def k2 : Class := { plain "java/lang/constant/Constable" (some 0) with
  accessFlags := 1537
  interfaces := #[]
  cf := some (fileOf pool2 1 #[] #[] 1537 3 #[] #[])
  fields := #[]
  methods := #[]
  instanceTypes := #[]
  staticTypes := #[]
  resolved := Array.replicate 11 none
  statics := none }

def pool3 : Array CpInfo := pool [(1, .class_ 2), (0, u "java/lang/Comparable"), (0, .class_ 4), (0, u "java/lang/Object")] 7

/-- java/lang/Comparable -/
def k3 : Class := { plain "java/lang/Comparable" (some 0) with
  accessFlags := 1537
  interfaces := #[]
  cf := some (fileOf pool3 1 #[] #[] 1537 3 #[] #[])
  fields := #[]
  methods := #[]
  instanceTypes := #[]
  staticTypes := #[]
  resolved := Array.replicate 12 none
  statics := none }

def pool4 : Array CpInfo := pool [(1, .class_ 2), (0, u "java/io/Serializable"), (0, .class_ 4), (0, u "java/lang/Object")] 2

/-- java/io/Serializable -/
def k4 : Class := { plain "java/io/Serializable" (some 0) with
  accessFlags := 1537
  interfaces := #[]
  cf := some (fileOf pool4 1 #[] #[] 1537 3 #[] #[])
  fields := #[]
  methods := #[]
  instanceTypes := #[]
  staticTypes := #[]
  resolved := Array.replicate 7 none
  statics := none }

def pool5 : Array CpInfo := pool [(2, .class_ 4), (1, u "java/lang/Enum"), (0, u "name"), (0, u "Ljava/lang/String;"), (2, u "ordinal"), (0, u "I"), (1, .class_ 14), (1, u "java/lang/Object"), (4, u "hash"), (86, .class_ 108), (1, u "java/lang/Enum$EnumDesc"), (2, .class_ 112), (0, u "java/lang/constant/Constable"), (0, .class_ 114), (0, u "java/lang/Comparable"), (0, .class_ 116), (0, u "java/io/Serializable")] 87

/-- java/lang/Enum -/
def k5 : Class := { plain "java/lang/Enum" (some 0) with
  accessFlags := 1057
  interfaces := #[2, 3, 4]
  cf := some (fileOf pool5 2 #[.nestMembers #[106]] #[] 1057 12 #[111, 113, 115] #[{ accessFlags := 18, nameIndex := 5, descriptorIndex := 6, attributes := #[] }, { accessFlags := 18, nameIndex := 9, descriptorIndex := 10, attributes := #[] }, { accessFlags := 2, nameIndex := 19, descriptorIndex := 10, attributes := #[] }])
  fields := #[{ name := "name", type := (.object "java/lang/String"), accessFlags := 18, slot := 0, constantValue := 0 }, { name := "ordinal", type := .int, accessFlags := 18, slot := 1, constantValue := 0 }, { name := "hash", type := .int, accessFlags := 2, slot := 2, constantValue := 0 }]
  methods := #[]
  instanceTypes := #[(.object "java/lang/String"), .int, .int]
  staticTypes := #[]
  resolved := Array.replicate 204 none
  statics := none }

def pool6 : Array CpInfo := pool [(1, .class_ 2), (0, u "scorewise/Bounds$Trend"), (2, u "UNREAD"), (0, u "Lscorewise/Bounds$Trend;"), (0, .fieldref 1 8), (0, .nameAndType 9 6), (0, u "RISING"), (0, .fieldref 1 11), (0, .nameAndType 12 6), (0, u "FALLING"), (2, u "UNKNOWN"), (2, u "$VALUES"), (0, u "[Lscorewise/Bounds$Trend;"), (6, .class_ 28), (1, u "java/lang/Enum"), (24, u "reversed"), (0, u "()Lscorewise/Bounds$Trend;"), (26, .class_ 82), (0, u "scorewise/Bounds")] 3

def k6c0 : Code := { maxStack := 2, maxLocals := 1, code := prog_5_method_5_code, exceptionTable := #[], attributes := #[] }
def k6m0 : Method := { name := "reversed", desc := "()Lscorewise/Bounds$Trend;", sig := { parameters := [], returnType := some (.object "scorewise/Bounds$Trend") }, accessFlags := 0, code := some k6c0 }
/-- scorewise/Bounds$Trend -/
def k6 : Class := { plain "scorewise/Bounds$Trend" (some 5) with
  accessFlags := 16432
  interfaces := #[]
  cf := some (fileOf pool6 1 #[.nestHost 81] #[{ accessFlags := 0, nameIndex := 53, descriptorIndex := 54, attributes := #[] }] 16432 26 #[] #[{ accessFlags := 16409, nameIndex := 5, descriptorIndex := 6, attributes := #[] }, { accessFlags := 16409, nameIndex := 9, descriptorIndex := 6, attributes := #[] }, { accessFlags := 16409, nameIndex := 12, descriptorIndex := 6, attributes := #[] }, { accessFlags := 16409, nameIndex := 15, descriptorIndex := 6, attributes := #[] }, { accessFlags := 4122, nameIndex := 18, descriptorIndex := 19, attributes := #[] }])
  fields := #[{ name := "UNREAD", type := (.object "scorewise/Bounds$Trend"), accessFlags := 16409, slot := 0, constantValue := 0 }, { name := "RISING", type := (.object "scorewise/Bounds$Trend"), accessFlags := 16409, slot := 1, constantValue := 0 }, { name := "FALLING", type := (.object "scorewise/Bounds$Trend"), accessFlags := 16409, slot := 2, constantValue := 0 }, { name := "UNKNOWN", type := (.object "scorewise/Bounds$Trend"), accessFlags := 16409, slot := 3, constantValue := 0 }, { name := "$VALUES", type := (.array (.object "scorewise/Bounds$Trend")), accessFlags := 4122, slot := 4, constantValue := 0 }]
  methods := #[k6m0]
  instanceTypes := #[(.object "java/lang/String"), .int, .int]
  staticTypes := #[(.object "scorewise/Bounds$Trend"), (.object "scorewise/Bounds$Trend"), (.object "scorewise/Bounds$Trend"), (.object "scorewise/Bounds$Trend"), (.array (.object "scorewise/Bounds$Trend"))]
  resolved := Array.replicate 86 none
  statics := some 0 }

def pool7 : Array CpInfo := pool [(1, u "java/lang/Cloneable"), (0, .class_ 1), (0, u "java/lang/Object"), (0, .class_ 3)] 3

/-- java/lang/Cloneable -/
def k7 : Class := { plain "java/lang/Cloneable" (some 0) with
  accessFlags := 1537
  interfaces := #[]
  cf := some (fileOf pool7 2 #[] #[] 1537 4 #[] #[])
  fields := #[]
  methods := #[]
  instanceTypes := #[]
  staticTypes := #[]
  resolved := Array.replicate 8 none
  statics := none }

/-- the primitive byte -/
def k8 : Class := { plain "byte" none with kind := .primitive 'B', accessFlags := 0x411 }
/-- [B -/
def k9 : Class := { plain "[B" (some 0) with kind := .array 8 .byte, interfaces := #[7, 4], accessFlags := 1041 }

/-- the primitive int -/
def k10 : Class := { plain "int" none with kind := .primitive 'I', accessFlags := 0x411 }
/-- [I -/
def k11 : Class := { plain "[I" (some 0) with kind := .array 10 .int, interfaces := #[7, 4], accessFlags := 1041 }

def heap : Heap := #[{ cls := 6, slots := #[.ref 1, .ref 2, .ref 3, .ref 4, .null], vm := .statics 6 },
  { cls := 6, slots := #[.null, .int 0, .int 0], vm := .none },
  { cls := 6, slots := #[.null, .int 1, .int 0], vm := .none },
  { cls := 6, slots := #[.null, .int 2, .int 0], vm := .none },
  { cls := 6, slots := #[.null, .int 3, .int 0], vm := .none }]
def classes : Array Class := #[k0, k1, k2, k3, k4, k5, k6, k7, k8, k9, k10, k11]
def interned : List (Array UInt16 × Addr) := []
def slotsUsed : Nat := 17
def theMethod : MethodId := ⟨1, 2⟩
def args0 : Array Value := #[.int 5]
def aboutOver (below : List Frame) : State where
  vm := { classes := classes, interned := interned.toArray }
  heap := heap
  slotsUsed := slotsUsed
  threads := #[{ frames := .invoking theMethod args0 :: below }]
def below0 : List Frame := [.native { method := ⟨0, 0⟩, args := #[] }]
def about1 : State := aboutOver below0
def p0 : Program := .bare "" "" ""
def e0 : Env := launch0.env 0 0 0
theorem w_frames : about1.frames = Frame.invoking theMethod args0 :: below0 := rfl
set_option maxRecDepth 65536 in
theorem w_args : argsFit about1.vm theMethod args0 = true := by decide +kernel
set_option maxRecDepth 65536 in
theorem w_heap : heapFits about1 = true := by decide +kernel
set_option maxRecDepth 65536 in
theorem w_runnable : about1.curStatus? = some .runnable := by decide +kernel
set_option maxRecDepth 65536 in
theorem w_alone : about1.alone = true := by decide +kernel
set_option maxRecDepth 65536 in
theorem w_named : about1.methodNamed? x = some theMethod := by decide +kernel
set_option maxRecDepth 65536 in
theorem w_hears : about1.hears theMethod below0 = true := by decide +kernel
set_option maxRecDepth 65536 in
theorem w_ripe : about1.ripe theMethod args0 below0 = true := by decide +kernel
theorem w_running : about1.status = .running := rfl
set_option maxRecDepth 65536 in
theorem w_room : about1.hasRoom e0.platform room_1 = true :=
  launch0.hasRoom_least _ room_1 (by decide +kernel) (by decide +kernel) (by decide +kernel) (by decide +kernel) (by decide +kernel) (by decide +kernel)
theorem allAtoms_all (ts : List Jvm.Cond) (a : Array Jvm.Value) (st : Jvm.State) : (allAtoms ts).before a st = ts.all (fun c => c.before a st) := by
  induction ts with
  | nil => rfl
  | cons c t ih =>
    show (Jvm.Cond.and c (allAtoms t)).before a st = _
    rw [Jvm.Cond.before_and, ih, List.all_cons]
def words1 : List Jvm.Cond := Jvm.Cond.code x code maxLocals ret :: tables_1
/-- a 'code' word, met by the world's own term for the bytes: nothing is compared byte by byte -/
theorem code_word {y : MethodName} {bytes : ByteArray} {mx : Nat} {rt : Option FieldType} {a : Array Value} {s : State} {m : MethodId} {meth : Method} {c : Code} (h1 : s.methodNamed? y = some m) (h2 : s.vm.method? m = some meth) (h3 : meth.code = some c) (h4 : c.code = bytes)
    (h5 : (c.maxLocals == mx && c.exceptionTable.isEmpty && decide (c.maxStack ≤ mostOperands) && decide (meth.sig.returnType = rt) && !meth.locks && decide (parseMethodDescriptor y.desc = some meth.sig)) = true) : (Jvm.Cond.code y bytes mx rt).before a s = true := by
  simp only [Bool.and_eq_true, beq_iff_eq, Bool.not_eq_true', decide_eq_true_eq] at h5
  obtain ⟨⟨⟨⟨⟨g1, g2⟩, g3⟩, g4⟩, g5⟩, g6⟩ := h5
  simp [Cond.before, Cond.holds, Cond.value, h1, h2, h3, h4, g1, g2, g3, g4, g5, g6]
def isCode : Jvm.Cond → Bool
  | .code _ _ _ _ => true
  | _ => false
theorem all_split {L : List Jvm.Cond} {P : Jvm.Cond → Bool} (h1 : L.all (fun c => isCode c || P c) = true) (h2 : ∀ c ∈ L.filter isCode, P c = true) : L.all P = true := by
  refine List.all_eq_true.mpr fun c hc => ?_
  have h := List.all_eq_true.mp h1 c hc
  rcases Bool.eq_false_or_eq_true (isCode c) with hi | hi
  · exact h2 c (List.mem_filter.mpr ⟨hc, hi⟩)
  · simpa [hi] using h
set_option maxRecDepth 65536 in
theorem w_c0 : (Jvm.Cond.code x code maxLocals ret).before args0 about1 = true := code_word (m := ⟨1, 2⟩) (meth := k1m2) (c := k1c2) (by decide +kernel) rfl rfl rfl (by decide +kernel)
set_option maxRecDepth 65536 in
theorem w_c1 : (Jvm.Cond.code ({ cls := "scorewise/TrendReversedPinLaw", name := "pick", desc := "(I)Lscorewise/Bounds$Trend;" } : Jvm.MethodName) method_2_code (1 : Nat) (Option.some (Jvm.ClassFile.FieldType.object "scorewise/Bounds$Trend"))).before args0 about1 = true := code_word (m := ⟨1, 1⟩) (meth := k1m1) (c := k1c1) (by decide +kernel) rfl rfl rfl (by decide +kernel)
set_option maxRecDepth 65536 in
theorem w_c2 : (Jvm.Cond.code ({ cls := "scorewise/Bounds$Trend", name := "reversed", desc := "()Lscorewise/Bounds$Trend;" } : Jvm.MethodName) prog_5_method_5_code (1 : Nat) (Option.some (Jvm.ClassFile.FieldType.object "scorewise/Bounds$Trend"))).before args0 about1 = true := code_word (m := ⟨6, 0⟩) (meth := k6m0) (c := k6c0) (by decide +kernel) rfl rfl rfl (by decide +kernel)
def codes1 : List Jvm.Cond := [Jvm.Cond.code x code maxLocals ret, Jvm.Cond.code ({ cls := "scorewise/TrendReversedPinLaw", name := "pick", desc := "(I)Lscorewise/Bounds$Trend;" } : Jvm.MethodName) method_2_code (1 : Nat) (Option.some (Jvm.ClassFile.FieldType.object "scorewise/Bounds$Trend")), Jvm.Cond.code ({ cls := "scorewise/Bounds$Trend", name := "reversed", desc := "()Lscorewise/Bounds$Trend;" } : Jvm.MethodName) prog_5_method_5_code (1 : Nat) (Option.some (Jvm.ClassFile.FieldType.object "scorewise/Bounds$Trend"))]
set_option maxRecDepth 65536 in
theorem codes_eq : words1.filter isCode = codes1 := rfl
theorem w_codes : ∀ c ∈ words1.filter isCode, c.before args0 about1 = true := by
  rw [codes_eq]
  intro c hc
  simp only [codes1, List.mem_cons, List.not_mem_nil, or_false] at hc
  rcases hc with rfl | rfl | rfl
  · exact w_c0
  · exact w_c1
  · exact w_c2
set_option maxRecDepth 65536 in
theorem w_t1 : words1.all (fun c => isCode c || c.before args0 about1) = true := by decide +kernel
theorem w_tables : (allAtoms (Jvm.Cond.code x code maxLocals ret :: tables_1)).before args0 about1 = true := by
  rw [allAtoms_all]
  show words1.all (fun c => c.before args0 about1) = true
  refine all_split ?_ w_codes
  rw [w_t1]
set_option maxRecDepth 65536 in
theorem w_case : (Jvm.Cond.and given_1 narrow_1).before args0 about1 = true := by decide +kernel
theorem w_applies : (headSpec (Jvm.Cond.code x code maxLocals ret :: tables_1) room_1).applies x e0.platform about1 = true :=
  (Spec.applies_iff w_frames).mpr ⟨w_running, w_runnable, w_alone, w_named, w_hears, w_ripe, w_room, w_tables⟩
theorem atStart : AtStart classFile x code maxLocals ret World_1 tables_1 room_1 Calls_1 rest_1 Pre_1 launch0 p0 e0 about1 theMethod args0 below0 :=
  ⟨lists_1, trivial, launch0.admits_env _ _ _, launch0.least_env, fairChoices_fair.cas, fairChoices_fair.clock, w_frames, w_args, w_heap, w_applies, trivial, trivial, w_case⟩
end start1
theorem witness_1 : WitnessClaimed_1 := ⟨start1.p0, start1.e0, start1.about1, start1.theMethod, start1.args0, start1.below0, start1.atStart⟩
end Jvm.Pilot.@@N@@
