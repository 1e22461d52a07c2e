import JvmDerived
import JvmDerived.Pilot.@@N@@Statement
import JvmDerived.Pilot.@@N@@Code
set_option linter.unusedVariables false
set_option linter.unusedSimpArgs false
namespace Jvm.Pilot.@@N@@
open Jvm Jvm.ClassFile Sem Op Lib Jvm.Free Jvm.Stand Jvm.LawKit Jvm.RoadKit Bundle Jvm.Pilot.@@N@@.Jvm.D
/-- from the state A the body comes to its end as Q says -/
def own_Fin (tb : Tables) (e : Env) (below : List Frame) (s : State) (Q : Option Value → Heap → List Loc → Prop) (kc ks : Nat) (A : State) : Prop :=
  ∃ s₂ o, Steps tb e below A s₂ ∧ s₂.status = .running ∧ Ended s₂ below o ∧ ∃ v L, o = .returned v ∧ Q v s₂.heap L ∧ FrameEnd s o s₂ L kc ks
theorem own_G (tb : Tables) (e : Env) (below : List Frame) (s : State) (Q : Option Value → Heap → List Loc → Prop) (kc ks : Nat) :
    ∃ G : State → Prop, (∀ {A B : State}, (∀ t, Steps tb e below B t → Steps tb e below A t) → G B → G A) ∧ (∀ A, own_Fin tb e below s Q kc ks A → G A) ∧ (∀ A, G A → own_Fin tb e below s Q kc ks A) :=
  ⟨own_Fin tb e below s Q kc ks, fun h k => by obtain ⟨s₂, o, h1, r⟩ := k; exact ⟨s₂, o, h _ h1, r⟩, fun _ h => h, fun _ h => h⟩
theorem own_ret {p : Program} {l : Launch} {e : Env} {R : Room} {s : State} {m : MethodId} {args : Array Value} {below : List Frame} {meth : Method} {c : Code} {T : State} {locs : List Loc} {cells slots : Nat} {Q : Option Value → Heap → List Loc → Prop} {kc ks : Nat} {A : State} {v : Option Value}
    (X : Stand p l e R s m args below meth c T locs cells slots) (hlk : meth.locks = false) (hv : meth.sig.returnType = none → v = none) (hQ : Q v T.heap locs) (hc : cells ≤ kc) (hs : slots ≤ ks)
    (st : ∀ fs, (∀ (f : JFrame) (acts : List Action), f.method = m → f.locked = none → f.entered = [] → (doReturn e (T.setTop f) acts v).1 = T.setFrames fs) → Steps p.tables e below A (T.setFrames fs)) : own_Fin p.tables e below s Q kc ks A := by
  obtain ⟨fs, hr, hrun, hended, hW, hsame⟩ := X.leave hv hlk
  exact ⟨_, _, st fs hr, hrun, hended, _, _, rfl, hQ, ⟨_, rfl⟩, hW, hsame.mono hc hs⟩
theorem own_old {Z : State} {n0 : Nat} {h : Heap} (O : Old Z n0 h) : n0 ≤ h.size := O.1 ▸ O.2.1
theorem own_cat {v : Value} (h : v.isRef = true) : v.category = 1 := by rcases ref_cases h with rfl | ⟨a, rfl⟩ <;> rfl
theorem own_mvM {Z s : State} {a0 args : Array Value} {own host : String} {index : Nat} {y : MethodName} (hZ : Z.Warmed39 s.vm) (w : (Jvm.Cond.methodLinkNest own index y host).before a0 Z = true) : (Jvm.Cond.methodLinkNest own index y host).before args s = true := (Cond.methodLinkNest_wide hZ w :)
theorem own_ne_arv {Z : State} {h : Heap} {a b : Addr} {C : String} {a0 : Array Value} {n : Nat} {k : ClassId} {ty : FieldType} {z : Int32} {vs : List Value} {d : Value} (E : Exa Z h a C) (wi : (Jvm.Cond.instantiable C n).before a0 Z = true) (A : Arv Z h b k ty z vs d) : a ≠ b := by
  obtain ⟨c, A, -⟩ := A
  exact ne_arr E wi A
theorem own_narB (x : Int32) : nar .byte x.toInt8.toInt32 = x.toInt8.toInt32 := by
  refine Int32.toInt_inj.mp ?_
  have h1 := c_i2b x
  have h2 := c_i2b x.toInt8.toInt32
  show (x.toInt8.toInt32.toInt8.toInt32).toInt = _
  omega
theorem own_narC (x : Int32) : nar .char x.toUInt32.toUInt16.toUInt32.toInt32 = x.toUInt32.toUInt16.toUInt32.toInt32 := by
  refine Int32.toInt_inj.mp ?_
  have h1 := c_i2c x
  have h2 := c_i2c x.toUInt32.toUInt16.toUInt32.toInt32
  show (x.toUInt32.toUInt16.toUInt32.toInt32.toUInt32.toUInt16.toUInt32.toInt32).toInt = _
  omega
theorem own_exa {s : State} {args : Array Value} {t : Term} {K : String} (h : (Jvm.Cond.exactly t K).value args s none s [] = some true) : ∃ a, t.eval args s none [] s = some (.ref a) ∧ Exa s s.heap a K := by
  obtain ⟨a, c', cell, k, e1, e2, e3, e4, e5, e6, e7⟩ := Cond.exactly_spec (Cond.before_iff.mpr h)
  exact ⟨a, e1, Exa.start e1 h⟩
theorem own_fint {s : State} {args : Array Value} {t : Term} {C n d : String} {a : Addr} {k : Int32} (ht : t.eval args s none [] s = some (.ref a)) (h : (Jvm.Cond.eq (.field t C n d) (.int k)).value args s none s [] = some true) : Fld s s.heap a C n d (.int k) := by
  refine Fld.start ?_
  rw [← fld_at ht]
  have hk : (Term.int k).eval args s none [] s = some (.int k) := rfl
  cases q : (Term.field t C n d).eval args s none [] s with
  | none => simp [Cond.value, q] at h
  | some v => cases v <;> simp [Cond.value, q, hk] at h; rw [h]
theorem own_flong {s : State} {args : Array Value} {t : Term} {C n d : String} {a : Addr} {k : Int64} (ht : t.eval args s none [] s = some (.ref a)) (h : (Jvm.Cond.eq (.field t C n d) (.long k)).value args s none s [] = some true) : Fld s s.heap a C n d (.long k) := by
  refine Fld.start ?_
  rw [← fld_at ht]
  have hk : (Term.long k).eval args s none [] s = some (.long k) := rfl
  cases q : (Term.field t C n d).eval args s none [] s with
  | none => simp [Cond.value, q] at h
  | some v => cases v <;> simp [Cond.value, q, hk] at h; rw [h]
theorem own_mod5 (a : Int32) : (a &&& (2147483647 : Int32)) % (5 : Int32) = (0 : Int32) ∨ (a &&& (2147483647 : Int32)) % (5 : Int32) = (1 : Int32) ∨ (a &&& (2147483647 : Int32)) % (5 : Int32) = (2 : Int32) ∨ (a &&& (2147483647 : Int32)) % (5 : Int32) = (3 : Int32) ∨ (a &&& (2147483647 : Int32)) % (5 : Int32) = (4 : Int32) := by
  have h := c_mask a 2147483647 31 (by decide) (by decide)
  have h2 := c_irem (a &&& 2147483647) 5 5 (by decide)
  have h3 := rng32 a
  have h1 : ((a &&& (2147483647 : Int32)) % (5 : Int32)).toInt = 0 ∨ ((a &&& (2147483647 : Int32)) % (5 : Int32)).toInt = 1 ∨ ((a &&& (2147483647 : Int32)) % (5 : Int32)).toInt = 2 ∨ ((a &&& (2147483647 : Int32)) % (5 : Int32)).toInt = 3 ∨ ((a &&& (2147483647 : Int32)) % (5 : Int32)).toInt = 4 := by omega
  rcases h1 with q | q | q | q | q
  · exact Or.inl (Int32.toInt_inj.mp (by rw [q]; rfl))
  · exact Or.inr (Or.inl (Int32.toInt_inj.mp (by rw [q]; rfl)))
  · exact Or.inr (Or.inr (Or.inl (Int32.toInt_inj.mp (by rw [q]; rfl))))
  · exact Or.inr (Or.inr (Or.inr (Or.inl (Int32.toInt_inj.mp (by rw [q]; rfl)))))
  · exact Or.inr (Or.inr (Or.inr (Or.inr (Int32.toInt_inj.mp (by rw [q]; rfl)))))
theorem ef_0 (m : MethodId) (x0 : Addr) (x1 : Int32)  : entryFrame m #[(.ref x0), (.int x1)] 2 = mkF m 0 #[.val (.ref x0), .val (.int x1)] [] := by first | (simp [entryFrame, mkF, argsToLocals, Value.category]; done) | rfl
theorem pn_0 : plainName "com/example/dvalin/dvalin/Occurs" = true := by first | (simp [plainName, overriddenIn]; done) | decide +kernel
theorem d1_0 : decode prog_11_method_4_code 0 = .ok (.aload_n 0, 1) := by decide +kernel
theorem d1_1 : decode prog_11_method_4_code 1 = .ok (.getfield 38, 3) := by decide +kernel
theorem d1_4 : decode prog_11_method_4_code 4 = .ok (.iload_n 1, 1) := by decide +kernel
theorem d1_5 : decode prog_11_method_4_code 5 = .ok (.if_icmp .gt 15, 3) := by decide +kernel
theorem d1_20 : decode prog_11_method_4_code 20 = .ok (.iconst 0, 1) := by decide +kernel
theorem d1_21 : decode prog_11_method_4_code 21 = .ok (.ireturn, 1) := by decide +kernel
theorem d1_8 : decode prog_11_method_4_code 8 = .ok (.iload_n 1, 1) := by decide +kernel
theorem d1_9 : decode prog_11_method_4_code 9 = .ok (.aload_n 0, 1) := by decide +kernel
theorem d1_10 : decode prog_11_method_4_code 10 = .ok (.getfield 42, 3) := by decide +kernel
theorem d1_13 : decode prog_11_method_4_code 13 = .ok (.if_icmp .gt 7, 3) := by decide +kernel
theorem d1_16 : decode prog_11_method_4_code 16 = .ok (.iconst 1, 1) := by decide +kernel
theorem d1_17 : decode prog_11_method_4_code 17 = .ok (.goto 4, 3) := by decide +kernel
def Q_allows (Z : State) (a : Addr) (n : Int32) (fw : Int32) (mo : Int32) (h0 : Heap) (n0 : Nat) (v : Option Value) (h : Heap) (L : List Loc) : Prop := v = some (.int (if n < fw then (0 : Int32) else (if mo < n then (0 : Int32) else (1 : Int32)))) ∧ Fr n0 L ∧ h = h0
set_option maxRecDepth 65536 in
set_option maxHeartbeats 40000000 in
theorem rm_allows (l : Launch) (Z : State) (a0 : Array Value) (hw : ∀ d ∈ tables_1, d.before a0 Z = true) (ws : List Jvm.Cond) (a : Addr) (n : Int32) (fw : Int32) (mo : Int32) (h0 : Heap) (n0 : Nat) (O0 : Old Z n0 h0) (u0 : Fld Z h0 a "com/example/dvalin/dvalin/Occurs" "fewest" "I" (.int fw)) (u1 : Fld Z h0 a "com/example/dvalin/dvalin/Occurs" "most" "I" (.int mo)) :
    MetFree l (⟨"com/example/dvalin/dvalin/Occurs", "allows", "(I)Z"⟩ : MethodName) (head1 (Jvm.Cond.code (⟨"com/example/dvalin/dvalin/Occurs", "allows", "(I)Z"⟩ : MethodName) prog_11_method_4_code 2 (some .boolean) :: ws) ({ frames := 0, cells := 0, slots := 0, locals := 0 } : Room)) (fun aV U => aV = #[(.ref a), (.int n)] ∧ Z.Warmed39 U.vm ∧ U.heap = h0) (fun _ _ _ _ _ => True) (fun _ U o U' => ∃ v L, o = .returned v ∧ Q_allows Z a n fw mo h0 n0 v U'.heap L ∧ FrameEnd U o U' L ({ frames := 0, cells := 0, slots := 0, locals := 0 } : Room).cells ({ frames := 0, cells := 0, slots := 0, locals := 0 } : Room).slots) := by
  refine MetFree.of_bodySF (plainFor_of_name pn_0) hisR ?_
  intro p e s m args below meth c s₁ Bd hml0 hP hK
  obtain ⟨rfl, hZ, hh⟩ := hP
  have hx := Bd.exec
  have hby := Bd.bytes
  have hml : c.maxLocals = 2 := hml0
  have hown : s.vm.findClass "com/example/dvalin/dvalin/Occurs" = some m.cls := findClass_of_methodNamed Bd.named
  have hnm := (name_of_methodNamed Bd.named Bd.method).1
  have X0 : Stand p l e ({ frames := 0, cells := 0, slots := 0, locals := 0 } : Room) s m #[(.ref a), (.int n)] below meth c s₁ [] 0 0 := Stand.of_body Bd
  have e0 : s₁.heap = h0 := by rw [← hh, Bd.state]; rfl
  have N0 := Fr.nil n0
  have K0 := Keep.refl h0 []
  obtain ⟨G, gv, gf, gb⟩ := own_G p.tables e below s (Q_allows Z a n fw mo h0 n0) ({ frames := 0, cells := 0, slots := 0, locals := 0 } : Room).cells ({ frames := 0, cells := 0, slots := 0, locals := 0 } : Room).slots
  show own_Fin p.tables e below s (Q_allows Z a n fw mo h0 n0) ({ frames := 0, cells := 0, slots := 0, locals := 0 } : Room).cells ({ frames := 0, cells := 0, slots := 0, locals := 0 } : Room).slots (s₁.setTop (entryFrame m #[(.ref a), (.int n)] 2))
  refine gb _ (gv (fun t k => castTop (ef_0 m a n) k) ?_)
  show G (s₁.setTop (mkF m 0 #[.val (.ref a), .val (.int n)] []))
  refine gv (fun t k => XS.aloadN X0.here hx rfl (hb hby d1_0) rfl rfl k) ?_
  show G (s₁.setTop (mkF m 1 #[.val (.ref a), .val (.int n)] [(.ref a)]))
  obtain ⟨T1, X1, e1, st1⟩ := getF X0 hx hZ hown (host := "") (Or.inl (hw _ (List.mem_of_getElem? (i := 9) rfl))) Via.refl e0 u0 (g := (mkF m 1 #[.val (.ref a), .val (.int n)] [(.ref a)])) rfl rfl (hb hby d1_1)
  refine gv st1 ?_
  show G (T1.setTop (mkF m 4 #[.val (.ref a), .val (.int n)] [(.int fw)]))
  refine gv (fun t k => XS.iloadN X1.here hx rfl (hb hby d1_4) rfl k) ?_
  show G (T1.setTop (mkF m 5 #[.val (.ref a), .val (.int n)] [(.int n), (.int fw)]))
  by_cases hc2 : n < fw
  · refine gv (fun t k => XS.icmpYes X1.here hx rfl (pc0 := 5) (pc' := 20) rfl (hb hby d1_5) rfl (tlt hc2).2.2.1 (by decide) (by decide) k) ?_
    show G (T1.setTop (mkF m 20 #[.val (.ref a), .val (.int n)] []))
    refine gv (fun t k => XS.iconst X1.here hx rfl (hb hby d1_20) k) ?_
    show G (T1.setTop (mkF m 21 #[.val (.ref a), .val (.int n)] [(.int (0 : Int32))]))
    refine gf _ (own_ret X1 Bd.notSynchronized (v := some (.int (0 : Int32))) (fun h => by rw [Bd.returns] at h; cases h) ?_ (by decide) (by decide) (fun fs hr => retN X1 hx (t := .boolean) Bd.returns (by simp) (hb hby d1_21) hr))
    show Q_allows Z a n fw mo h0 n0 _ T1.heap _
    rw [e1]
    exact ⟨(by rw [if_pos hc2]), N0, rfl⟩
  · refine gv (fun t k => XS.icmpNo X1.here hx rfl (hb hby d1_5) rfl (flt hc2).2.2.1 k) ?_
    show G (T1.setTop (mkF m 8 #[.val (.ref a), .val (.int n)] []))
    refine gv (fun t k => XS.iloadN X1.here hx rfl (hb hby d1_8) rfl k) ?_
    show G (T1.setTop (mkF m 9 #[.val (.ref a), .val (.int n)] [(.int n)]))
    refine gv (fun t k => XS.aloadN X1.here hx rfl (hb hby d1_9) rfl rfl k) ?_
    show G (T1.setTop (mkF m 10 #[.val (.ref a), .val (.int n)] [(.ref a), (.int n)]))
    obtain ⟨T3, X3, e3, st3⟩ := getF X1 hx hZ hown (host := "") (Or.inl (hw _ (List.mem_of_getElem? (i := 11) rfl))) Via.refl e1 u1 (g := (mkF m 10 #[.val (.ref a), .val (.int n)] [(.ref a), (.int n)])) rfl rfl (hb hby d1_10)
    refine gv st3 ?_
    show G (T3.setTop (mkF m 13 #[.val (.ref a), .val (.int n)] [(.int mo), (.int n)]))
    by_cases hc4 : mo < n
    · refine gv (fun t k => XS.icmpYes X3.here hx rfl (pc0 := 13) (pc' := 20) rfl (hb hby d1_13) rfl (tlt hc4).2.2.1 (by decide) (by decide) k) ?_
      show G (T3.setTop (mkF m 20 #[.val (.ref a), .val (.int n)] []))
      refine gv (fun t k => XS.iconst X3.here hx rfl (hb hby d1_20) k) ?_
      show G (T3.setTop (mkF m 21 #[.val (.ref a), .val (.int n)] [(.int (0 : Int32))]))
      refine gf _ (own_ret X3 Bd.notSynchronized (v := some (.int (0 : Int32))) (fun h => by rw [Bd.returns] at h; cases h) ?_ (by decide) (by decide) (fun fs hr => retN X3 hx (t := .boolean) Bd.returns (by simp) (hb hby d1_21) hr))
      show Q_allows Z a n fw mo h0 n0 _ T3.heap _
      rw [e3]
      exact ⟨(by rw [if_neg hc2, if_pos hc4]), N0, rfl⟩
    · refine gv (fun t k => XS.icmpNo X3.here hx rfl (hb hby d1_13) rfl (flt hc4).2.2.1 k) ?_
      show G (T3.setTop (mkF m 16 #[.val (.ref a), .val (.int n)] []))
      refine gv (fun t k => XS.iconst X3.here hx rfl (hb hby d1_16) k) ?_
      show G (T3.setTop (mkF m 17 #[.val (.ref a), .val (.int n)] [(.int (1 : Int32))]))
      refine gv (fun t k => XS.goto X3.here hx rfl (pc0 := 17) (pc' := 21) rfl (hb hby d1_17) (by decide) (by decide) k) ?_
      show G (T3.setTop (mkF m 21 #[.val (.ref a), .val (.int n)] [(.int (1 : Int32))]))
      refine gf _ (own_ret X3 Bd.notSynchronized (v := some (.int (1 : Int32))) (fun h => by rw [Bd.returns] at h; cases h) ?_ (by decide) (by decide) (fun fs hr => retN X3 hx (t := .boolean) Bd.returns (by simp) (hb hby d1_21) hr))
      show Q_allows Z a n fw mo h0 n0 _ T3.heap _
      rw [e3]
      exact ⟨(by rw [if_neg hc2, if_neg hc4]), N0, rfl⟩
theorem ef_1 (m : MethodId) (x0 : Int32) (x1 : Int32)  : entryFrame m #[(.int x0), (.int x1)] maxLocals = mkF m 0 #[.val (.int x0), .val (.int x1), .unset, .unset, .unset] [] := by first | (simp [entryFrame, mkF, argsToLocals, Value.category, maxLocals]; done) | rfl
theorem pn_1 : plainName "com/example/dvalin/dvalin/OccursAllowsPinLaw" = true := by first | (simp [plainName, overriddenIn]; done) | decide +kernel
theorem pd_0 : parseMethodDescriptor "(I)Z" = some ⟨[.int], some .boolean⟩ := by decide +kernel
def Q0 (Z : State) (p0 : Int32) (p1 : Int32) (A_UNBOUNDED : Addr) (A_OPTIONAL : Addr) (A_REQUIRED : Addr) (A_ONE_OR_MORE : Addr) (A_NONE : Addr) (h0 : Heap) (n0 : Nat) (v : Option Value) (h : Heap) (L : List Loc) : Prop := v = some (.int (1 : Int32)) ∧ Fr n0 L
set_option maxRecDepth 65536 in
set_option maxHeartbeats 40000000 in
theorem rm0 (l : Launch) (Z : State) (a0 : Array Value) (hw : ∀ d ∈ tables_1, d.before a0 Z = true) (ws : List Jvm.Cond) (p0 : Int32) (p1 : Int32) (A_UNBOUNDED : Addr) (A_OPTIONAL : Addr) (A_REQUIRED : Addr) (A_ONE_OR_MORE : Addr) (A_NONE : Addr) (h0 : Heap) (n0 : Nat) (O0 : Old Z n0 h0) (u0 : Sta Z Z.heap "com/example/dvalin/dvalin/Occurs" "UNBOUNDED" "Lcom/example/dvalin/dvalin/Occurs;" (.ref A_UNBOUNDED)) (u1 : Sta Z Z.heap "com/example/dvalin/dvalin/Occurs" "OPTIONAL" "Lcom/example/dvalin/dvalin/Occurs;" (.ref A_OPTIONAL)) (u2 : Sta Z Z.heap "com/example/dvalin/dvalin/Occurs" "REQUIRED" "Lcom/example/dvalin/dvalin/Occurs;" (.ref A_REQUIRED)) (u3 : Sta Z Z.heap "com/example/dvalin/dvalin/Occurs" "ONE_OR_MORE" "Lcom/example/dvalin/dvalin/Occurs;" (.ref A_ONE_OR_MORE)) (u4 : Sta Z Z.heap "com/example/dvalin/dvalin/Occurs" "NONE" "Lcom/example/dvalin/dvalin/Occurs;" (.ref A_NONE)) (u5 : Exa Z Z.heap A_UNBOUNDED "com/example/dvalin/dvalin/Occurs") (u6 : Exa Z Z.heap A_OPTIONAL "com/example/dvalin/dvalin/Occurs") (u7 : Exa Z Z.heap A_REQUIRED "com/example/dvalin/dvalin/Occurs") (u8 : Exa Z Z.heap A_ONE_OR_MORE "com/example/dvalin/dvalin/Occurs") (u9 : Exa Z Z.heap A_NONE "com/example/dvalin/dvalin/Occurs") (u10 : Fld Z Z.heap A_UNBOUNDED "com/example/dvalin/dvalin/Occurs" "fewest" "I" (.int (0 : Int32))) (u11 : Fld Z Z.heap A_OPTIONAL "com/example/dvalin/dvalin/Occurs" "fewest" "I" (.int (0 : Int32))) (u12 : Fld Z Z.heap A_REQUIRED "com/example/dvalin/dvalin/Occurs" "fewest" "I" (.int (1 : Int32))) (u13 : Fld Z Z.heap A_ONE_OR_MORE "com/example/dvalin/dvalin/Occurs" "fewest" "I" (.int (1 : Int32))) (u14 : Fld Z Z.heap A_NONE "com/example/dvalin/dvalin/Occurs" "fewest" "I" (.int (0 : Int32))) (u15 : Fld Z Z.heap A_UNBOUNDED "com/example/dvalin/dvalin/Occurs" "most" "I" (.int (2147483647 : Int32))) (u16 : Fld Z Z.heap A_OPTIONAL "com/example/dvalin/dvalin/Occurs" "most" "I" (.int (1 : Int32))) (u17 : Fld Z Z.heap A_REQUIRED "com/example/dvalin/dvalin/Occurs" "most" "I" (.int (1 : Int32))) (u18 : Fld Z Z.heap A_ONE_OR_MORE "com/example/dvalin/dvalin/Occurs" "most" "I" (.int (2147483647 : Int32))) (u19 : Fld Z Z.heap A_NONE "com/example/dvalin/dvalin/Occurs" "most" "I" (.int (0 : Int32))) :
    MetFree l x (head1 (Jvm.Cond.code x code maxLocals ret :: ws) room_1) (fun aV U => aV = #[(.int p0), (.int p1)] ∧ Z.Warmed39 U.vm ∧ U.heap = h0) (fun _ _ _ _ _ => True) (fun _ U o U' => ∃ v L, o = .returned v ∧ Q0 Z p0 p1 A_UNBOUNDED A_OPTIONAL A_REQUIRED A_ONE_OR_MORE A_NONE h0 n0 v U'.heap L ∧ FrameEnd U o U' L room_1.cells room_1.slots) := by
  refine MetFree.of_bodySF (plainFor_of_name pn_1) hisR ?_
  intro p e s m args below meth c s₁ Bd hml0 hP hK
  obtain ⟨rfl, hZ, hh⟩ := hP
  have hx := Bd.exec
  have hby := Bd.bytes
  have hml : c.maxLocals = 5 := hml0
  have hown : s.vm.findClass "com/example/dvalin/dvalin/OccursAllowsPinLaw" = some m.cls := findClass_of_methodNamed Bd.named
  have hnm := (name_of_methodNamed Bd.named Bd.method).1
  have X0 : Stand p l e room_1 s m #[(.int p0), (.int p1)] below meth c s₁ [] 0 0 := Stand.of_body Bd
  have e0 : s₁.heap = h0 := by rw [← hh, Bd.state]; rfl
  have N0 := Fr.nil n0
  have K0 := Keep.refl h0 []
  obtain ⟨G, gv, gf, gb⟩ := own_G p.tables e below s (Q0 Z p0 p1 A_UNBOUNDED A_OPTIONAL A_REQUIRED A_ONE_OR_MORE A_NONE h0 n0) room_1.cells room_1.slots
  show own_Fin p.tables e below s (Q0 Z p0 p1 A_UNBOUNDED A_OPTIONAL A_REQUIRED A_ONE_OR_MORE A_NONE h0 n0) room_1.cells room_1.slots (s₁.setTop (entryFrame m #[(.int p0), (.int p1)] maxLocals))
  refine gb _ (gv (fun t k => castTop (ef_1 m p0 p1) k) ?_)
  show G (s₁.setTop (mkF m 0 #[.val (.int p0), .val (.int p1), .unset, .unset, .unset] []))
  refine gv (fun t k => XS.iloadN X0.here hx rfl (hb hby at_0) rfl k) ?_
  show G (s₁.setTop (mkF m 1 #[.val (.int p0), .val (.int p1), .unset, .unset, .unset] [(.int p0)]))
  refine gv (X0.ldcInt hx hown (mvT hZ (hw _ (List.mem_of_getElem? (i := 0) rfl))) (g := (mkF m 1 #[.val (.int p0), .val (.int p1), .unset, .unset, .unset] [(.int p0)])) rfl (hb hby at_1)) ?_
  show G (s₁.setTop (mkF m 3 #[.val (.int p0), .val (.int p1), .unset, .unset, .unset] [(.int (2147483647 : Int32)), (.int p0)]))
  refine gv (fun t k => XS.iand X0.here hx rfl (hb hby at_3) rfl k) ?_
  show G (s₁.setTop (mkF m 4 #[.val (.int p0), .val (.int p1), .unset, .unset, .unset] [(.int (p0 &&& (2147483647 : Int32)))]))
  refine gv (fun t k => XS.iconst X0.here hx rfl (hb hby at_4) k) ?_
  show G (s₁.setTop (mkF m 5 #[.val (.int p0), .val (.int p1), .unset, .unset, .unset] [(.int (5 : Int32)), (.int (p0 &&& (2147483647 : Int32)))]))
  refine gv (fun t k => iremM X0 hx rfl (hb hby at_5) rfl (by decide) k) ?_
  show G (s₁.setTop (mkF m 6 #[.val (.int p0), .val (.int p1), .unset, .unset, .unset] [(.int ((p0 &&& (2147483647 : Int32)) % (5 : Int32)))]))
  refine gv (fun t k => XS.istoreN X0.here hx rfl (hb hby at_6) rfl (l' := #[.val (.int p0), .val (.int p1), .val (.int ((p0 &&& (2147483647 : Int32)) % (5 : Int32))), .unset, .unset]) rfl k) ?_
  show G (s₁.setTop (mkF m 7 #[.val (.int p0), .val (.int p1), .val (.int ((p0 &&& (2147483647 : Int32)) % (5 : Int32))), .unset, .unset] []))
  rcases own_mod5 p0 with q | q | q | q | q
  · rw [q]
    show G (s₁.setTop (mkF m 7 #[.val (.int p0), .val (.int p1), .val (.int (0 : Int32)), .unset, .unset] []))
    refine gv (fun t k => XS.iloadN X0.here hx rfl (hb hby at_7) rfl k) ?_
    show G (s₁.setTop (mkF m 8 #[.val (.int p0), .val (.int p1), .val (.int (0 : Int32)), .unset, .unset] [(.int (0 : Int32))]))
    refine gv (fun t k => XS.ifNo X0.here hx rfl (hb hby at_8) rfl ((if0 _ _).trans (teq (by decide : (0 : Int32) = (0 : Int32))).2) k) ?_
    show G (s₁.setTop (mkF m 11 #[.val (.int p0), .val (.int p1), .val (.int (0 : Int32)), .unset, .unset] []))
    obtain ⟨T5, X5, e5, st5⟩ := getS2 X0 hx hZ hown (host := "") (Or.inl (hw _ (List.mem_of_getElem? (i := 1) rfl))) Via.refl e0 (u0.ext O0.2) (g := (mkF m 11 #[.val (.int p0), .val (.int p1), .val (.int (0 : Int32)), .unset, .unset] [])) rfl (hb hby at_11)
    refine gv st5 ?_
    show G (T5.setTop (mkF m 14 #[.val (.int p0), .val (.int p1), .val (.int (0 : Int32)), .unset, .unset] [(.ref A_UNBOUNDED)]))
    refine gv (fun t k => XS.iloadN X5.here hx rfl (hb hby at_14) rfl k) ?_
    show G (T5.setTop (mkF m 15 #[.val (.int p0), .val (.int p1), .val (.int (0 : Int32)), .unset, .unset] [(.int p1), (.ref A_UNBOUNDED)]))
    obtain ⟨cq6, kq6, q6a, q6b, q6c⟩ := isOf hZ e5 (u5.ext O0.2)
    obtain ⟨_, _, ⟨T6, L6, k6, n6⟩, -, X6, ⟨Lc6, hQ6, l6, y6, z6⟩, st6⟩ := X5.virtualBack hx (y := (⟨"com/example/dvalin/dvalin/Occurs", "allows", "(I)Z"⟩ : MethodName)) (z := (⟨"com/example/dvalin/dvalin/Occurs", "allows", "(I)Z"⟩ : MethodName)) hown (mvT hZ (hw _ (List.mem_of_getElem? (i := 4) rfl))) (mvT hZ (hw _ (List.mem_of_getElem? (i := 5) rfl))) (notFace_of_selects (args := #[]) (mvT hZ (hw _ (List.mem_of_getElem? (i := 7) rfl)))) (mvT hZ (hw _ (List.mem_of_getElem? (i := 7) rfl))) (mvT hZ (hw _ (List.mem_of_getElem? (i := 6) rfl))) (by decide) (backOf (W := 0) (rm_allows l Z a0 hw [] A_UNBOUNDED p1 (0 : Int32) (2147483647 : Int32) h0 n0 O0 (u10.ext O0.2) (u15.ext O0.2)) hZ (hw _ (List.mem_of_getElem? (i := 8) rfl)) (hw _ (List.mem_of_getElem? (i := 2) rfl)) (by decide) (by decide)) q6a q6c (g := (mkF m 15 #[.val (.int p0), .val (.int p1), .val (.int (0 : Int32)), .unset, .unset] [(.int p1), (.ref A_UNBOUNDED)])) rfl (by rw [hml]; rfl) (Steps.refl _) (argsL := [(.int p1)]) (rest := []) (lenOf pd_0 rfl) rfl (by show 2 * 0 + _ ≤ _; exact Nat.le_of_eq rfl) (hb hby at_15) (fun _ _ => ⟨rfl, e5, (by decide : 0 + 0 ≤ _), (by decide : 0 + 0 ≤ _)⟩)
    dsimp only [Pt.U, Pt.locs, Pt.cells, Pt.slots] at X6 l6 y6 z6 st6 hQ6
    subst l6 y6 z6
    obtain ⟨rfl, Nq6, eq6⟩ := hQ6
    have N7 := Fr.app N0 Nq6
    by_cases hb8 : p1 < (0 : Int32)
    · rw [if_pos hb8] at st6
      refine gv (fun t k => st6.trans k) ?_
      show G (T6.setTop (mkF m 18 #[.val (.int p0), .val (.int p1), .val (.int (0 : Int32)), .unset, .unset] [(.int (0 : Int32))]))
      refine gv (fun t k => XS.istoreN X6.here hx rfl (hb hby at_18) rfl (l' := #[.val (.int p0), .val (.int p1), .val (.int (0 : Int32)), .val (.int (0 : Int32)), .unset]) rfl k) ?_
      show G (T6.setTop (mkF m 19 #[.val (.int p0), .val (.int p1), .val (.int (0 : Int32)), .val (.int (0 : Int32)), .unset] []))
      refine gv (fun t k => XS.iloadN X6.here hx rfl (hb hby at_19) rfl k) ?_
      show G (T6.setTop (mkF m 20 #[.val (.int p0), .val (.int p1), .val (.int (0 : Int32)), .val (.int (0 : Int32)), .unset] [(.int p1)]))
      refine gv (fun t k => XS.ifYes X6.here hx rfl (pc0 := 20) (pc' := 27) rfl (hb hby at_20) rfl ((if0 _ _).trans (tlt hb8).1) (by decide) (by decide) k) ?_
      show G (T6.setTop (mkF m 27 #[.val (.int p0), .val (.int p1), .val (.int (0 : Int32)), .val (.int (0 : Int32)), .unset] []))
      refine gv (fun t k => XS.iconst X6.here hx rfl (hb hby at_27) k) ?_
      show G (T6.setTop (mkF m 28 #[.val (.int p0), .val (.int p1), .val (.int (0 : Int32)), .val (.int (0 : Int32)), .unset] [(.int (0 : Int32))]))
      refine gv (fun t k => XS.istore X6.here hx rfl (hb hby at_28) rfl (l' := #[.val (.int p0), .val (.int p1), .val (.int (0 : Int32)), .val (.int (0 : Int32)), .val (.int (0 : Int32))]) rfl k) ?_
      show G (T6.setTop (mkF m 30 #[.val (.int p0), .val (.int p1), .val (.int (0 : Int32)), .val (.int (0 : Int32)), .val (.int (0 : Int32))] []))
      refine gv (fun t k => XS.goto X6.here hx rfl (pc0 := 30) (pc' := 140) rfl (hb hby at_30) (by decide) (by decide) k) ?_
      show G (T6.setTop (mkF m 140 #[.val (.int p0), .val (.int p1), .val (.int (0 : Int32)), .val (.int (0 : Int32)), .val (.int (0 : Int32))] []))
      refine gv (fun t k => XS.iloadN X6.here hx rfl (hb hby at_140) rfl k) ?_
      show G (T6.setTop (mkF m 141 #[.val (.int p0), .val (.int p1), .val (.int (0 : Int32)), .val (.int (0 : Int32)), .val (.int (0 : Int32))] [(.int (0 : Int32))]))
      refine gv (fun t k => XS.iload X6.here hx rfl (hb hby at_141) rfl k) ?_
      show G (T6.setTop (mkF m 143 #[.val (.int p0), .val (.int p1), .val (.int (0 : Int32)), .val (.int (0 : Int32)), .val (.int (0 : Int32))] [(.int (0 : Int32)), (.int (0 : Int32))]))
      refine gv (fun t k => XS.icmpNo X6.here hx rfl (hb hby at_143) rfl (teq (by decide : (0 : Int32) = (0 : Int32))).2 k) ?_
      show G (T6.setTop (mkF m 146 #[.val (.int p0), .val (.int p1), .val (.int (0 : Int32)), .val (.int (0 : Int32)), .val (.int (0 : Int32))] []))
      refine gv (fun t k => XS.iconst X6.here hx rfl (hb hby at_146) k) ?_
      show G (T6.setTop (mkF m 147 #[.val (.int p0), .val (.int p1), .val (.int (0 : Int32)), .val (.int (0 : Int32)), .val (.int (0 : Int32))] [(.int (1 : Int32))]))
      refine gv (fun t k => XS.goto X6.here hx rfl (pc0 := 147) (pc' := 151) rfl (hb hby at_147) (by decide) (by decide) k) ?_
      show G (T6.setTop (mkF m 151 #[.val (.int p0), .val (.int p1), .val (.int (0 : Int32)), .val (.int (0 : Int32)), .val (.int (0 : Int32))] [(.int (1 : Int32))]))
      refine gf _ (own_ret X6 Bd.notSynchronized (v := some (.int (1 : Int32))) (fun h => by rw [Bd.returns] at h; cases h) ?_ (by decide) (by decide) (fun fs hr => retN X6 hx (t := .boolean) Bd.returns (by simp) (hb hby at_151) hr))
      show Q0 Z p0 p1 A_UNBOUNDED A_OPTIONAL A_REQUIRED A_ONE_OR_MORE A_NONE h0 n0 _ T6.heap _
      rw [eq6]
      exact ⟨rfl, N7⟩
    · skip
      by_cases hb9 : (2147483647 : Int32) < p1
      · rw [if_neg hb8, if_pos hb9] at st6
        refine gv (fun t k => st6.trans k) ?_
        show G (T6.setTop (mkF m 18 #[.val (.int p0), .val (.int p1), .val (.int (0 : Int32)), .unset, .unset] [(.int (0 : Int32))]))
        refine gv (fun t k => XS.istoreN X6.here hx rfl (hb hby at_18) rfl (l' := #[.val (.int p0), .val (.int p1), .val (.int (0 : Int32)), .val (.int (0 : Int32)), .unset]) rfl k) ?_
        show G (T6.setTop (mkF m 19 #[.val (.int p0), .val (.int p1), .val (.int (0 : Int32)), .val (.int (0 : Int32)), .unset] []))
        refine gv (fun t k => XS.iloadN X6.here hx rfl (hb hby at_19) rfl k) ?_
        show G (T6.setTop (mkF m 20 #[.val (.int p0), .val (.int p1), .val (.int (0 : Int32)), .val (.int (0 : Int32)), .unset] [(.int p1)]))
        refine gv (fun t k => XS.ifNo X6.here hx rfl (hb hby at_20) rfl ((if0 _ _).trans (flt hb8).1) k) ?_
        show G (T6.setTop (mkF m 23 #[.val (.int p0), .val (.int p1), .val (.int (0 : Int32)), .val (.int (0 : Int32)), .unset] []))
        refine gv (fun t k => XS.iconst X6.here hx rfl (hb hby at_23) k) ?_
        show G (T6.setTop (mkF m 24 #[.val (.int p0), .val (.int p1), .val (.int (0 : Int32)), .val (.int (0 : Int32)), .unset] [(.int (1 : Int32))]))
        refine gv (fun t k => XS.goto X6.here hx rfl (pc0 := 24) (pc' := 28) rfl (hb hby at_24) (by decide) (by decide) k) ?_
        show G (T6.setTop (mkF m 28 #[.val (.int p0), .val (.int p1), .val (.int (0 : Int32)), .val (.int (0 : Int32)), .unset] [(.int (1 : Int32))]))
        refine gv (fun t k => XS.istore X6.here hx rfl (hb hby at_28) rfl (l' := #[.val (.int p0), .val (.int p1), .val (.int (0 : Int32)), .val (.int (0 : Int32)), .val (.int (1 : Int32))]) rfl k) ?_
        show G (T6.setTop (mkF m 30 #[.val (.int p0), .val (.int p1), .val (.int (0 : Int32)), .val (.int (0 : Int32)), .val (.int (1 : Int32))] []))
        refine gv (fun t k => XS.goto X6.here hx rfl (pc0 := 30) (pc' := 140) rfl (hb hby at_30) (by decide) (by decide) k) ?_
        show G (T6.setTop (mkF m 140 #[.val (.int p0), .val (.int p1), .val (.int (0 : Int32)), .val (.int (0 : Int32)), .val (.int (1 : Int32))] []))
        refine gv (fun t k => XS.iloadN X6.here hx rfl (hb hby at_140) rfl k) ?_
        show G (T6.setTop (mkF m 141 #[.val (.int p0), .val (.int p1), .val (.int (0 : Int32)), .val (.int (0 : Int32)), .val (.int (1 : Int32))] [(.int (0 : Int32))]))
        refine gv (fun t k => XS.iload X6.here hx rfl (hb hby at_141) rfl k) ?_
        show G (T6.setTop (mkF m 143 #[.val (.int p0), .val (.int p1), .val (.int (0 : Int32)), .val (.int (0 : Int32)), .val (.int (1 : Int32))] [(.int (1 : Int32)), (.int (0 : Int32))]))
        refine gv (fun t k => XS.icmpYes X6.here hx rfl (pc0 := 143) (pc' := 150) rfl (hb hby at_143) rfl (feq (by decide : ¬ ((0 : Int32) = (1 : Int32)))).2 (by decide) (by decide) k) ?_
        show G (T6.setTop (mkF m 150 #[.val (.int p0), .val (.int p1), .val (.int (0 : Int32)), .val (.int (0 : Int32)), .val (.int (1 : Int32))] []))
        refine gv (fun t k => XS.iconst X6.here hx rfl (hb hby at_150) k) ?_
        show G (T6.setTop (mkF m 151 #[.val (.int p0), .val (.int p1), .val (.int (0 : Int32)), .val (.int (0 : Int32)), .val (.int (1 : Int32))] [(.int (0 : Int32))]))
        (exfalso; have := rng32 p1; try simp only [Int32.lt_iff_toInt_lt, Int64.lt_iff_toInt_lt, ← Int32.toInt_inj, ← Int64.toInt_inj, (by decide : (0 : Int32).toInt = 0), (by decide : (2147483647 : Int32).toInt = 2147483647)] at hb8; try simp only [Int32.lt_iff_toInt_lt, Int64.lt_iff_toInt_lt, ← Int32.toInt_inj, ← Int64.toInt_inj, (by decide : (0 : Int32).toInt = 0), (by decide : (2147483647 : Int32).toInt = 2147483647)] at hb9; omega)
      · skip
        rw [if_neg hb8, if_neg hb9] at st6
        refine gv (fun t k => st6.trans k) ?_
        show G (T6.setTop (mkF m 18 #[.val (.int p0), .val (.int p1), .val (.int (0 : Int32)), .unset, .unset] [(.int (1 : Int32))]))
        refine gv (fun t k => XS.istoreN X6.here hx rfl (hb hby at_18) rfl (l' := #[.val (.int p0), .val (.int p1), .val (.int (0 : Int32)), .val (.int (1 : Int32)), .unset]) rfl k) ?_
        show G (T6.setTop (mkF m 19 #[.val (.int p0), .val (.int p1), .val (.int (0 : Int32)), .val (.int (1 : Int32)), .unset] []))
        refine gv (fun t k => XS.iloadN X6.here hx rfl (hb hby at_19) rfl k) ?_
        show G (T6.setTop (mkF m 20 #[.val (.int p0), .val (.int p1), .val (.int (0 : Int32)), .val (.int (1 : Int32)), .unset] [(.int p1)]))
        refine gv (fun t k => XS.ifNo X6.here hx rfl (hb hby at_20) rfl ((if0 _ _).trans (flt hb8).1) k) ?_
        show G (T6.setTop (mkF m 23 #[.val (.int p0), .val (.int p1), .val (.int (0 : Int32)), .val (.int (1 : Int32)), .unset] []))
        refine gv (fun t k => XS.iconst X6.here hx rfl (hb hby at_23) k) ?_
        show G (T6.setTop (mkF m 24 #[.val (.int p0), .val (.int p1), .val (.int (0 : Int32)), .val (.int (1 : Int32)), .unset] [(.int (1 : Int32))]))
        refine gv (fun t k => XS.goto X6.here hx rfl (pc0 := 24) (pc' := 28) rfl (hb hby at_24) (by decide) (by decide) k) ?_
        show G (T6.setTop (mkF m 28 #[.val (.int p0), .val (.int p1), .val (.int (0 : Int32)), .val (.int (1 : Int32)), .unset] [(.int (1 : Int32))]))
        refine gv (fun t k => XS.istore X6.here hx rfl (hb hby at_28) rfl (l' := #[.val (.int p0), .val (.int p1), .val (.int (0 : Int32)), .val (.int (1 : Int32)), .val (.int (1 : Int32))]) rfl k) ?_
        show G (T6.setTop (mkF m 30 #[.val (.int p0), .val (.int p1), .val (.int (0 : Int32)), .val (.int (1 : Int32)), .val (.int (1 : Int32))] []))
        refine gv (fun t k => XS.goto X6.here hx rfl (pc0 := 30) (pc' := 140) rfl (hb hby at_30) (by decide) (by decide) k) ?_
        show G (T6.setTop (mkF m 140 #[.val (.int p0), .val (.int p1), .val (.int (0 : Int32)), .val (.int (1 : Int32)), .val (.int (1 : Int32))] []))
        refine gv (fun t k => XS.iloadN X6.here hx rfl (hb hby at_140) rfl k) ?_
        show G (T6.setTop (mkF m 141 #[.val (.int p0), .val (.int p1), .val (.int (0 : Int32)), .val (.int (1 : Int32)), .val (.int (1 : Int32))] [(.int (1 : Int32))]))
        refine gv (fun t k => XS.iload X6.here hx rfl (hb hby at_141) rfl k) ?_
        show G (T6.setTop (mkF m 143 #[.val (.int p0), .val (.int p1), .val (.int (0 : Int32)), .val (.int (1 : Int32)), .val (.int (1 : Int32))] [(.int (1 : Int32)), (.int (1 : Int32))]))
        refine gv (fun t k => XS.icmpNo X6.here hx rfl (hb hby at_143) rfl (teq (by decide : (1 : Int32) = (1 : Int32))).2 k) ?_
        show G (T6.setTop (mkF m 146 #[.val (.int p0), .val (.int p1), .val (.int (0 : Int32)), .val (.int (1 : Int32)), .val (.int (1 : Int32))] []))
        refine gv (fun t k => XS.iconst X6.here hx rfl (hb hby at_146) k) ?_
        show G (T6.setTop (mkF m 147 #[.val (.int p0), .val (.int p1), .val (.int (0 : Int32)), .val (.int (1 : Int32)), .val (.int (1 : Int32))] [(.int (1 : Int32))]))
        refine gv (fun t k => XS.goto X6.here hx rfl (pc0 := 147) (pc' := 151) rfl (hb hby at_147) (by decide) (by decide) k) ?_
        show G (T6.setTop (mkF m 151 #[.val (.int p0), .val (.int p1), .val (.int (0 : Int32)), .val (.int (1 : Int32)), .val (.int (1 : Int32))] [(.int (1 : Int32))]))
        refine gf _ (own_ret X6 Bd.notSynchronized (v := some (.int (1 : Int32))) (fun h => by rw [Bd.returns] at h; cases h) ?_ (by decide) (by decide) (fun fs hr => retN X6 hx (t := .boolean) Bd.returns (by simp) (hb hby at_151) hr))
        show Q0 Z p0 p1 A_UNBOUNDED A_OPTIONAL A_REQUIRED A_ONE_OR_MORE A_NONE h0 n0 _ T6.heap _
        rw [eq6]
        exact ⟨rfl, N7⟩
  · rw [q]
    show G (s₁.setTop (mkF m 7 #[.val (.int p0), .val (.int p1), .val (.int (1 : Int32)), .unset, .unset] []))
    refine gv (fun t k => XS.iloadN X0.here hx rfl (hb hby at_7) rfl k) ?_
    show G (s₁.setTop (mkF m 8 #[.val (.int p0), .val (.int p1), .val (.int (1 : Int32)), .unset, .unset] [(.int (1 : Int32))]))
    refine gv (fun t k => XS.ifYes X0.here hx rfl (pc0 := 8) (pc' := 33) rfl (hb hby at_8) rfl ((if0 _ _).trans (feq (by decide : ¬ ((1 : Int32) = (0 : Int32)))).2) (by decide) (by decide) k) ?_
    show G (s₁.setTop (mkF m 33 #[.val (.int p0), .val (.int p1), .val (.int (1 : Int32)), .unset, .unset] []))
    refine gv (fun t k => XS.iloadN X0.here hx rfl (hb hby at_33) rfl k) ?_
    show G (s₁.setTop (mkF m 34 #[.val (.int p0), .val (.int p1), .val (.int (1 : Int32)), .unset, .unset] [(.int (1 : Int32))]))
    refine gv (fun t k => XS.iconst X0.here hx rfl (hb hby at_34) k) ?_
    show G (s₁.setTop (mkF m 35 #[.val (.int p0), .val (.int p1), .val (.int (1 : Int32)), .unset, .unset] [(.int (1 : Int32)), (.int (1 : Int32))]))
    refine gv (fun t k => XS.icmpNo X0.here hx rfl (hb hby at_35) rfl (teq (by decide : (1 : Int32) = (1 : Int32))).2 k) ?_
    show G (s₁.setTop (mkF m 38 #[.val (.int p0), .val (.int p1), .val (.int (1 : Int32)), .unset, .unset] []))
    obtain ⟨T10, X10, e10, st10⟩ := getS2 X0 hx hZ hown (host := "") (Or.inl (hw _ (List.mem_of_getElem? (i := 17) rfl))) Via.refl e0 (u1.ext O0.2) (g := (mkF m 38 #[.val (.int p0), .val (.int p1), .val (.int (1 : Int32)), .unset, .unset] [])) rfl (hb hby at_38)
    refine gv st10 ?_
    show G (T10.setTop (mkF m 41 #[.val (.int p0), .val (.int p1), .val (.int (1 : Int32)), .unset, .unset] [(.ref A_OPTIONAL)]))
    refine gv (fun t k => XS.iloadN X10.here hx rfl (hb hby at_41) rfl k) ?_
    show G (T10.setTop (mkF m 42 #[.val (.int p0), .val (.int p1), .val (.int (1 : Int32)), .unset, .unset] [(.int p1), (.ref A_OPTIONAL)]))
    obtain ⟨cq11, kq11, q11a, q11b, q11c⟩ := isOf hZ e10 (u6.ext O0.2)
    obtain ⟨_, _, ⟨T11, L11, k11, n11⟩, -, X11, ⟨Lc11, hQ11, l11, y11, z11⟩, st11⟩ := X10.virtualBack hx (y := (⟨"com/example/dvalin/dvalin/Occurs", "allows", "(I)Z"⟩ : MethodName)) (z := (⟨"com/example/dvalin/dvalin/Occurs", "allows", "(I)Z"⟩ : MethodName)) hown (mvT hZ (hw _ (List.mem_of_getElem? (i := 4) rfl))) (mvT hZ (hw _ (List.mem_of_getElem? (i := 5) rfl))) (notFace_of_selects (args := #[]) (mvT hZ (hw _ (List.mem_of_getElem? (i := 7) rfl)))) (mvT hZ (hw _ (List.mem_of_getElem? (i := 7) rfl))) (mvT hZ (hw _ (List.mem_of_getElem? (i := 6) rfl))) (by decide) (backOf (W := 0) (rm_allows l Z a0 hw [] A_OPTIONAL p1 (0 : Int32) (1 : Int32) h0 n0 O0 (u11.ext O0.2) (u16.ext O0.2)) hZ (hw _ (List.mem_of_getElem? (i := 8) rfl)) (hw _ (List.mem_of_getElem? (i := 2) rfl)) (by decide) (by decide)) q11a q11c (g := (mkF m 42 #[.val (.int p0), .val (.int p1), .val (.int (1 : Int32)), .unset, .unset] [(.int p1), (.ref A_OPTIONAL)])) rfl (by rw [hml]; rfl) (Steps.refl _) (argsL := [(.int p1)]) (rest := []) (lenOf pd_0 rfl) rfl (by show 2 * 0 + _ ≤ _; exact Nat.le_of_eq rfl) (hb hby at_42) (fun _ _ => ⟨rfl, e10, (by decide : 0 + 0 ≤ _), (by decide : 0 + 0 ≤ _)⟩)
    dsimp only [Pt.U, Pt.locs, Pt.cells, Pt.slots] at X11 l11 y11 z11 st11 hQ11
    subst l11 y11 z11
    obtain ⟨rfl, Nq11, eq11⟩ := hQ11
    have N12 := Fr.app N0 Nq11
    by_cases hb13 : p1 < (0 : Int32)
    · rw [if_pos hb13] at st11
      refine gv (fun t k => st11.trans k) ?_
      show G (T11.setTop (mkF m 45 #[.val (.int p0), .val (.int p1), .val (.int (1 : Int32)), .unset, .unset] [(.int (0 : Int32))]))
      refine gv (fun t k => XS.istoreN X11.here hx rfl (hb hby at_45) rfl (l' := #[.val (.int p0), .val (.int p1), .val (.int (1 : Int32)), .val (.int (0 : Int32)), .unset]) rfl k) ?_
      show G (T11.setTop (mkF m 46 #[.val (.int p0), .val (.int p1), .val (.int (1 : Int32)), .val (.int (0 : Int32)), .unset] []))
      refine gv (fun t k => XS.iloadN X11.here hx rfl (hb hby at_46) rfl k) ?_
      show G (T11.setTop (mkF m 47 #[.val (.int p0), .val (.int p1), .val (.int (1 : Int32)), .val (.int (0 : Int32)), .unset] [(.int p1)]))
      by_cases hc14 : p1 = (0 : Int32)
      · refine gv (fun t k => XS.ifYes X11.here hx rfl (pc0 := 47) (pc' := 55) rfl (hb hby at_47) rfl ((if0 _ _).trans (teq hc14).1) (by decide) (by decide) k) ?_
        show G (T11.setTop (mkF m 55 #[.val (.int p0), .val (.int p1), .val (.int (1 : Int32)), .val (.int (0 : Int32)), .unset] []))
        refine gv (fun t k => XS.iconst X11.here hx rfl (hb hby at_55) k) ?_
        show G (T11.setTop (mkF m 56 #[.val (.int p0), .val (.int p1), .val (.int (1 : Int32)), .val (.int (0 : Int32)), .unset] [(.int (1 : Int32))]))
        refine gv (fun t k => XS.goto X11.here hx rfl (pc0 := 56) (pc' := 60) rfl (hb hby at_56) (by decide) (by decide) k) ?_
        show G (T11.setTop (mkF m 60 #[.val (.int p0), .val (.int p1), .val (.int (1 : Int32)), .val (.int (0 : Int32)), .unset] [(.int (1 : Int32))]))
        refine gv (fun t k => XS.istore X11.here hx rfl (hb hby at_60) rfl (l' := #[.val (.int p0), .val (.int p1), .val (.int (1 : Int32)), .val (.int (0 : Int32)), .val (.int (1 : Int32))]) rfl k) ?_
        show G (T11.setTop (mkF m 62 #[.val (.int p0), .val (.int p1), .val (.int (1 : Int32)), .val (.int (0 : Int32)), .val (.int (1 : Int32))] []))
        refine gv (fun t k => XS.goto X11.here hx rfl (pc0 := 62) (pc' := 140) rfl (hb hby at_62) (by decide) (by decide) k) ?_
        show G (T11.setTop (mkF m 140 #[.val (.int p0), .val (.int p1), .val (.int (1 : Int32)), .val (.int (0 : Int32)), .val (.int (1 : Int32))] []))
        refine gv (fun t k => XS.iloadN X11.here hx rfl (hb hby at_140) rfl k) ?_
        show G (T11.setTop (mkF m 141 #[.val (.int p0), .val (.int p1), .val (.int (1 : Int32)), .val (.int (0 : Int32)), .val (.int (1 : Int32))] [(.int (0 : Int32))]))
        refine gv (fun t k => XS.iload X11.here hx rfl (hb hby at_141) rfl k) ?_
        show G (T11.setTop (mkF m 143 #[.val (.int p0), .val (.int p1), .val (.int (1 : Int32)), .val (.int (0 : Int32)), .val (.int (1 : Int32))] [(.int (1 : Int32)), (.int (0 : Int32))]))
        refine gv (fun t k => XS.icmpYes X11.here hx rfl (pc0 := 143) (pc' := 150) rfl (hb hby at_143) rfl (feq (by decide : ¬ ((0 : Int32) = (1 : Int32)))).2 (by decide) (by decide) k) ?_
        show G (T11.setTop (mkF m 150 #[.val (.int p0), .val (.int p1), .val (.int (1 : Int32)), .val (.int (0 : Int32)), .val (.int (1 : Int32))] []))
        refine gv (fun t k => XS.iconst X11.here hx rfl (hb hby at_150) k) ?_
        show G (T11.setTop (mkF m 151 #[.val (.int p0), .val (.int p1), .val (.int (1 : Int32)), .val (.int (0 : Int32)), .val (.int (1 : Int32))] [(.int (0 : Int32))]))
        (exfalso; have := rng32 p1; try simp only [Int32.lt_iff_toInt_lt, Int64.lt_iff_toInt_lt, ← Int32.toInt_inj, ← Int64.toInt_inj, (by decide : (0 : Int32).toInt = 0)] at hb13; try simp only [Int32.lt_iff_toInt_lt, Int64.lt_iff_toInt_lt, ← Int32.toInt_inj, ← Int64.toInt_inj, (by decide : (0 : Int32).toInt = 0)] at hc14; omega)
      · refine gv (fun t k => XS.ifNo X11.here hx rfl (hb hby at_47) rfl ((if0 _ _).trans (feq hc14).1) k) ?_
        show G (T11.setTop (mkF m 50 #[.val (.int p0), .val (.int p1), .val (.int (1 : Int32)), .val (.int (0 : Int32)), .unset] []))
        refine gv (fun t k => XS.iloadN X11.here hx rfl (hb hby at_50) rfl k) ?_
        show G (T11.setTop (mkF m 51 #[.val (.int p0), .val (.int p1), .val (.int (1 : Int32)), .val (.int (0 : Int32)), .unset] [(.int p1)]))
        refine gv (fun t k => XS.iconst X11.here hx rfl (hb hby at_51) k) ?_
        show G (T11.setTop (mkF m 52 #[.val (.int p0), .val (.int p1), .val (.int (1 : Int32)), .val (.int (0 : Int32)), .unset] [(.int (1 : Int32)), (.int p1)]))
        by_cases hc15 : p1 = (1 : Int32)
        · refine gv (fun t k => XS.icmpNo X11.here hx rfl (hb hby at_52) rfl (teq hc15).2 k) ?_
          show G (T11.setTop (mkF m 55 #[.val (.int p0), .val (.int p1), .val (.int (1 : Int32)), .val (.int (0 : Int32)), .unset] []))
          refine gv (fun t k => XS.iconst X11.here hx rfl (hb hby at_55) k) ?_
          show G (T11.setTop (mkF m 56 #[.val (.int p0), .val (.int p1), .val (.int (1 : Int32)), .val (.int (0 : Int32)), .unset] [(.int (1 : Int32))]))
          refine gv (fun t k => XS.goto X11.here hx rfl (pc0 := 56) (pc' := 60) rfl (hb hby at_56) (by decide) (by decide) k) ?_
          show G (T11.setTop (mkF m 60 #[.val (.int p0), .val (.int p1), .val (.int (1 : Int32)), .val (.int (0 : Int32)), .unset] [(.int (1 : Int32))]))
          refine gv (fun t k => XS.istore X11.here hx rfl (hb hby at_60) rfl (l' := #[.val (.int p0), .val (.int p1), .val (.int (1 : Int32)), .val (.int (0 : Int32)), .val (.int (1 : Int32))]) rfl k) ?_
          show G (T11.setTop (mkF m 62 #[.val (.int p0), .val (.int p1), .val (.int (1 : Int32)), .val (.int (0 : Int32)), .val (.int (1 : Int32))] []))
          refine gv (fun t k => XS.goto X11.here hx rfl (pc0 := 62) (pc' := 140) rfl (hb hby at_62) (by decide) (by decide) k) ?_
          show G (T11.setTop (mkF m 140 #[.val (.int p0), .val (.int p1), .val (.int (1 : Int32)), .val (.int (0 : Int32)), .val (.int (1 : Int32))] []))
          refine gv (fun t k => XS.iloadN X11.here hx rfl (hb hby at_140) rfl k) ?_
          show G (T11.setTop (mkF m 141 #[.val (.int p0), .val (.int p1), .val (.int (1 : Int32)), .val (.int (0 : Int32)), .val (.int (1 : Int32))] [(.int (0 : Int32))]))
          refine gv (fun t k => XS.iload X11.here hx rfl (hb hby at_141) rfl k) ?_
          show G (T11.setTop (mkF m 143 #[.val (.int p0), .val (.int p1), .val (.int (1 : Int32)), .val (.int (0 : Int32)), .val (.int (1 : Int32))] [(.int (1 : Int32)), (.int (0 : Int32))]))
          refine gv (fun t k => XS.icmpYes X11.here hx rfl (pc0 := 143) (pc' := 150) rfl (hb hby at_143) rfl (feq (by decide : ¬ ((0 : Int32) = (1 : Int32)))).2 (by decide) (by decide) k) ?_
          show G (T11.setTop (mkF m 150 #[.val (.int p0), .val (.int p1), .val (.int (1 : Int32)), .val (.int (0 : Int32)), .val (.int (1 : Int32))] []))
          refine gv (fun t k => XS.iconst X11.here hx rfl (hb hby at_150) k) ?_
          show G (T11.setTop (mkF m 151 #[.val (.int p0), .val (.int p1), .val (.int (1 : Int32)), .val (.int (0 : Int32)), .val (.int (1 : Int32))] [(.int (0 : Int32))]))
          (exfalso; have := rng32 p1; try simp only [Int32.lt_iff_toInt_lt, Int64.lt_iff_toInt_lt, ← Int32.toInt_inj, ← Int64.toInt_inj, (by decide : (0 : Int32).toInt = 0), (by decide : (1 : Int32).toInt = 1)] at hb13; try simp only [Int32.lt_iff_toInt_lt, Int64.lt_iff_toInt_lt, ← Int32.toInt_inj, ← Int64.toInt_inj, (by decide : (0 : Int32).toInt = 0), (by decide : (1 : Int32).toInt = 1)] at hc14; try simp only [Int32.lt_iff_toInt_lt, Int64.lt_iff_toInt_lt, ← Int32.toInt_inj, ← Int64.toInt_inj, (by decide : (0 : Int32).toInt = 0), (by decide : (1 : Int32).toInt = 1)] at hc15; omega)
        · refine gv (fun t k => XS.icmpYes X11.here hx rfl (pc0 := 52) (pc' := 59) rfl (hb hby at_52) rfl (feq hc15).2 (by decide) (by decide) k) ?_
          show G (T11.setTop (mkF m 59 #[.val (.int p0), .val (.int p1), .val (.int (1 : Int32)), .val (.int (0 : Int32)), .unset] []))
          refine gv (fun t k => XS.iconst X11.here hx rfl (hb hby at_59) k) ?_
          show G (T11.setTop (mkF m 60 #[.val (.int p0), .val (.int p1), .val (.int (1 : Int32)), .val (.int (0 : Int32)), .unset] [(.int (0 : Int32))]))
          refine gv (fun t k => XS.istore X11.here hx rfl (hb hby at_60) rfl (l' := #[.val (.int p0), .val (.int p1), .val (.int (1 : Int32)), .val (.int (0 : Int32)), .val (.int (0 : Int32))]) rfl k) ?_
          show G (T11.setTop (mkF m 62 #[.val (.int p0), .val (.int p1), .val (.int (1 : Int32)), .val (.int (0 : Int32)), .val (.int (0 : Int32))] []))
          refine gv (fun t k => XS.goto X11.here hx rfl (pc0 := 62) (pc' := 140) rfl (hb hby at_62) (by decide) (by decide) k) ?_
          show G (T11.setTop (mkF m 140 #[.val (.int p0), .val (.int p1), .val (.int (1 : Int32)), .val (.int (0 : Int32)), .val (.int (0 : Int32))] []))
          refine gv (fun t k => XS.iloadN X11.here hx rfl (hb hby at_140) rfl k) ?_
          show G (T11.setTop (mkF m 141 #[.val (.int p0), .val (.int p1), .val (.int (1 : Int32)), .val (.int (0 : Int32)), .val (.int (0 : Int32))] [(.int (0 : Int32))]))
          refine gv (fun t k => XS.iload X11.here hx rfl (hb hby at_141) rfl k) ?_
          show G (T11.setTop (mkF m 143 #[.val (.int p0), .val (.int p1), .val (.int (1 : Int32)), .val (.int (0 : Int32)), .val (.int (0 : Int32))] [(.int (0 : Int32)), (.int (0 : Int32))]))
          refine gv (fun t k => XS.icmpNo X11.here hx rfl (hb hby at_143) rfl (teq (by decide : (0 : Int32) = (0 : Int32))).2 k) ?_
          show G (T11.setTop (mkF m 146 #[.val (.int p0), .val (.int p1), .val (.int (1 : Int32)), .val (.int (0 : Int32)), .val (.int (0 : Int32))] []))
          refine gv (fun t k => XS.iconst X11.here hx rfl (hb hby at_146) k) ?_
          show G (T11.setTop (mkF m 147 #[.val (.int p0), .val (.int p1), .val (.int (1 : Int32)), .val (.int (0 : Int32)), .val (.int (0 : Int32))] [(.int (1 : Int32))]))
          refine gv (fun t k => XS.goto X11.here hx rfl (pc0 := 147) (pc' := 151) rfl (hb hby at_147) (by decide) (by decide) k) ?_
          show G (T11.setTop (mkF m 151 #[.val (.int p0), .val (.int p1), .val (.int (1 : Int32)), .val (.int (0 : Int32)), .val (.int (0 : Int32))] [(.int (1 : Int32))]))
          refine gf _ (own_ret X11 Bd.notSynchronized (v := some (.int (1 : Int32))) (fun h => by rw [Bd.returns] at h; cases h) ?_ (by decide) (by decide) (fun fs hr => retN X11 hx (t := .boolean) Bd.returns (by simp) (hb hby at_151) hr))
          show Q0 Z p0 p1 A_UNBOUNDED A_OPTIONAL A_REQUIRED A_ONE_OR_MORE A_NONE h0 n0 _ T11.heap _
          rw [eq11]
          exact ⟨rfl, N12⟩
    · skip
      by_cases hb16 : (1 : Int32) < p1
      · rw [if_neg hb13, if_pos hb16] at st11
        refine gv (fun t k => st11.trans k) ?_
        show G (T11.setTop (mkF m 45 #[.val (.int p0), .val (.int p1), .val (.int (1 : Int32)), .unset, .unset] [(.int (0 : Int32))]))
        refine gv (fun t k => XS.istoreN X11.here hx rfl (hb hby at_45) rfl (l' := #[.val (.int p0), .val (.int p1), .val (.int (1 : Int32)), .val (.int (0 : Int32)), .unset]) rfl k) ?_
        show G (T11.setTop (mkF m 46 #[.val (.int p0), .val (.int p1), .val (.int (1 : Int32)), .val (.int (0 : Int32)), .unset] []))
        refine gv (fun t k => XS.iloadN X11.here hx rfl (hb hby at_46) rfl k) ?_
        show G (T11.setTop (mkF m 47 #[.val (.int p0), .val (.int p1), .val (.int (1 : Int32)), .val (.int (0 : Int32)), .unset] [(.int p1)]))
        by_cases hc17 : p1 = (0 : Int32)
        · refine gv (fun t k => XS.ifYes X11.here hx rfl (pc0 := 47) (pc' := 55) rfl (hb hby at_47) rfl ((if0 _ _).trans (teq hc17).1) (by decide) (by decide) k) ?_
          show G (T11.setTop (mkF m 55 #[.val (.int p0), .val (.int p1), .val (.int (1 : Int32)), .val (.int (0 : Int32)), .unset] []))
          refine gv (fun t k => XS.iconst X11.here hx rfl (hb hby at_55) k) ?_
          show G (T11.setTop (mkF m 56 #[.val (.int p0), .val (.int p1), .val (.int (1 : Int32)), .val (.int (0 : Int32)), .unset] [(.int (1 : Int32))]))
          refine gv (fun t k => XS.goto X11.here hx rfl (pc0 := 56) (pc' := 60) rfl (hb hby at_56) (by decide) (by decide) k) ?_
          show G (T11.setTop (mkF m 60 #[.val (.int p0), .val (.int p1), .val (.int (1 : Int32)), .val (.int (0 : Int32)), .unset] [(.int (1 : Int32))]))
          refine gv (fun t k => XS.istore X11.here hx rfl (hb hby at_60) rfl (l' := #[.val (.int p0), .val (.int p1), .val (.int (1 : Int32)), .val (.int (0 : Int32)), .val (.int (1 : Int32))]) rfl k) ?_
          show G (T11.setTop (mkF m 62 #[.val (.int p0), .val (.int p1), .val (.int (1 : Int32)), .val (.int (0 : Int32)), .val (.int (1 : Int32))] []))
          refine gv (fun t k => XS.goto X11.here hx rfl (pc0 := 62) (pc' := 140) rfl (hb hby at_62) (by decide) (by decide) k) ?_
          show G (T11.setTop (mkF m 140 #[.val (.int p0), .val (.int p1), .val (.int (1 : Int32)), .val (.int (0 : Int32)), .val (.int (1 : Int32))] []))
          refine gv (fun t k => XS.iloadN X11.here hx rfl (hb hby at_140) rfl k) ?_
          show G (T11.setTop (mkF m 141 #[.val (.int p0), .val (.int p1), .val (.int (1 : Int32)), .val (.int (0 : Int32)), .val (.int (1 : Int32))] [(.int (0 : Int32))]))
          refine gv (fun t k => XS.iload X11.here hx rfl (hb hby at_141) rfl k) ?_
          show G (T11.setTop (mkF m 143 #[.val (.int p0), .val (.int p1), .val (.int (1 : Int32)), .val (.int (0 : Int32)), .val (.int (1 : Int32))] [(.int (1 : Int32)), (.int (0 : Int32))]))
          refine gv (fun t k => XS.icmpYes X11.here hx rfl (pc0 := 143) (pc' := 150) rfl (hb hby at_143) rfl (feq (by decide : ¬ ((0 : Int32) = (1 : Int32)))).2 (by decide) (by decide) k) ?_
          show G (T11.setTop (mkF m 150 #[.val (.int p0), .val (.int p1), .val (.int (1 : Int32)), .val (.int (0 : Int32)), .val (.int (1 : Int32))] []))
          refine gv (fun t k => XS.iconst X11.here hx rfl (hb hby at_150) k) ?_
          show G (T11.setTop (mkF m 151 #[.val (.int p0), .val (.int p1), .val (.int (1 : Int32)), .val (.int (0 : Int32)), .val (.int (1 : Int32))] [(.int (0 : Int32))]))
          (exfalso; have := rng32 p1; try simp only [Int32.lt_iff_toInt_lt, Int64.lt_iff_toInt_lt, ← Int32.toInt_inj, ← Int64.toInt_inj, (by decide : (0 : Int32).toInt = 0), (by decide : (1 : Int32).toInt = 1)] at hb13; try simp only [Int32.lt_iff_toInt_lt, Int64.lt_iff_toInt_lt, ← Int32.toInt_inj, ← Int64.toInt_inj, (by decide : (0 : Int32).toInt = 0), (by decide : (1 : Int32).toInt = 1)] at hb16; try simp only [Int32.lt_iff_toInt_lt, Int64.lt_iff_toInt_lt, ← Int32.toInt_inj, ← Int64.toInt_inj, (by decide : (0 : Int32).toInt = 0), (by decide : (1 : Int32).toInt = 1)] at hc17; omega)
        · refine gv (fun t k => XS.ifNo X11.here hx rfl (hb hby at_47) rfl ((if0 _ _).trans (feq hc17).1) k) ?_
          show G (T11.setTop (mkF m 50 #[.val (.int p0), .val (.int p1), .val (.int (1 : Int32)), .val (.int (0 : Int32)), .unset] []))
          refine gv (fun t k => XS.iloadN X11.here hx rfl (hb hby at_50) rfl k) ?_
          show G (T11.setTop (mkF m 51 #[.val (.int p0), .val (.int p1), .val (.int (1 : Int32)), .val (.int (0 : Int32)), .unset] [(.int p1)]))
          refine gv (fun t k => XS.iconst X11.here hx rfl (hb hby at_51) k) ?_
          show G (T11.setTop (mkF m 52 #[.val (.int p0), .val (.int p1), .val (.int (1 : Int32)), .val (.int (0 : Int32)), .unset] [(.int (1 : Int32)), (.int p1)]))
          by_cases hc18 : p1 = (1 : Int32)
          · refine gv (fun t k => XS.icmpNo X11.here hx rfl (hb hby at_52) rfl (teq hc18).2 k) ?_
            show G (T11.setTop (mkF m 55 #[.val (.int p0), .val (.int p1), .val (.int (1 : Int32)), .val (.int (0 : Int32)), .unset] []))
            refine gv (fun t k => XS.iconst X11.here hx rfl (hb hby at_55) k) ?_
            show G (T11.setTop (mkF m 56 #[.val (.int p0), .val (.int p1), .val (.int (1 : Int32)), .val (.int (0 : Int32)), .unset] [(.int (1 : Int32))]))
            refine gv (fun t k => XS.goto X11.here hx rfl (pc0 := 56) (pc' := 60) rfl (hb hby at_56) (by decide) (by decide) k) ?_
            show G (T11.setTop (mkF m 60 #[.val (.int p0), .val (.int p1), .val (.int (1 : Int32)), .val (.int (0 : Int32)), .unset] [(.int (1 : Int32))]))
            refine gv (fun t k => XS.istore X11.here hx rfl (hb hby at_60) rfl (l' := #[.val (.int p0), .val (.int p1), .val (.int (1 : Int32)), .val (.int (0 : Int32)), .val (.int (1 : Int32))]) rfl k) ?_
            show G (T11.setTop (mkF m 62 #[.val (.int p0), .val (.int p1), .val (.int (1 : Int32)), .val (.int (0 : Int32)), .val (.int (1 : Int32))] []))
            refine gv (fun t k => XS.goto X11.here hx rfl (pc0 := 62) (pc' := 140) rfl (hb hby at_62) (by decide) (by decide) k) ?_
            show G (T11.setTop (mkF m 140 #[.val (.int p0), .val (.int p1), .val (.int (1 : Int32)), .val (.int (0 : Int32)), .val (.int (1 : Int32))] []))
            refine gv (fun t k => XS.iloadN X11.here hx rfl (hb hby at_140) rfl k) ?_
            show G (T11.setTop (mkF m 141 #[.val (.int p0), .val (.int p1), .val (.int (1 : Int32)), .val (.int (0 : Int32)), .val (.int (1 : Int32))] [(.int (0 : Int32))]))
            refine gv (fun t k => XS.iload X11.here hx rfl (hb hby at_141) rfl k) ?_
            show G (T11.setTop (mkF m 143 #[.val (.int p0), .val (.int p1), .val (.int (1 : Int32)), .val (.int (0 : Int32)), .val (.int (1 : Int32))] [(.int (1 : Int32)), (.int (0 : Int32))]))
            refine gv (fun t k => XS.icmpYes X11.here hx rfl (pc0 := 143) (pc' := 150) rfl (hb hby at_143) rfl (feq (by decide : ¬ ((0 : Int32) = (1 : Int32)))).2 (by decide) (by decide) k) ?_
            show G (T11.setTop (mkF m 150 #[.val (.int p0), .val (.int p1), .val (.int (1 : Int32)), .val (.int (0 : Int32)), .val (.int (1 : Int32))] []))
            refine gv (fun t k => XS.iconst X11.here hx rfl (hb hby at_150) k) ?_
            show G (T11.setTop (mkF m 151 #[.val (.int p0), .val (.int p1), .val (.int (1 : Int32)), .val (.int (0 : Int32)), .val (.int (1 : Int32))] [(.int (0 : Int32))]))
            (exfalso; have := rng32 p1; try simp only [Int32.lt_iff_toInt_lt, Int64.lt_iff_toInt_lt, ← Int32.toInt_inj, ← Int64.toInt_inj, (by decide : (0 : Int32).toInt = 0), (by decide : (1 : Int32).toInt = 1)] at hb13; try simp only [Int32.lt_iff_toInt_lt, Int64.lt_iff_toInt_lt, ← Int32.toInt_inj, ← Int64.toInt_inj, (by decide : (0 : Int32).toInt = 0), (by decide : (1 : Int32).toInt = 1)] at hb16; try simp only [Int32.lt_iff_toInt_lt, Int64.lt_iff_toInt_lt, ← Int32.toInt_inj, ← Int64.toInt_inj, (by decide : (0 : Int32).toInt = 0), (by decide : (1 : Int32).toInt = 1)] at hc17; try simp only [Int32.lt_iff_toInt_lt, Int64.lt_iff_toInt_lt, ← Int32.toInt_inj, ← Int64.toInt_inj, (by decide : (0 : Int32).toInt = 0), (by decide : (1 : Int32).toInt = 1)] at hc18; omega)
          · refine gv (fun t k => XS.icmpYes X11.here hx rfl (pc0 := 52) (pc' := 59) rfl (hb hby at_52) rfl (feq hc18).2 (by decide) (by decide) k) ?_
            show G (T11.setTop (mkF m 59 #[.val (.int p0), .val (.int p1), .val (.int (1 : Int32)), .val (.int (0 : Int32)), .unset] []))
            refine gv (fun t k => XS.iconst X11.here hx rfl (hb hby at_59) k) ?_
            show G (T11.setTop (mkF m 60 #[.val (.int p0), .val (.int p1), .val (.int (1 : Int32)), .val (.int (0 : Int32)), .unset] [(.int (0 : Int32))]))
            refine gv (fun t k => XS.istore X11.here hx rfl (hb hby at_60) rfl (l' := #[.val (.int p0), .val (.int p1), .val (.int (1 : Int32)), .val (.int (0 : Int32)), .val (.int (0 : Int32))]) rfl k) ?_
            show G (T11.setTop (mkF m 62 #[.val (.int p0), .val (.int p1), .val (.int (1 : Int32)), .val (.int (0 : Int32)), .val (.int (0 : Int32))] []))
            refine gv (fun t k => XS.goto X11.here hx rfl (pc0 := 62) (pc' := 140) rfl (hb hby at_62) (by decide) (by decide) k) ?_
            show G (T11.setTop (mkF m 140 #[.val (.int p0), .val (.int p1), .val (.int (1 : Int32)), .val (.int (0 : Int32)), .val (.int (0 : Int32))] []))
            refine gv (fun t k => XS.iloadN X11.here hx rfl (hb hby at_140) rfl k) ?_
            show G (T11.setTop (mkF m 141 #[.val (.int p0), .val (.int p1), .val (.int (1 : Int32)), .val (.int (0 : Int32)), .val (.int (0 : Int32))] [(.int (0 : Int32))]))
            refine gv (fun t k => XS.iload X11.here hx rfl (hb hby at_141) rfl k) ?_
            show G (T11.setTop (mkF m 143 #[.val (.int p0), .val (.int p1), .val (.int (1 : Int32)), .val (.int (0 : Int32)), .val (.int (0 : Int32))] [(.int (0 : Int32)), (.int (0 : Int32))]))
            refine gv (fun t k => XS.icmpNo X11.here hx rfl (hb hby at_143) rfl (teq (by decide : (0 : Int32) = (0 : Int32))).2 k) ?_
            show G (T11.setTop (mkF m 146 #[.val (.int p0), .val (.int p1), .val (.int (1 : Int32)), .val (.int (0 : Int32)), .val (.int (0 : Int32))] []))
            refine gv (fun t k => XS.iconst X11.here hx rfl (hb hby at_146) k) ?_
            show G (T11.setTop (mkF m 147 #[.val (.int p0), .val (.int p1), .val (.int (1 : Int32)), .val (.int (0 : Int32)), .val (.int (0 : Int32))] [(.int (1 : Int32))]))
            refine gv (fun t k => XS.goto X11.here hx rfl (pc0 := 147) (pc' := 151) rfl (hb hby at_147) (by decide) (by decide) k) ?_
            show G (T11.setTop (mkF m 151 #[.val (.int p0), .val (.int p1), .val (.int (1 : Int32)), .val (.int (0 : Int32)), .val (.int (0 : Int32))] [(.int (1 : Int32))]))
            refine gf _ (own_ret X11 Bd.notSynchronized (v := some (.int (1 : Int32))) (fun h => by rw [Bd.returns] at h; cases h) ?_ (by decide) (by decide) (fun fs hr => retN X11 hx (t := .boolean) Bd.returns (by simp) (hb hby at_151) hr))
            show Q0 Z p0 p1 A_UNBOUNDED A_OPTIONAL A_REQUIRED A_ONE_OR_MORE A_NONE h0 n0 _ T11.heap _
            rw [eq11]
            exact ⟨rfl, N12⟩
      · skip
        rw [if_neg hb13, if_neg hb16] at st11
        refine gv (fun t k => st11.trans k) ?_
        show G (T11.setTop (mkF m 45 #[.val (.int p0), .val (.int p1), .val (.int (1 : Int32)), .unset, .unset] [(.int (1 : Int32))]))
        refine gv (fun t k => XS.istoreN X11.here hx rfl (hb hby at_45) rfl (l' := #[.val (.int p0), .val (.int p1), .val (.int (1 : Int32)), .val (.int (1 : Int32)), .unset]) rfl k) ?_
        show G (T11.setTop (mkF m 46 #[.val (.int p0), .val (.int p1), .val (.int (1 : Int32)), .val (.int (1 : Int32)), .unset] []))
        refine gv (fun t k => XS.iloadN X11.here hx rfl (hb hby at_46) rfl k) ?_
        show G (T11.setTop (mkF m 47 #[.val (.int p0), .val (.int p1), .val (.int (1 : Int32)), .val (.int (1 : Int32)), .unset] [(.int p1)]))
        by_cases hc19 : p1 = (0 : Int32)
        · refine gv (fun t k => XS.ifYes X11.here hx rfl (pc0 := 47) (pc' := 55) rfl (hb hby at_47) rfl ((if0 _ _).trans (teq hc19).1) (by decide) (by decide) k) ?_
          show G (T11.setTop (mkF m 55 #[.val (.int p0), .val (.int p1), .val (.int (1 : Int32)), .val (.int (1 : Int32)), .unset] []))
          refine gv (fun t k => XS.iconst X11.here hx rfl (hb hby at_55) k) ?_
          show G (T11.setTop (mkF m 56 #[.val (.int p0), .val (.int p1), .val (.int (1 : Int32)), .val (.int (1 : Int32)), .unset] [(.int (1 : Int32))]))
          refine gv (fun t k => XS.goto X11.here hx rfl (pc0 := 56) (pc' := 60) rfl (hb hby at_56) (by decide) (by decide) k) ?_
          show G (T11.setTop (mkF m 60 #[.val (.int p0), .val (.int p1), .val (.int (1 : Int32)), .val (.int (1 : Int32)), .unset] [(.int (1 : Int32))]))
          refine gv (fun t k => XS.istore X11.here hx rfl (hb hby at_60) rfl (l' := #[.val (.int p0), .val (.int p1), .val (.int (1 : Int32)), .val (.int (1 : Int32)), .val (.int (1 : Int32))]) rfl k) ?_
          show G (T11.setTop (mkF m 62 #[.val (.int p0), .val (.int p1), .val (.int (1 : Int32)), .val (.int (1 : Int32)), .val (.int (1 : Int32))] []))
          refine gv (fun t k => XS.goto X11.here hx rfl (pc0 := 62) (pc' := 140) rfl (hb hby at_62) (by decide) (by decide) k) ?_
          show G (T11.setTop (mkF m 140 #[.val (.int p0), .val (.int p1), .val (.int (1 : Int32)), .val (.int (1 : Int32)), .val (.int (1 : Int32))] []))
          refine gv (fun t k => XS.iloadN X11.here hx rfl (hb hby at_140) rfl k) ?_
          show G (T11.setTop (mkF m 141 #[.val (.int p0), .val (.int p1), .val (.int (1 : Int32)), .val (.int (1 : Int32)), .val (.int (1 : Int32))] [(.int (1 : Int32))]))
          refine gv (fun t k => XS.iload X11.here hx rfl (hb hby at_141) rfl k) ?_
          show G (T11.setTop (mkF m 143 #[.val (.int p0), .val (.int p1), .val (.int (1 : Int32)), .val (.int (1 : Int32)), .val (.int (1 : Int32))] [(.int (1 : Int32)), (.int (1 : Int32))]))
          refine gv (fun t k => XS.icmpNo X11.here hx rfl (hb hby at_143) rfl (teq (by decide : (1 : Int32) = (1 : Int32))).2 k) ?_
          show G (T11.setTop (mkF m 146 #[.val (.int p0), .val (.int p1), .val (.int (1 : Int32)), .val (.int (1 : Int32)), .val (.int (1 : Int32))] []))
          refine gv (fun t k => XS.iconst X11.here hx rfl (hb hby at_146) k) ?_
          show G (T11.setTop (mkF m 147 #[.val (.int p0), .val (.int p1), .val (.int (1 : Int32)), .val (.int (1 : Int32)), .val (.int (1 : Int32))] [(.int (1 : Int32))]))
          refine gv (fun t k => XS.goto X11.here hx rfl (pc0 := 147) (pc' := 151) rfl (hb hby at_147) (by decide) (by decide) k) ?_
          show G (T11.setTop (mkF m 151 #[.val (.int p0), .val (.int p1), .val (.int (1 : Int32)), .val (.int (1 : Int32)), .val (.int (1 : Int32))] [(.int (1 : Int32))]))
          refine gf _ (own_ret X11 Bd.notSynchronized (v := some (.int (1 : Int32))) (fun h => by rw [Bd.returns] at h; cases h) ?_ (by decide) (by decide) (fun fs hr => retN X11 hx (t := .boolean) Bd.returns (by simp) (hb hby at_151) hr))
          show Q0 Z p0 p1 A_UNBOUNDED A_OPTIONAL A_REQUIRED A_ONE_OR_MORE A_NONE h0 n0 _ T11.heap _
          rw [eq11]
          exact ⟨rfl, N12⟩
        · refine gv (fun t k => XS.ifNo X11.here hx rfl (hb hby at_47) rfl ((if0 _ _).trans (feq hc19).1) k) ?_
          show G (T11.setTop (mkF m 50 #[.val (.int p0), .val (.int p1), .val (.int (1 : Int32)), .val (.int (1 : Int32)), .unset] []))
          refine gv (fun t k => XS.iloadN X11.here hx rfl (hb hby at_50) rfl k) ?_
          show G (T11.setTop (mkF m 51 #[.val (.int p0), .val (.int p1), .val (.int (1 : Int32)), .val (.int (1 : Int32)), .unset] [(.int p1)]))
          refine gv (fun t k => XS.iconst X11.here hx rfl (hb hby at_51) k) ?_
          show G (T11.setTop (mkF m 52 #[.val (.int p0), .val (.int p1), .val (.int (1 : Int32)), .val (.int (1 : Int32)), .unset] [(.int (1 : Int32)), (.int p1)]))
          by_cases hc20 : p1 = (1 : Int32)
          · refine gv (fun t k => XS.icmpNo X11.here hx rfl (hb hby at_52) rfl (teq hc20).2 k) ?_
            show G (T11.setTop (mkF m 55 #[.val (.int p0), .val (.int p1), .val (.int (1 : Int32)), .val (.int (1 : Int32)), .unset] []))
            refine gv (fun t k => XS.iconst X11.here hx rfl (hb hby at_55) k) ?_
            show G (T11.setTop (mkF m 56 #[.val (.int p0), .val (.int p1), .val (.int (1 : Int32)), .val (.int (1 : Int32)), .unset] [(.int (1 : Int32))]))
            refine gv (fun t k => XS.goto X11.here hx rfl (pc0 := 56) (pc' := 60) rfl (hb hby at_56) (by decide) (by decide) k) ?_
            show G (T11.setTop (mkF m 60 #[.val (.int p0), .val (.int p1), .val (.int (1 : Int32)), .val (.int (1 : Int32)), .unset] [(.int (1 : Int32))]))
            refine gv (fun t k => XS.istore X11.here hx rfl (hb hby at_60) rfl (l' := #[.val (.int p0), .val (.int p1), .val (.int (1 : Int32)), .val (.int (1 : Int32)), .val (.int (1 : Int32))]) rfl k) ?_
            show G (T11.setTop (mkF m 62 #[.val (.int p0), .val (.int p1), .val (.int (1 : Int32)), .val (.int (1 : Int32)), .val (.int (1 : Int32))] []))
            refine gv (fun t k => XS.goto X11.here hx rfl (pc0 := 62) (pc' := 140) rfl (hb hby at_62) (by decide) (by decide) k) ?_
            show G (T11.setTop (mkF m 140 #[.val (.int p0), .val (.int p1), .val (.int (1 : Int32)), .val (.int (1 : Int32)), .val (.int (1 : Int32))] []))
            refine gv (fun t k => XS.iloadN X11.here hx rfl (hb hby at_140) rfl k) ?_
            show G (T11.setTop (mkF m 141 #[.val (.int p0), .val (.int p1), .val (.int (1 : Int32)), .val (.int (1 : Int32)), .val (.int (1 : Int32))] [(.int (1 : Int32))]))
            refine gv (fun t k => XS.iload X11.here hx rfl (hb hby at_141) rfl k) ?_
            show G (T11.setTop (mkF m 143 #[.val (.int p0), .val (.int p1), .val (.int (1 : Int32)), .val (.int (1 : Int32)), .val (.int (1 : Int32))] [(.int (1 : Int32)), (.int (1 : Int32))]))
            refine gv (fun t k => XS.icmpNo X11.here hx rfl (hb hby at_143) rfl (teq (by decide : (1 : Int32) = (1 : Int32))).2 k) ?_
            show G (T11.setTop (mkF m 146 #[.val (.int p0), .val (.int p1), .val (.int (1 : Int32)), .val (.int (1 : Int32)), .val (.int (1 : Int32))] []))
            refine gv (fun t k => XS.iconst X11.here hx rfl (hb hby at_146) k) ?_
            show G (T11.setTop (mkF m 147 #[.val (.int p0), .val (.int p1), .val (.int (1 : Int32)), .val (.int (1 : Int32)), .val (.int (1 : Int32))] [(.int (1 : Int32))]))
            refine gv (fun t k => XS.goto X11.here hx rfl (pc0 := 147) (pc' := 151) rfl (hb hby at_147) (by decide) (by decide) k) ?_
            show G (T11.setTop (mkF m 151 #[.val (.int p0), .val (.int p1), .val (.int (1 : Int32)), .val (.int (1 : Int32)), .val (.int (1 : Int32))] [(.int (1 : Int32))]))
            refine gf _ (own_ret X11 Bd.notSynchronized (v := some (.int (1 : Int32))) (fun h => by rw [Bd.returns] at h; cases h) ?_ (by decide) (by decide) (fun fs hr => retN X11 hx (t := .boolean) Bd.returns (by simp) (hb hby at_151) hr))
            show Q0 Z p0 p1 A_UNBOUNDED A_OPTIONAL A_REQUIRED A_ONE_OR_MORE A_NONE h0 n0 _ T11.heap _
            rw [eq11]
            exact ⟨rfl, N12⟩
          · refine gv (fun t k => XS.icmpYes X11.here hx rfl (pc0 := 52) (pc' := 59) rfl (hb hby at_52) rfl (feq hc20).2 (by decide) (by decide) k) ?_
            show G (T11.setTop (mkF m 59 #[.val (.int p0), .val (.int p1), .val (.int (1 : Int32)), .val (.int (1 : Int32)), .unset] []))
            refine gv (fun t k => XS.iconst X11.here hx rfl (hb hby at_59) k) ?_
            show G (T11.setTop (mkF m 60 #[.val (.int p0), .val (.int p1), .val (.int (1 : Int32)), .val (.int (1 : Int32)), .unset] [(.int (0 : Int32))]))
            refine gv (fun t k => XS.istore X11.here hx rfl (hb hby at_60) rfl (l' := #[.val (.int p0), .val (.int p1), .val (.int (1 : Int32)), .val (.int (1 : Int32)), .val (.int (0 : Int32))]) rfl k) ?_
            show G (T11.setTop (mkF m 62 #[.val (.int p0), .val (.int p1), .val (.int (1 : Int32)), .val (.int (1 : Int32)), .val (.int (0 : Int32))] []))
            refine gv (fun t k => XS.goto X11.here hx rfl (pc0 := 62) (pc' := 140) rfl (hb hby at_62) (by decide) (by decide) k) ?_
            show G (T11.setTop (mkF m 140 #[.val (.int p0), .val (.int p1), .val (.int (1 : Int32)), .val (.int (1 : Int32)), .val (.int (0 : Int32))] []))
            refine gv (fun t k => XS.iloadN X11.here hx rfl (hb hby at_140) rfl k) ?_
            show G (T11.setTop (mkF m 141 #[.val (.int p0), .val (.int p1), .val (.int (1 : Int32)), .val (.int (1 : Int32)), .val (.int (0 : Int32))] [(.int (1 : Int32))]))
            refine gv (fun t k => XS.iload X11.here hx rfl (hb hby at_141) rfl k) ?_
            show G (T11.setTop (mkF m 143 #[.val (.int p0), .val (.int p1), .val (.int (1 : Int32)), .val (.int (1 : Int32)), .val (.int (0 : Int32))] [(.int (0 : Int32)), (.int (1 : Int32))]))
            refine gv (fun t k => XS.icmpYes X11.here hx rfl (pc0 := 143) (pc' := 150) rfl (hb hby at_143) rfl (feq (by decide : ¬ ((1 : Int32) = (0 : Int32)))).2 (by decide) (by decide) k) ?_
            show G (T11.setTop (mkF m 150 #[.val (.int p0), .val (.int p1), .val (.int (1 : Int32)), .val (.int (1 : Int32)), .val (.int (0 : Int32))] []))
            refine gv (fun t k => XS.iconst X11.here hx rfl (hb hby at_150) k) ?_
            show G (T11.setTop (mkF m 151 #[.val (.int p0), .val (.int p1), .val (.int (1 : Int32)), .val (.int (1 : Int32)), .val (.int (0 : Int32))] [(.int (0 : Int32))]))
            (exfalso; have := rng32 p1; try simp only [Int32.lt_iff_toInt_lt, Int64.lt_iff_toInt_lt, ← Int32.toInt_inj, ← Int64.toInt_inj, (by decide : (0 : Int32).toInt = 0), (by decide : (1 : Int32).toInt = 1)] at hb13; try simp only [Int32.lt_iff_toInt_lt, Int64.lt_iff_toInt_lt, ← Int32.toInt_inj, ← Int64.toInt_inj, (by decide : (0 : Int32).toInt = 0), (by decide : (1 : Int32).toInt = 1)] at hb16; try simp only [Int32.lt_iff_toInt_lt, Int64.lt_iff_toInt_lt, ← Int32.toInt_inj, ← Int64.toInt_inj, (by decide : (0 : Int32).toInt = 0), (by decide : (1 : Int32).toInt = 1)] at hc19; try simp only [Int32.lt_iff_toInt_lt, Int64.lt_iff_toInt_lt, ← Int32.toInt_inj, ← Int64.toInt_inj, (by decide : (0 : Int32).toInt = 0), (by decide : (1 : Int32).toInt = 1)] at hc20; omega)
  · rw [q]
    show G (s₁.setTop (mkF m 7 #[.val (.int p0), .val (.int p1), .val (.int (2 : Int32)), .unset, .unset] []))
    refine gv (fun t k => XS.iloadN X0.here hx rfl (hb hby at_7) rfl k) ?_
    show G (s₁.setTop (mkF m 8 #[.val (.int p0), .val (.int p1), .val (.int (2 : Int32)), .unset, .unset] [(.int (2 : Int32))]))
    refine gv (fun t k => XS.ifYes X0.here hx rfl (pc0 := 8) (pc' := 33) rfl (hb hby at_8) rfl ((if0 _ _).trans (feq (by decide : ¬ ((2 : Int32) = (0 : Int32)))).2) (by decide) (by decide) k) ?_
    show G (s₁.setTop (mkF m 33 #[.val (.int p0), .val (.int p1), .val (.int (2 : Int32)), .unset, .unset] []))
    refine gv (fun t k => XS.iloadN X0.here hx rfl (hb hby at_33) rfl k) ?_
    show G (s₁.setTop (mkF m 34 #[.val (.int p0), .val (.int p1), .val (.int (2 : Int32)), .unset, .unset] [(.int (2 : Int32))]))
    refine gv (fun t k => XS.iconst X0.here hx rfl (hb hby at_34) k) ?_
    show G (s₁.setTop (mkF m 35 #[.val (.int p0), .val (.int p1), .val (.int (2 : Int32)), .unset, .unset] [(.int (1 : Int32)), (.int (2 : Int32))]))
    refine gv (fun t k => XS.icmpYes X0.here hx rfl (pc0 := 35) (pc' := 65) rfl (hb hby at_35) rfl (feq (by decide : ¬ ((2 : Int32) = (1 : Int32)))).2 (by decide) (by decide) k) ?_
    show G (s₁.setTop (mkF m 65 #[.val (.int p0), .val (.int p1), .val (.int (2 : Int32)), .unset, .unset] []))
    refine gv (fun t k => XS.iloadN X0.here hx rfl (hb hby at_65) rfl k) ?_
    show G (s₁.setTop (mkF m 66 #[.val (.int p0), .val (.int p1), .val (.int (2 : Int32)), .unset, .unset] [(.int (2 : Int32))]))
    refine gv (fun t k => XS.iconst X0.here hx rfl (hb hby at_66) k) ?_
    show G (s₁.setTop (mkF m 67 #[.val (.int p0), .val (.int p1), .val (.int (2 : Int32)), .unset, .unset] [(.int (2 : Int32)), (.int (2 : Int32))]))
    refine gv (fun t k => XS.icmpNo X0.here hx rfl (hb hby at_67) rfl (teq (by decide : (2 : Int32) = (2 : Int32))).2 k) ?_
    show G (s₁.setTop (mkF m 70 #[.val (.int p0), .val (.int p1), .val (.int (2 : Int32)), .unset, .unset] []))
    obtain ⟨T21, X21, e21, st21⟩ := getS2 X0 hx hZ hown (host := "") (Or.inl (hw _ (List.mem_of_getElem? (i := 19) rfl))) Via.refl e0 (u2.ext O0.2) (g := (mkF m 70 #[.val (.int p0), .val (.int p1), .val (.int (2 : Int32)), .unset, .unset] [])) rfl (hb hby at_70)
    refine gv st21 ?_
    show G (T21.setTop (mkF m 73 #[.val (.int p0), .val (.int p1), .val (.int (2 : Int32)), .unset, .unset] [(.ref A_REQUIRED)]))
    refine gv (fun t k => XS.iloadN X21.here hx rfl (hb hby at_73) rfl k) ?_
    show G (T21.setTop (mkF m 74 #[.val (.int p0), .val (.int p1), .val (.int (2 : Int32)), .unset, .unset] [(.int p1), (.ref A_REQUIRED)]))
    obtain ⟨cq22, kq22, q22a, q22b, q22c⟩ := isOf hZ e21 (u7.ext O0.2)
    obtain ⟨_, _, ⟨T22, L22, k22, n22⟩, -, X22, ⟨Lc22, hQ22, l22, y22, z22⟩, st22⟩ := X21.virtualBack hx (y := (⟨"com/example/dvalin/dvalin/Occurs", "allows", "(I)Z"⟩ : MethodName)) (z := (⟨"com/example/dvalin/dvalin/Occurs", "allows", "(I)Z"⟩ : MethodName)) hown (mvT hZ (hw _ (List.mem_of_getElem? (i := 4) rfl))) (mvT hZ (hw _ (List.mem_of_getElem? (i := 5) rfl))) (notFace_of_selects (args := #[]) (mvT hZ (hw _ (List.mem_of_getElem? (i := 7) rfl)))) (mvT hZ (hw _ (List.mem_of_getElem? (i := 7) rfl))) (mvT hZ (hw _ (List.mem_of_getElem? (i := 6) rfl))) (by decide) (backOf (W := 0) (rm_allows l Z a0 hw [] A_REQUIRED p1 (1 : Int32) (1 : Int32) h0 n0 O0 (u12.ext O0.2) (u17.ext O0.2)) hZ (hw _ (List.mem_of_getElem? (i := 8) rfl)) (hw _ (List.mem_of_getElem? (i := 2) rfl)) (by decide) (by decide)) q22a q22c (g := (mkF m 74 #[.val (.int p0), .val (.int p1), .val (.int (2 : Int32)), .unset, .unset] [(.int p1), (.ref A_REQUIRED)])) rfl (by rw [hml]; rfl) (Steps.refl _) (argsL := [(.int p1)]) (rest := []) (lenOf pd_0 rfl) rfl (by show 2 * 0 + _ ≤ _; exact Nat.le_of_eq rfl) (hb hby at_74) (fun _ _ => ⟨rfl, e21, (by decide : 0 + 0 ≤ _), (by decide : 0 + 0 ≤ _)⟩)
    dsimp only [Pt.U, Pt.locs, Pt.cells, Pt.slots] at X22 l22 y22 z22 st22 hQ22
    subst l22 y22 z22
    obtain ⟨rfl, Nq22, eq22⟩ := hQ22
    have N23 := Fr.app N0 Nq22
    by_cases hb24 : p1 < (1 : Int32)
    · rw [if_pos hb24] at st22
      refine gv (fun t k => st22.trans k) ?_
      show G (T22.setTop (mkF m 77 #[.val (.int p0), .val (.int p1), .val (.int (2 : Int32)), .unset, .unset] [(.int (0 : Int32))]))
      refine gv (fun t k => XS.istoreN X22.here hx rfl (hb hby at_77) rfl (l' := #[.val (.int p0), .val (.int p1), .val (.int (2 : Int32)), .val (.int (0 : Int32)), .unset]) rfl k) ?_
      show G (T22.setTop (mkF m 78 #[.val (.int p0), .val (.int p1), .val (.int (2 : Int32)), .val (.int (0 : Int32)), .unset] []))
      refine gv (fun t k => XS.iloadN X22.here hx rfl (hb hby at_78) rfl k) ?_
      show G (T22.setTop (mkF m 79 #[.val (.int p0), .val (.int p1), .val (.int (2 : Int32)), .val (.int (0 : Int32)), .unset] [(.int p1)]))
      refine gv (fun t k => XS.iconst X22.here hx rfl (hb hby at_79) k) ?_
      show G (T22.setTop (mkF m 80 #[.val (.int p0), .val (.int p1), .val (.int (2 : Int32)), .val (.int (0 : Int32)), .unset] [(.int (1 : Int32)), (.int p1)]))
      by_cases hc25 : p1 = (1 : Int32)
      · refine gv (fun t k => XS.icmpNo X22.here hx rfl (hb hby at_80) rfl (teq hc25).2 k) ?_
        show G (T22.setTop (mkF m 83 #[.val (.int p0), .val (.int p1), .val (.int (2 : Int32)), .val (.int (0 : Int32)), .unset] []))
        refine gv (fun t k => XS.iconst X22.here hx rfl (hb hby at_83) k) ?_
        show G (T22.setTop (mkF m 84 #[.val (.int p0), .val (.int p1), .val (.int (2 : Int32)), .val (.int (0 : Int32)), .unset] [(.int (1 : Int32))]))
        refine gv (fun t k => XS.goto X22.here hx rfl (pc0 := 84) (pc' := 88) rfl (hb hby at_84) (by decide) (by decide) k) ?_
        show G (T22.setTop (mkF m 88 #[.val (.int p0), .val (.int p1), .val (.int (2 : Int32)), .val (.int (0 : Int32)), .unset] [(.int (1 : Int32))]))
        refine gv (fun t k => XS.istore X22.here hx rfl (hb hby at_88) rfl (l' := #[.val (.int p0), .val (.int p1), .val (.int (2 : Int32)), .val (.int (0 : Int32)), .val (.int (1 : Int32))]) rfl k) ?_
        show G (T22.setTop (mkF m 90 #[.val (.int p0), .val (.int p1), .val (.int (2 : Int32)), .val (.int (0 : Int32)), .val (.int (1 : Int32))] []))
        refine gv (fun t k => XS.goto X22.here hx rfl (pc0 := 90) (pc' := 140) rfl (hb hby at_90) (by decide) (by decide) k) ?_
        show G (T22.setTop (mkF m 140 #[.val (.int p0), .val (.int p1), .val (.int (2 : Int32)), .val (.int (0 : Int32)), .val (.int (1 : Int32))] []))
        refine gv (fun t k => XS.iloadN X22.here hx rfl (hb hby at_140) rfl k) ?_
        show G (T22.setTop (mkF m 141 #[.val (.int p0), .val (.int p1), .val (.int (2 : Int32)), .val (.int (0 : Int32)), .val (.int (1 : Int32))] [(.int (0 : Int32))]))
        refine gv (fun t k => XS.iload X22.here hx rfl (hb hby at_141) rfl k) ?_
        show G (T22.setTop (mkF m 143 #[.val (.int p0), .val (.int p1), .val (.int (2 : Int32)), .val (.int (0 : Int32)), .val (.int (1 : Int32))] [(.int (1 : Int32)), (.int (0 : Int32))]))
        refine gv (fun t k => XS.icmpYes X22.here hx rfl (pc0 := 143) (pc' := 150) rfl (hb hby at_143) rfl (feq (by decide : ¬ ((0 : Int32) = (1 : Int32)))).2 (by decide) (by decide) k) ?_
        show G (T22.setTop (mkF m 150 #[.val (.int p0), .val (.int p1), .val (.int (2 : Int32)), .val (.int (0 : Int32)), .val (.int (1 : Int32))] []))
        refine gv (fun t k => XS.iconst X22.here hx rfl (hb hby at_150) k) ?_
        show G (T22.setTop (mkF m 151 #[.val (.int p0), .val (.int p1), .val (.int (2 : Int32)), .val (.int (0 : Int32)), .val (.int (1 : Int32))] [(.int (0 : Int32))]))
        (exfalso; have := rng32 p1; try simp only [Int32.lt_iff_toInt_lt, Int64.lt_iff_toInt_lt, ← Int32.toInt_inj, ← Int64.toInt_inj, (by decide : (1 : Int32).toInt = 1)] at hb24; try simp only [Int32.lt_iff_toInt_lt, Int64.lt_iff_toInt_lt, ← Int32.toInt_inj, ← Int64.toInt_inj, (by decide : (1 : Int32).toInt = 1)] at hc25; omega)
      · refine gv (fun t k => XS.icmpYes X22.here hx rfl (pc0 := 80) (pc' := 87) rfl (hb hby at_80) rfl (feq hc25).2 (by decide) (by decide) k) ?_
        show G (T22.setTop (mkF m 87 #[.val (.int p0), .val (.int p1), .val (.int (2 : Int32)), .val (.int (0 : Int32)), .unset] []))
        refine gv (fun t k => XS.iconst X22.here hx rfl (hb hby at_87) k) ?_
        show G (T22.setTop (mkF m 88 #[.val (.int p0), .val (.int p1), .val (.int (2 : Int32)), .val (.int (0 : Int32)), .unset] [(.int (0 : Int32))]))
        refine gv (fun t k => XS.istore X22.here hx rfl (hb hby at_88) rfl (l' := #[.val (.int p0), .val (.int p1), .val (.int (2 : Int32)), .val (.int (0 : Int32)), .val (.int (0 : Int32))]) rfl k) ?_
        show G (T22.setTop (mkF m 90 #[.val (.int p0), .val (.int p1), .val (.int (2 : Int32)), .val (.int (0 : Int32)), .val (.int (0 : Int32))] []))
        refine gv (fun t k => XS.goto X22.here hx rfl (pc0 := 90) (pc' := 140) rfl (hb hby at_90) (by decide) (by decide) k) ?_
        show G (T22.setTop (mkF m 140 #[.val (.int p0), .val (.int p1), .val (.int (2 : Int32)), .val (.int (0 : Int32)), .val (.int (0 : Int32))] []))
        refine gv (fun t k => XS.iloadN X22.here hx rfl (hb hby at_140) rfl k) ?_
        show G (T22.setTop (mkF m 141 #[.val (.int p0), .val (.int p1), .val (.int (2 : Int32)), .val (.int (0 : Int32)), .val (.int (0 : Int32))] [(.int (0 : Int32))]))
        refine gv (fun t k => XS.iload X22.here hx rfl (hb hby at_141) rfl k) ?_
        show G (T22.setTop (mkF m 143 #[.val (.int p0), .val (.int p1), .val (.int (2 : Int32)), .val (.int (0 : Int32)), .val (.int (0 : Int32))] [(.int (0 : Int32)), (.int (0 : Int32))]))
        refine gv (fun t k => XS.icmpNo X22.here hx rfl (hb hby at_143) rfl (teq (by decide : (0 : Int32) = (0 : Int32))).2 k) ?_
        show G (T22.setTop (mkF m 146 #[.val (.int p0), .val (.int p1), .val (.int (2 : Int32)), .val (.int (0 : Int32)), .val (.int (0 : Int32))] []))
        refine gv (fun t k => XS.iconst X22.here hx rfl (hb hby at_146) k) ?_
        show G (T22.setTop (mkF m 147 #[.val (.int p0), .val (.int p1), .val (.int (2 : Int32)), .val (.int (0 : Int32)), .val (.int (0 : Int32))] [(.int (1 : Int32))]))
        refine gv (fun t k => XS.goto X22.here hx rfl (pc0 := 147) (pc' := 151) rfl (hb hby at_147) (by decide) (by decide) k) ?_
        show G (T22.setTop (mkF m 151 #[.val (.int p0), .val (.int p1), .val (.int (2 : Int32)), .val (.int (0 : Int32)), .val (.int (0 : Int32))] [(.int (1 : Int32))]))
        refine gf _ (own_ret X22 Bd.notSynchronized (v := some (.int (1 : Int32))) (fun h => by rw [Bd.returns] at h; cases h) ?_ (by decide) (by decide) (fun fs hr => retN X22 hx (t := .boolean) Bd.returns (by simp) (hb hby at_151) hr))
        show Q0 Z p0 p1 A_UNBOUNDED A_OPTIONAL A_REQUIRED A_ONE_OR_MORE A_NONE h0 n0 _ T22.heap _
        rw [eq22]
        exact ⟨rfl, N23⟩
    · skip
      by_cases hb26 : (1 : Int32) < p1
      · rw [if_neg hb24, if_pos hb26] at st22
        refine gv (fun t k => st22.trans k) ?_
        show G (T22.setTop (mkF m 77 #[.val (.int p0), .val (.int p1), .val (.int (2 : Int32)), .unset, .unset] [(.int (0 : Int32))]))
        refine gv (fun t k => XS.istoreN X22.here hx rfl (hb hby at_77) rfl (l' := #[.val (.int p0), .val (.int p1), .val (.int (2 : Int32)), .val (.int (0 : Int32)), .unset]) rfl k) ?_
        show G (T22.setTop (mkF m 78 #[.val (.int p0), .val (.int p1), .val (.int (2 : Int32)), .val (.int (0 : Int32)), .unset] []))
        refine gv (fun t k => XS.iloadN X22.here hx rfl (hb hby at_78) rfl k) ?_
        show G (T22.setTop (mkF m 79 #[.val (.int p0), .val (.int p1), .val (.int (2 : Int32)), .val (.int (0 : Int32)), .unset] [(.int p1)]))
        refine gv (fun t k => XS.iconst X22.here hx rfl (hb hby at_79) k) ?_
        show G (T22.setTop (mkF m 80 #[.val (.int p0), .val (.int p1), .val (.int (2 : Int32)), .val (.int (0 : Int32)), .unset] [(.int (1 : Int32)), (.int p1)]))
        by_cases hc27 : p1 = (1 : Int32)
        · refine gv (fun t k => XS.icmpNo X22.here hx rfl (hb hby at_80) rfl (teq hc27).2 k) ?_
          show G (T22.setTop (mkF m 83 #[.val (.int p0), .val (.int p1), .val (.int (2 : Int32)), .val (.int (0 : Int32)), .unset] []))
          refine gv (fun t k => XS.iconst X22.here hx rfl (hb hby at_83) k) ?_
          show G (T22.setTop (mkF m 84 #[.val (.int p0), .val (.int p1), .val (.int (2 : Int32)), .val (.int (0 : Int32)), .unset] [(.int (1 : Int32))]))
          refine gv (fun t k => XS.goto X22.here hx rfl (pc0 := 84) (pc' := 88) rfl (hb hby at_84) (by decide) (by decide) k) ?_
          show G (T22.setTop (mkF m 88 #[.val (.int p0), .val (.int p1), .val (.int (2 : Int32)), .val (.int (0 : Int32)), .unset] [(.int (1 : Int32))]))
          refine gv (fun t k => XS.istore X22.here hx rfl (hb hby at_88) rfl (l' := #[.val (.int p0), .val (.int p1), .val (.int (2 : Int32)), .val (.int (0 : Int32)), .val (.int (1 : Int32))]) rfl k) ?_
          show G (T22.setTop (mkF m 90 #[.val (.int p0), .val (.int p1), .val (.int (2 : Int32)), .val (.int (0 : Int32)), .val (.int (1 : Int32))] []))
          refine gv (fun t k => XS.goto X22.here hx rfl (pc0 := 90) (pc' := 140) rfl (hb hby at_90) (by decide) (by decide) k) ?_
          show G (T22.setTop (mkF m 140 #[.val (.int p0), .val (.int p1), .val (.int (2 : Int32)), .val (.int (0 : Int32)), .val (.int (1 : Int32))] []))
          refine gv (fun t k => XS.iloadN X22.here hx rfl (hb hby at_140) rfl k) ?_
          show G (T22.setTop (mkF m 141 #[.val (.int p0), .val (.int p1), .val (.int (2 : Int32)), .val (.int (0 : Int32)), .val (.int (1 : Int32))] [(.int (0 : Int32))]))
          refine gv (fun t k => XS.iload X22.here hx rfl (hb hby at_141) rfl k) ?_
          show G (T22.setTop (mkF m 143 #[.val (.int p0), .val (.int p1), .val (.int (2 : Int32)), .val (.int (0 : Int32)), .val (.int (1 : Int32))] [(.int (1 : Int32)), (.int (0 : Int32))]))
          refine gv (fun t k => XS.icmpYes X22.here hx rfl (pc0 := 143) (pc' := 150) rfl (hb hby at_143) rfl (feq (by decide : ¬ ((0 : Int32) = (1 : Int32)))).2 (by decide) (by decide) k) ?_
          show G (T22.setTop (mkF m 150 #[.val (.int p0), .val (.int p1), .val (.int (2 : Int32)), .val (.int (0 : Int32)), .val (.int (1 : Int32))] []))
          refine gv (fun t k => XS.iconst X22.here hx rfl (hb hby at_150) k) ?_
          show G (T22.setTop (mkF m 151 #[.val (.int p0), .val (.int p1), .val (.int (2 : Int32)), .val (.int (0 : Int32)), .val (.int (1 : Int32))] [(.int (0 : Int32))]))
          (exfalso; have := rng32 p1; try simp only [Int32.lt_iff_toInt_lt, Int64.lt_iff_toInt_lt, ← Int32.toInt_inj, ← Int64.toInt_inj, (by decide : (1 : Int32).toInt = 1)] at hb24; try simp only [Int32.lt_iff_toInt_lt, Int64.lt_iff_toInt_lt, ← Int32.toInt_inj, ← Int64.toInt_inj, (by decide : (1 : Int32).toInt = 1)] at hb26; try simp only [Int32.lt_iff_toInt_lt, Int64.lt_iff_toInt_lt, ← Int32.toInt_inj, ← Int64.toInt_inj, (by decide : (1 : Int32).toInt = 1)] at hc27; omega)
        · refine gv (fun t k => XS.icmpYes X22.here hx rfl (pc0 := 80) (pc' := 87) rfl (hb hby at_80) rfl (feq hc27).2 (by decide) (by decide) k) ?_
          show G (T22.setTop (mkF m 87 #[.val (.int p0), .val (.int p1), .val (.int (2 : Int32)), .val (.int (0 : Int32)), .unset] []))
          refine gv (fun t k => XS.iconst X22.here hx rfl (hb hby at_87) k) ?_
          show G (T22.setTop (mkF m 88 #[.val (.int p0), .val (.int p1), .val (.int (2 : Int32)), .val (.int (0 : Int32)), .unset] [(.int (0 : Int32))]))
          refine gv (fun t k => XS.istore X22.here hx rfl (hb hby at_88) rfl (l' := #[.val (.int p0), .val (.int p1), .val (.int (2 : Int32)), .val (.int (0 : Int32)), .val (.int (0 : Int32))]) rfl k) ?_
          show G (T22.setTop (mkF m 90 #[.val (.int p0), .val (.int p1), .val (.int (2 : Int32)), .val (.int (0 : Int32)), .val (.int (0 : Int32))] []))
          refine gv (fun t k => XS.goto X22.here hx rfl (pc0 := 90) (pc' := 140) rfl (hb hby at_90) (by decide) (by decide) k) ?_
          show G (T22.setTop (mkF m 140 #[.val (.int p0), .val (.int p1), .val (.int (2 : Int32)), .val (.int (0 : Int32)), .val (.int (0 : Int32))] []))
          refine gv (fun t k => XS.iloadN X22.here hx rfl (hb hby at_140) rfl k) ?_
          show G (T22.setTop (mkF m 141 #[.val (.int p0), .val (.int p1), .val (.int (2 : Int32)), .val (.int (0 : Int32)), .val (.int (0 : Int32))] [(.int (0 : Int32))]))
          refine gv (fun t k => XS.iload X22.here hx rfl (hb hby at_141) rfl k) ?_
          show G (T22.setTop (mkF m 143 #[.val (.int p0), .val (.int p1), .val (.int (2 : Int32)), .val (.int (0 : Int32)), .val (.int (0 : Int32))] [(.int (0 : Int32)), (.int (0 : Int32))]))
          refine gv (fun t k => XS.icmpNo X22.here hx rfl (hb hby at_143) rfl (teq (by decide : (0 : Int32) = (0 : Int32))).2 k) ?_
          show G (T22.setTop (mkF m 146 #[.val (.int p0), .val (.int p1), .val (.int (2 : Int32)), .val (.int (0 : Int32)), .val (.int (0 : Int32))] []))
          refine gv (fun t k => XS.iconst X22.here hx rfl (hb hby at_146) k) ?_
          show G (T22.setTop (mkF m 147 #[.val (.int p0), .val (.int p1), .val (.int (2 : Int32)), .val (.int (0 : Int32)), .val (.int (0 : Int32))] [(.int (1 : Int32))]))
          refine gv (fun t k => XS.goto X22.here hx rfl (pc0 := 147) (pc' := 151) rfl (hb hby at_147) (by decide) (by decide) k) ?_
          show G (T22.setTop (mkF m 151 #[.val (.int p0), .val (.int p1), .val (.int (2 : Int32)), .val (.int (0 : Int32)), .val (.int (0 : Int32))] [(.int (1 : Int32))]))
          refine gf _ (own_ret X22 Bd.notSynchronized (v := some (.int (1 : Int32))) (fun h => by rw [Bd.returns] at h; cases h) ?_ (by decide) (by decide) (fun fs hr => retN X22 hx (t := .boolean) Bd.returns (by simp) (hb hby at_151) hr))
          show Q0 Z p0 p1 A_UNBOUNDED A_OPTIONAL A_REQUIRED A_ONE_OR_MORE A_NONE h0 n0 _ T22.heap _
          rw [eq22]
          exact ⟨rfl, N23⟩
      · skip
        rw [if_neg hb24, if_neg hb26] at st22
        refine gv (fun t k => st22.trans k) ?_
        show G (T22.setTop (mkF m 77 #[.val (.int p0), .val (.int p1), .val (.int (2 : Int32)), .unset, .unset] [(.int (1 : Int32))]))
        refine gv (fun t k => XS.istoreN X22.here hx rfl (hb hby at_77) rfl (l' := #[.val (.int p0), .val (.int p1), .val (.int (2 : Int32)), .val (.int (1 : Int32)), .unset]) rfl k) ?_
        show G (T22.setTop (mkF m 78 #[.val (.int p0), .val (.int p1), .val (.int (2 : Int32)), .val (.int (1 : Int32)), .unset] []))
        refine gv (fun t k => XS.iloadN X22.here hx rfl (hb hby at_78) rfl k) ?_
        show G (T22.setTop (mkF m 79 #[.val (.int p0), .val (.int p1), .val (.int (2 : Int32)), .val (.int (1 : Int32)), .unset] [(.int p1)]))
        refine gv (fun t k => XS.iconst X22.here hx rfl (hb hby at_79) k) ?_
        show G (T22.setTop (mkF m 80 #[.val (.int p0), .val (.int p1), .val (.int (2 : Int32)), .val (.int (1 : Int32)), .unset] [(.int (1 : Int32)), (.int p1)]))
        by_cases hc28 : p1 = (1 : Int32)
        · refine gv (fun t k => XS.icmpNo X22.here hx rfl (hb hby at_80) rfl (teq hc28).2 k) ?_
          show G (T22.setTop (mkF m 83 #[.val (.int p0), .val (.int p1), .val (.int (2 : Int32)), .val (.int (1 : Int32)), .unset] []))
          refine gv (fun t k => XS.iconst X22.here hx rfl (hb hby at_83) k) ?_
          show G (T22.setTop (mkF m 84 #[.val (.int p0), .val (.int p1), .val (.int (2 : Int32)), .val (.int (1 : Int32)), .unset] [(.int (1 : Int32))]))
          refine gv (fun t k => XS.goto X22.here hx rfl (pc0 := 84) (pc' := 88) rfl (hb hby at_84) (by decide) (by decide) k) ?_
          show G (T22.setTop (mkF m 88 #[.val (.int p0), .val (.int p1), .val (.int (2 : Int32)), .val (.int (1 : Int32)), .unset] [(.int (1 : Int32))]))
          refine gv (fun t k => XS.istore X22.here hx rfl (hb hby at_88) rfl (l' := #[.val (.int p0), .val (.int p1), .val (.int (2 : Int32)), .val (.int (1 : Int32)), .val (.int (1 : Int32))]) rfl k) ?_
          show G (T22.setTop (mkF m 90 #[.val (.int p0), .val (.int p1), .val (.int (2 : Int32)), .val (.int (1 : Int32)), .val (.int (1 : Int32))] []))
          refine gv (fun t k => XS.goto X22.here hx rfl (pc0 := 90) (pc' := 140) rfl (hb hby at_90) (by decide) (by decide) k) ?_
          show G (T22.setTop (mkF m 140 #[.val (.int p0), .val (.int p1), .val (.int (2 : Int32)), .val (.int (1 : Int32)), .val (.int (1 : Int32))] []))
          refine gv (fun t k => XS.iloadN X22.here hx rfl (hb hby at_140) rfl k) ?_
          show G (T22.setTop (mkF m 141 #[.val (.int p0), .val (.int p1), .val (.int (2 : Int32)), .val (.int (1 : Int32)), .val (.int (1 : Int32))] [(.int (1 : Int32))]))
          refine gv (fun t k => XS.iload X22.here hx rfl (hb hby at_141) rfl k) ?_
          show G (T22.setTop (mkF m 143 #[.val (.int p0), .val (.int p1), .val (.int (2 : Int32)), .val (.int (1 : Int32)), .val (.int (1 : Int32))] [(.int (1 : Int32)), (.int (1 : Int32))]))
          refine gv (fun t k => XS.icmpNo X22.here hx rfl (hb hby at_143) rfl (teq (by decide : (1 : Int32) = (1 : Int32))).2 k) ?_
          show G (T22.setTop (mkF m 146 #[.val (.int p0), .val (.int p1), .val (.int (2 : Int32)), .val (.int (1 : Int32)), .val (.int (1 : Int32))] []))
          refine gv (fun t k => XS.iconst X22.here hx rfl (hb hby at_146) k) ?_
          show G (T22.setTop (mkF m 147 #[.val (.int p0), .val (.int p1), .val (.int (2 : Int32)), .val (.int (1 : Int32)), .val (.int (1 : Int32))] [(.int (1 : Int32))]))
          refine gv (fun t k => XS.goto X22.here hx rfl (pc0 := 147) (pc' := 151) rfl (hb hby at_147) (by decide) (by decide) k) ?_
          show G (T22.setTop (mkF m 151 #[.val (.int p0), .val (.int p1), .val (.int (2 : Int32)), .val (.int (1 : Int32)), .val (.int (1 : Int32))] [(.int (1 : Int32))]))
          refine gf _ (own_ret X22 Bd.notSynchronized (v := some (.int (1 : Int32))) (fun h => by rw [Bd.returns] at h; cases h) ?_ (by decide) (by decide) (fun fs hr => retN X22 hx (t := .boolean) Bd.returns (by simp) (hb hby at_151) hr))
          show Q0 Z p0 p1 A_UNBOUNDED A_OPTIONAL A_REQUIRED A_ONE_OR_MORE A_NONE h0 n0 _ T22.heap _
          rw [eq22]
          exact ⟨rfl, N23⟩
        · refine gv (fun t k => XS.icmpYes X22.here hx rfl (pc0 := 80) (pc' := 87) rfl (hb hby at_80) rfl (feq hc28).2 (by decide) (by decide) k) ?_
          show G (T22.setTop (mkF m 87 #[.val (.int p0), .val (.int p1), .val (.int (2 : Int32)), .val (.int (1 : Int32)), .unset] []))
          refine gv (fun t k => XS.iconst X22.here hx rfl (hb hby at_87) k) ?_
          show G (T22.setTop (mkF m 88 #[.val (.int p0), .val (.int p1), .val (.int (2 : Int32)), .val (.int (1 : Int32)), .unset] [(.int (0 : Int32))]))
          refine gv (fun t k => XS.istore X22.here hx rfl (hb hby at_88) rfl (l' := #[.val (.int p0), .val (.int p1), .val (.int (2 : Int32)), .val (.int (1 : Int32)), .val (.int (0 : Int32))]) rfl k) ?_
          show G (T22.setTop (mkF m 90 #[.val (.int p0), .val (.int p1), .val (.int (2 : Int32)), .val (.int (1 : Int32)), .val (.int (0 : Int32))] []))
          refine gv (fun t k => XS.goto X22.here hx rfl (pc0 := 90) (pc' := 140) rfl (hb hby at_90) (by decide) (by decide) k) ?_
          show G (T22.setTop (mkF m 140 #[.val (.int p0), .val (.int p1), .val (.int (2 : Int32)), .val (.int (1 : Int32)), .val (.int (0 : Int32))] []))
          refine gv (fun t k => XS.iloadN X22.here hx rfl (hb hby at_140) rfl k) ?_
          show G (T22.setTop (mkF m 141 #[.val (.int p0), .val (.int p1), .val (.int (2 : Int32)), .val (.int (1 : Int32)), .val (.int (0 : Int32))] [(.int (1 : Int32))]))
          refine gv (fun t k => XS.iload X22.here hx rfl (hb hby at_141) rfl k) ?_
          show G (T22.setTop (mkF m 143 #[.val (.int p0), .val (.int p1), .val (.int (2 : Int32)), .val (.int (1 : Int32)), .val (.int (0 : Int32))] [(.int (0 : Int32)), (.int (1 : Int32))]))
          refine gv (fun t k => XS.icmpYes X22.here hx rfl (pc0 := 143) (pc' := 150) rfl (hb hby at_143) rfl (feq (by decide : ¬ ((1 : Int32) = (0 : Int32)))).2 (by decide) (by decide) k) ?_
          show G (T22.setTop (mkF m 150 #[.val (.int p0), .val (.int p1), .val (.int (2 : Int32)), .val (.int (1 : Int32)), .val (.int (0 : Int32))] []))
          refine gv (fun t k => XS.iconst X22.here hx rfl (hb hby at_150) k) ?_
          show G (T22.setTop (mkF m 151 #[.val (.int p0), .val (.int p1), .val (.int (2 : Int32)), .val (.int (1 : Int32)), .val (.int (0 : Int32))] [(.int (0 : Int32))]))
          (exfalso; have := rng32 p1; try simp only [Int32.lt_iff_toInt_lt, Int64.lt_iff_toInt_lt, ← Int32.toInt_inj, ← Int64.toInt_inj, (by decide : (1 : Int32).toInt = 1)] at hb24; try simp only [Int32.lt_iff_toInt_lt, Int64.lt_iff_toInt_lt, ← Int32.toInt_inj, ← Int64.toInt_inj, (by decide : (1 : Int32).toInt = 1)] at hb26; try simp only [Int32.lt_iff_toInt_lt, Int64.lt_iff_toInt_lt, ← Int32.toInt_inj, ← Int64.toInt_inj, (by decide : (1 : Int32).toInt = 1)] at hc28; omega)
  · rw [q]
    show G (s₁.setTop (mkF m 7 #[.val (.int p0), .val (.int p1), .val (.int (3 : Int32)), .unset, .unset] []))
    refine gv (fun t k => XS.iloadN X0.here hx rfl (hb hby at_7) rfl k) ?_
    show G (s₁.setTop (mkF m 8 #[.val (.int p0), .val (.int p1), .val (.int (3 : Int32)), .unset, .unset] [(.int (3 : Int32))]))
    refine gv (fun t k => XS.ifYes X0.here hx rfl (pc0 := 8) (pc' := 33) rfl (hb hby at_8) rfl ((if0 _ _).trans (feq (by decide : ¬ ((3 : Int32) = (0 : Int32)))).2) (by decide) (by decide) k) ?_
    show G (s₁.setTop (mkF m 33 #[.val (.int p0), .val (.int p1), .val (.int (3 : Int32)), .unset, .unset] []))
    refine gv (fun t k => XS.iloadN X0.here hx rfl (hb hby at_33) rfl k) ?_
    show G (s₁.setTop (mkF m 34 #[.val (.int p0), .val (.int p1), .val (.int (3 : Int32)), .unset, .unset] [(.int (3 : Int32))]))
    refine gv (fun t k => XS.iconst X0.here hx rfl (hb hby at_34) k) ?_
    show G (s₁.setTop (mkF m 35 #[.val (.int p0), .val (.int p1), .val (.int (3 : Int32)), .unset, .unset] [(.int (1 : Int32)), (.int (3 : Int32))]))
    refine gv (fun t k => XS.icmpYes X0.here hx rfl (pc0 := 35) (pc' := 65) rfl (hb hby at_35) rfl (feq (by decide : ¬ ((3 : Int32) = (1 : Int32)))).2 (by decide) (by decide) k) ?_
    show G (s₁.setTop (mkF m 65 #[.val (.int p0), .val (.int p1), .val (.int (3 : Int32)), .unset, .unset] []))
    refine gv (fun t k => XS.iloadN X0.here hx rfl (hb hby at_65) rfl k) ?_
    show G (s₁.setTop (mkF m 66 #[.val (.int p0), .val (.int p1), .val (.int (3 : Int32)), .unset, .unset] [(.int (3 : Int32))]))
    refine gv (fun t k => XS.iconst X0.here hx rfl (hb hby at_66) k) ?_
    show G (s₁.setTop (mkF m 67 #[.val (.int p0), .val (.int p1), .val (.int (3 : Int32)), .unset, .unset] [(.int (2 : Int32)), (.int (3 : Int32))]))
    refine gv (fun t k => XS.icmpYes X0.here hx rfl (pc0 := 67) (pc' := 93) rfl (hb hby at_67) rfl (feq (by decide : ¬ ((3 : Int32) = (2 : Int32)))).2 (by decide) (by decide) k) ?_
    show G (s₁.setTop (mkF m 93 #[.val (.int p0), .val (.int p1), .val (.int (3 : Int32)), .unset, .unset] []))
    refine gv (fun t k => XS.iloadN X0.here hx rfl (hb hby at_93) rfl k) ?_
    show G (s₁.setTop (mkF m 94 #[.val (.int p0), .val (.int p1), .val (.int (3 : Int32)), .unset, .unset] [(.int (3 : Int32))]))
    refine gv (fun t k => XS.iconst X0.here hx rfl (hb hby at_94) k) ?_
    show G (s₁.setTop (mkF m 95 #[.val (.int p0), .val (.int p1), .val (.int (3 : Int32)), .unset, .unset] [(.int (3 : Int32)), (.int (3 : Int32))]))
    refine gv (fun t k => XS.icmpNo X0.here hx rfl (hb hby at_95) rfl (teq (by decide : (3 : Int32) = (3 : Int32))).2 k) ?_
    show G (s₁.setTop (mkF m 98 #[.val (.int p0), .val (.int p1), .val (.int (3 : Int32)), .unset, .unset] []))
    obtain ⟨T29, X29, e29, st29⟩ := getS2 X0 hx hZ hown (host := "") (Or.inl (hw _ (List.mem_of_getElem? (i := 15) rfl))) Via.refl e0 (u3.ext O0.2) (g := (mkF m 98 #[.val (.int p0), .val (.int p1), .val (.int (3 : Int32)), .unset, .unset] [])) rfl (hb hby at_98)
    refine gv st29 ?_
    show G (T29.setTop (mkF m 101 #[.val (.int p0), .val (.int p1), .val (.int (3 : Int32)), .unset, .unset] [(.ref A_ONE_OR_MORE)]))
    refine gv (fun t k => XS.iloadN X29.here hx rfl (hb hby at_101) rfl k) ?_
    show G (T29.setTop (mkF m 102 #[.val (.int p0), .val (.int p1), .val (.int (3 : Int32)), .unset, .unset] [(.int p1), (.ref A_ONE_OR_MORE)]))
    obtain ⟨cq30, kq30, q30a, q30b, q30c⟩ := isOf hZ e29 (u8.ext O0.2)
    obtain ⟨_, _, ⟨T30, L30, k30, n30⟩, -, X30, ⟨Lc30, hQ30, l30, y30, z30⟩, st30⟩ := X29.virtualBack hx (y := (⟨"com/example/dvalin/dvalin/Occurs", "allows", "(I)Z"⟩ : MethodName)) (z := (⟨"com/example/dvalin/dvalin/Occurs", "allows", "(I)Z"⟩ : MethodName)) hown (mvT hZ (hw _ (List.mem_of_getElem? (i := 4) rfl))) (mvT hZ (hw _ (List.mem_of_getElem? (i := 5) rfl))) (notFace_of_selects (args := #[]) (mvT hZ (hw _ (List.mem_of_getElem? (i := 7) rfl)))) (mvT hZ (hw _ (List.mem_of_getElem? (i := 7) rfl))) (mvT hZ (hw _ (List.mem_of_getElem? (i := 6) rfl))) (by decide) (backOf (W := 0) (rm_allows l Z a0 hw [] A_ONE_OR_MORE p1 (1 : Int32) (2147483647 : Int32) h0 n0 O0 (u13.ext O0.2) (u18.ext O0.2)) hZ (hw _ (List.mem_of_getElem? (i := 8) rfl)) (hw _ (List.mem_of_getElem? (i := 2) rfl)) (by decide) (by decide)) q30a q30c (g := (mkF m 102 #[.val (.int p0), .val (.int p1), .val (.int (3 : Int32)), .unset, .unset] [(.int p1), (.ref A_ONE_OR_MORE)])) rfl (by rw [hml]; rfl) (Steps.refl _) (argsL := [(.int p1)]) (rest := []) (lenOf pd_0 rfl) rfl (by show 2 * 0 + _ ≤ _; exact Nat.le_of_eq rfl) (hb hby at_102) (fun _ _ => ⟨rfl, e29, (by decide : 0 + 0 ≤ _), (by decide : 0 + 0 ≤ _)⟩)
    dsimp only [Pt.U, Pt.locs, Pt.cells, Pt.slots] at X30 l30 y30 z30 st30 hQ30
    subst l30 y30 z30
    obtain ⟨rfl, Nq30, eq30⟩ := hQ30
    have N31 := Fr.app N0 Nq30
    by_cases hb32 : p1 < (1 : Int32)
    · rw [if_pos hb32] at st30
      refine gv (fun t k => st30.trans k) ?_
      show G (T30.setTop (mkF m 105 #[.val (.int p0), .val (.int p1), .val (.int (3 : Int32)), .unset, .unset] [(.int (0 : Int32))]))
      refine gv (fun t k => XS.istoreN X30.here hx rfl (hb hby at_105) rfl (l' := #[.val (.int p0), .val (.int p1), .val (.int (3 : Int32)), .val (.int (0 : Int32)), .unset]) rfl k) ?_
      show G (T30.setTop (mkF m 106 #[.val (.int p0), .val (.int p1), .val (.int (3 : Int32)), .val (.int (0 : Int32)), .unset] []))
      refine gv (fun t k => XS.iloadN X30.here hx rfl (hb hby at_106) rfl k) ?_
      show G (T30.setTop (mkF m 107 #[.val (.int p0), .val (.int p1), .val (.int (3 : Int32)), .val (.int (0 : Int32)), .unset] [(.int p1)]))
      refine gv (fun t k => XS.iconst X30.here hx rfl (hb hby at_107) k) ?_
      show G (T30.setTop (mkF m 108 #[.val (.int p0), .val (.int p1), .val (.int (3 : Int32)), .val (.int (0 : Int32)), .unset] [(.int (1 : Int32)), (.int p1)]))
      refine gv (fun t k => XS.icmpYes X30.here hx rfl (pc0 := 108) (pc' := 115) rfl (hb hby at_108) rfl (tlt hb32).1 (by decide) (by decide) k) ?_
      show G (T30.setTop (mkF m 115 #[.val (.int p0), .val (.int p1), .val (.int (3 : Int32)), .val (.int (0 : Int32)), .unset] []))
      refine gv (fun t k => XS.iconst X30.here hx rfl (hb hby at_115) k) ?_
      show G (T30.setTop (mkF m 116 #[.val (.int p0), .val (.int p1), .val (.int (3 : Int32)), .val (.int (0 : Int32)), .unset] [(.int (0 : Int32))]))
      refine gv (fun t k => XS.istore X30.here hx rfl (hb hby at_116) rfl (l' := #[.val (.int p0), .val (.int p1), .val (.int (3 : Int32)), .val (.int (0 : Int32)), .val (.int (0 : Int32))]) rfl k) ?_
      show G (T30.setTop (mkF m 118 #[.val (.int p0), .val (.int p1), .val (.int (3 : Int32)), .val (.int (0 : Int32)), .val (.int (0 : Int32))] []))
      refine gv (fun t k => XS.goto X30.here hx rfl (pc0 := 118) (pc' := 140) rfl (hb hby at_118) (by decide) (by decide) k) ?_
      show G (T30.setTop (mkF m 140 #[.val (.int p0), .val (.int p1), .val (.int (3 : Int32)), .val (.int (0 : Int32)), .val (.int (0 : Int32))] []))
      refine gv (fun t k => XS.iloadN X30.here hx rfl (hb hby at_140) rfl k) ?_
      show G (T30.setTop (mkF m 141 #[.val (.int p0), .val (.int p1), .val (.int (3 : Int32)), .val (.int (0 : Int32)), .val (.int (0 : Int32))] [(.int (0 : Int32))]))
      refine gv (fun t k => XS.iload X30.here hx rfl (hb hby at_141) rfl k) ?_
      show G (T30.setTop (mkF m 143 #[.val (.int p0), .val (.int p1), .val (.int (3 : Int32)), .val (.int (0 : Int32)), .val (.int (0 : Int32))] [(.int (0 : Int32)), (.int (0 : Int32))]))
      refine gv (fun t k => XS.icmpNo X30.here hx rfl (hb hby at_143) rfl (teq (by decide : (0 : Int32) = (0 : Int32))).2 k) ?_
      show G (T30.setTop (mkF m 146 #[.val (.int p0), .val (.int p1), .val (.int (3 : Int32)), .val (.int (0 : Int32)), .val (.int (0 : Int32))] []))
      refine gv (fun t k => XS.iconst X30.here hx rfl (hb hby at_146) k) ?_
      show G (T30.setTop (mkF m 147 #[.val (.int p0), .val (.int p1), .val (.int (3 : Int32)), .val (.int (0 : Int32)), .val (.int (0 : Int32))] [(.int (1 : Int32))]))
      refine gv (fun t k => XS.goto X30.here hx rfl (pc0 := 147) (pc' := 151) rfl (hb hby at_147) (by decide) (by decide) k) ?_
      show G (T30.setTop (mkF m 151 #[.val (.int p0), .val (.int p1), .val (.int (3 : Int32)), .val (.int (0 : Int32)), .val (.int (0 : Int32))] [(.int (1 : Int32))]))
      refine gf _ (own_ret X30 Bd.notSynchronized (v := some (.int (1 : Int32))) (fun h => by rw [Bd.returns] at h; cases h) ?_ (by decide) (by decide) (fun fs hr => retN X30 hx (t := .boolean) Bd.returns (by simp) (hb hby at_151) hr))
      show Q0 Z p0 p1 A_UNBOUNDED A_OPTIONAL A_REQUIRED A_ONE_OR_MORE A_NONE h0 n0 _ T30.heap _
      rw [eq30]
      exact ⟨rfl, N31⟩
    · skip
      by_cases hb33 : (2147483647 : Int32) < p1
      · rw [if_neg hb32, if_pos hb33] at st30
        refine gv (fun t k => st30.trans k) ?_
        show G (T30.setTop (mkF m 105 #[.val (.int p0), .val (.int p1), .val (.int (3 : Int32)), .unset, .unset] [(.int (0 : Int32))]))
        refine gv (fun t k => XS.istoreN X30.here hx rfl (hb hby at_105) rfl (l' := #[.val (.int p0), .val (.int p1), .val (.int (3 : Int32)), .val (.int (0 : Int32)), .unset]) rfl k) ?_
        show G (T30.setTop (mkF m 106 #[.val (.int p0), .val (.int p1), .val (.int (3 : Int32)), .val (.int (0 : Int32)), .unset] []))
        refine gv (fun t k => XS.iloadN X30.here hx rfl (hb hby at_106) rfl k) ?_
        show G (T30.setTop (mkF m 107 #[.val (.int p0), .val (.int p1), .val (.int (3 : Int32)), .val (.int (0 : Int32)), .unset] [(.int p1)]))
        refine gv (fun t k => XS.iconst X30.here hx rfl (hb hby at_107) k) ?_
        show G (T30.setTop (mkF m 108 #[.val (.int p0), .val (.int p1), .val (.int (3 : Int32)), .val (.int (0 : Int32)), .unset] [(.int (1 : Int32)), (.int p1)]))
        refine gv (fun t k => XS.icmpNo X30.here hx rfl (hb hby at_108) rfl (flt hb32).1 k) ?_
        show G (T30.setTop (mkF m 111 #[.val (.int p0), .val (.int p1), .val (.int (3 : Int32)), .val (.int (0 : Int32)), .unset] []))
        refine gv (fun t k => XS.iconst X30.here hx rfl (hb hby at_111) k) ?_
        show G (T30.setTop (mkF m 112 #[.val (.int p0), .val (.int p1), .val (.int (3 : Int32)), .val (.int (0 : Int32)), .unset] [(.int (1 : Int32))]))
        refine gv (fun t k => XS.goto X30.here hx rfl (pc0 := 112) (pc' := 116) rfl (hb hby at_112) (by decide) (by decide) k) ?_
        show G (T30.setTop (mkF m 116 #[.val (.int p0), .val (.int p1), .val (.int (3 : Int32)), .val (.int (0 : Int32)), .unset] [(.int (1 : Int32))]))
        refine gv (fun t k => XS.istore X30.here hx rfl (hb hby at_116) rfl (l' := #[.val (.int p0), .val (.int p1), .val (.int (3 : Int32)), .val (.int (0 : Int32)), .val (.int (1 : Int32))]) rfl k) ?_
        show G (T30.setTop (mkF m 118 #[.val (.int p0), .val (.int p1), .val (.int (3 : Int32)), .val (.int (0 : Int32)), .val (.int (1 : Int32))] []))
        refine gv (fun t k => XS.goto X30.here hx rfl (pc0 := 118) (pc' := 140) rfl (hb hby at_118) (by decide) (by decide) k) ?_
        show G (T30.setTop (mkF m 140 #[.val (.int p0), .val (.int p1), .val (.int (3 : Int32)), .val (.int (0 : Int32)), .val (.int (1 : Int32))] []))
        refine gv (fun t k => XS.iloadN X30.here hx rfl (hb hby at_140) rfl k) ?_
        show G (T30.setTop (mkF m 141 #[.val (.int p0), .val (.int p1), .val (.int (3 : Int32)), .val (.int (0 : Int32)), .val (.int (1 : Int32))] [(.int (0 : Int32))]))
        refine gv (fun t k => XS.iload X30.here hx rfl (hb hby at_141) rfl k) ?_
        show G (T30.setTop (mkF m 143 #[.val (.int p0), .val (.int p1), .val (.int (3 : Int32)), .val (.int (0 : Int32)), .val (.int (1 : Int32))] [(.int (1 : Int32)), (.int (0 : Int32))]))
        refine gv (fun t k => XS.icmpYes X30.here hx rfl (pc0 := 143) (pc' := 150) rfl (hb hby at_143) rfl (feq (by decide : ¬ ((0 : Int32) = (1 : Int32)))).2 (by decide) (by decide) k) ?_
        show G (T30.setTop (mkF m 150 #[.val (.int p0), .val (.int p1), .val (.int (3 : Int32)), .val (.int (0 : Int32)), .val (.int (1 : Int32))] []))
        refine gv (fun t k => XS.iconst X30.here hx rfl (hb hby at_150) k) ?_
        show G (T30.setTop (mkF m 151 #[.val (.int p0), .val (.int p1), .val (.int (3 : Int32)), .val (.int (0 : Int32)), .val (.int (1 : Int32))] [(.int (0 : Int32))]))
        (exfalso; have := rng32 p1; try simp only [Int32.lt_iff_toInt_lt, Int64.lt_iff_toInt_lt, ← Int32.toInt_inj, ← Int64.toInt_inj, (by decide : (1 : Int32).toInt = 1), (by decide : (2147483647 : Int32).toInt = 2147483647)] at hb32; try simp only [Int32.lt_iff_toInt_lt, Int64.lt_iff_toInt_lt, ← Int32.toInt_inj, ← Int64.toInt_inj, (by decide : (1 : Int32).toInt = 1), (by decide : (2147483647 : Int32).toInt = 2147483647)] at hb33; omega)
      · skip
        rw [if_neg hb32, if_neg hb33] at st30
        refine gv (fun t k => st30.trans k) ?_
        show G (T30.setTop (mkF m 105 #[.val (.int p0), .val (.int p1), .val (.int (3 : Int32)), .unset, .unset] [(.int (1 : Int32))]))
        refine gv (fun t k => XS.istoreN X30.here hx rfl (hb hby at_105) rfl (l' := #[.val (.int p0), .val (.int p1), .val (.int (3 : Int32)), .val (.int (1 : Int32)), .unset]) rfl k) ?_
        show G (T30.setTop (mkF m 106 #[.val (.int p0), .val (.int p1), .val (.int (3 : Int32)), .val (.int (1 : Int32)), .unset] []))
        refine gv (fun t k => XS.iloadN X30.here hx rfl (hb hby at_106) rfl k) ?_
        show G (T30.setTop (mkF m 107 #[.val (.int p0), .val (.int p1), .val (.int (3 : Int32)), .val (.int (1 : Int32)), .unset] [(.int p1)]))
        refine gv (fun t k => XS.iconst X30.here hx rfl (hb hby at_107) k) ?_
        show G (T30.setTop (mkF m 108 #[.val (.int p0), .val (.int p1), .val (.int (3 : Int32)), .val (.int (1 : Int32)), .unset] [(.int (1 : Int32)), (.int p1)]))
        refine gv (fun t k => XS.icmpNo X30.here hx rfl (hb hby at_108) rfl (flt hb32).1 k) ?_
        show G (T30.setTop (mkF m 111 #[.val (.int p0), .val (.int p1), .val (.int (3 : Int32)), .val (.int (1 : Int32)), .unset] []))
        refine gv (fun t k => XS.iconst X30.here hx rfl (hb hby at_111) k) ?_
        show G (T30.setTop (mkF m 112 #[.val (.int p0), .val (.int p1), .val (.int (3 : Int32)), .val (.int (1 : Int32)), .unset] [(.int (1 : Int32))]))
        refine gv (fun t k => XS.goto X30.here hx rfl (pc0 := 112) (pc' := 116) rfl (hb hby at_112) (by decide) (by decide) k) ?_
        show G (T30.setTop (mkF m 116 #[.val (.int p0), .val (.int p1), .val (.int (3 : Int32)), .val (.int (1 : Int32)), .unset] [(.int (1 : Int32))]))
        refine gv (fun t k => XS.istore X30.here hx rfl (hb hby at_116) rfl (l' := #[.val (.int p0), .val (.int p1), .val (.int (3 : Int32)), .val (.int (1 : Int32)), .val (.int (1 : Int32))]) rfl k) ?_
        show G (T30.setTop (mkF m 118 #[.val (.int p0), .val (.int p1), .val (.int (3 : Int32)), .val (.int (1 : Int32)), .val (.int (1 : Int32))] []))
        refine gv (fun t k => XS.goto X30.here hx rfl (pc0 := 118) (pc' := 140) rfl (hb hby at_118) (by decide) (by decide) k) ?_
        show G (T30.setTop (mkF m 140 #[.val (.int p0), .val (.int p1), .val (.int (3 : Int32)), .val (.int (1 : Int32)), .val (.int (1 : Int32))] []))
        refine gv (fun t k => XS.iloadN X30.here hx rfl (hb hby at_140) rfl k) ?_
        show G (T30.setTop (mkF m 141 #[.val (.int p0), .val (.int p1), .val (.int (3 : Int32)), .val (.int (1 : Int32)), .val (.int (1 : Int32))] [(.int (1 : Int32))]))
        refine gv (fun t k => XS.iload X30.here hx rfl (hb hby at_141) rfl k) ?_
        show G (T30.setTop (mkF m 143 #[.val (.int p0), .val (.int p1), .val (.int (3 : Int32)), .val (.int (1 : Int32)), .val (.int (1 : Int32))] [(.int (1 : Int32)), (.int (1 : Int32))]))
        refine gv (fun t k => XS.icmpNo X30.here hx rfl (hb hby at_143) rfl (teq (by decide : (1 : Int32) = (1 : Int32))).2 k) ?_
        show G (T30.setTop (mkF m 146 #[.val (.int p0), .val (.int p1), .val (.int (3 : Int32)), .val (.int (1 : Int32)), .val (.int (1 : Int32))] []))
        refine gv (fun t k => XS.iconst X30.here hx rfl (hb hby at_146) k) ?_
        show G (T30.setTop (mkF m 147 #[.val (.int p0), .val (.int p1), .val (.int (3 : Int32)), .val (.int (1 : Int32)), .val (.int (1 : Int32))] [(.int (1 : Int32))]))
        refine gv (fun t k => XS.goto X30.here hx rfl (pc0 := 147) (pc' := 151) rfl (hb hby at_147) (by decide) (by decide) k) ?_
        show G (T30.setTop (mkF m 151 #[.val (.int p0), .val (.int p1), .val (.int (3 : Int32)), .val (.int (1 : Int32)), .val (.int (1 : Int32))] [(.int (1 : Int32))]))
        refine gf _ (own_ret X30 Bd.notSynchronized (v := some (.int (1 : Int32))) (fun h => by rw [Bd.returns] at h; cases h) ?_ (by decide) (by decide) (fun fs hr => retN X30 hx (t := .boolean) Bd.returns (by simp) (hb hby at_151) hr))
        show Q0 Z p0 p1 A_UNBOUNDED A_OPTIONAL A_REQUIRED A_ONE_OR_MORE A_NONE h0 n0 _ T30.heap _
        rw [eq30]
        exact ⟨rfl, N31⟩
  · rw [q]
    show G (s₁.setTop (mkF m 7 #[.val (.int p0), .val (.int p1), .val (.int (4 : Int32)), .unset, .unset] []))
    refine gv (fun t k => XS.iloadN X0.here hx rfl (hb hby at_7) rfl k) ?_
    show G (s₁.setTop (mkF m 8 #[.val (.int p0), .val (.int p1), .val (.int (4 : Int32)), .unset, .unset] [(.int (4 : Int32))]))
    refine gv (fun t k => XS.ifYes X0.here hx rfl (pc0 := 8) (pc' := 33) rfl (hb hby at_8) rfl ((if0 _ _).trans (feq (by decide : ¬ ((4 : Int32) = (0 : Int32)))).2) (by decide) (by decide) k) ?_
    show G (s₁.setTop (mkF m 33 #[.val (.int p0), .val (.int p1), .val (.int (4 : Int32)), .unset, .unset] []))
    refine gv (fun t k => XS.iloadN X0.here hx rfl (hb hby at_33) rfl k) ?_
    show G (s₁.setTop (mkF m 34 #[.val (.int p0), .val (.int p1), .val (.int (4 : Int32)), .unset, .unset] [(.int (4 : Int32))]))
    refine gv (fun t k => XS.iconst X0.here hx rfl (hb hby at_34) k) ?_
    show G (s₁.setTop (mkF m 35 #[.val (.int p0), .val (.int p1), .val (.int (4 : Int32)), .unset, .unset] [(.int (1 : Int32)), (.int (4 : Int32))]))
    refine gv (fun t k => XS.icmpYes X0.here hx rfl (pc0 := 35) (pc' := 65) rfl (hb hby at_35) rfl (feq (by decide : ¬ ((4 : Int32) = (1 : Int32)))).2 (by decide) (by decide) k) ?_
    show G (s₁.setTop (mkF m 65 #[.val (.int p0), .val (.int p1), .val (.int (4 : Int32)), .unset, .unset] []))
    refine gv (fun t k => XS.iloadN X0.here hx rfl (hb hby at_65) rfl k) ?_
    show G (s₁.setTop (mkF m 66 #[.val (.int p0), .val (.int p1), .val (.int (4 : Int32)), .unset, .unset] [(.int (4 : Int32))]))
    refine gv (fun t k => XS.iconst X0.here hx rfl (hb hby at_66) k) ?_
    show G (s₁.setTop (mkF m 67 #[.val (.int p0), .val (.int p1), .val (.int (4 : Int32)), .unset, .unset] [(.int (2 : Int32)), (.int (4 : Int32))]))
    refine gv (fun t k => XS.icmpYes X0.here hx rfl (pc0 := 67) (pc' := 93) rfl (hb hby at_67) rfl (feq (by decide : ¬ ((4 : Int32) = (2 : Int32)))).2 (by decide) (by decide) k) ?_
    show G (s₁.setTop (mkF m 93 #[.val (.int p0), .val (.int p1), .val (.int (4 : Int32)), .unset, .unset] []))
    refine gv (fun t k => XS.iloadN X0.here hx rfl (hb hby at_93) rfl k) ?_
    show G (s₁.setTop (mkF m 94 #[.val (.int p0), .val (.int p1), .val (.int (4 : Int32)), .unset, .unset] [(.int (4 : Int32))]))
    refine gv (fun t k => XS.iconst X0.here hx rfl (hb hby at_94) k) ?_
    show G (s₁.setTop (mkF m 95 #[.val (.int p0), .val (.int p1), .val (.int (4 : Int32)), .unset, .unset] [(.int (3 : Int32)), (.int (4 : Int32))]))
    refine gv (fun t k => XS.icmpYes X0.here hx rfl (pc0 := 95) (pc' := 121) rfl (hb hby at_95) rfl (feq (by decide : ¬ ((4 : Int32) = (3 : Int32)))).2 (by decide) (by decide) k) ?_
    show G (s₁.setTop (mkF m 121 #[.val (.int p0), .val (.int p1), .val (.int (4 : Int32)), .unset, .unset] []))
    obtain ⟨T34, X34, e34, st34⟩ := getS2 X0 hx hZ hown (host := "") (Or.inl (hw _ (List.mem_of_getElem? (i := 13) rfl))) Via.refl e0 (u4.ext O0.2) (g := (mkF m 121 #[.val (.int p0), .val (.int p1), .val (.int (4 : Int32)), .unset, .unset] [])) rfl (hb hby at_121)
    refine gv st34 ?_
    show G (T34.setTop (mkF m 124 #[.val (.int p0), .val (.int p1), .val (.int (4 : Int32)), .unset, .unset] [(.ref A_NONE)]))
    refine gv (fun t k => XS.iloadN X34.here hx rfl (hb hby at_124) rfl k) ?_
    show G (T34.setTop (mkF m 125 #[.val (.int p0), .val (.int p1), .val (.int (4 : Int32)), .unset, .unset] [(.int p1), (.ref A_NONE)]))
    obtain ⟨cq35, kq35, q35a, q35b, q35c⟩ := isOf hZ e34 (u9.ext O0.2)
    obtain ⟨_, _, ⟨T35, L35, k35, n35⟩, -, X35, ⟨Lc35, hQ35, l35, y35, z35⟩, st35⟩ := X34.virtualBack hx (y := (⟨"com/example/dvalin/dvalin/Occurs", "allows", "(I)Z"⟩ : MethodName)) (z := (⟨"com/example/dvalin/dvalin/Occurs", "allows", "(I)Z"⟩ : MethodName)) hown (mvT hZ (hw _ (List.mem_of_getElem? (i := 4) rfl))) (mvT hZ (hw _ (List.mem_of_getElem? (i := 5) rfl))) (notFace_of_selects (args := #[]) (mvT hZ (hw _ (List.mem_of_getElem? (i := 7) rfl)))) (mvT hZ (hw _ (List.mem_of_getElem? (i := 7) rfl))) (mvT hZ (hw _ (List.mem_of_getElem? (i := 6) rfl))) (by decide) (backOf (W := 0) (rm_allows l Z a0 hw [] A_NONE p1 (0 : Int32) (0 : Int32) h0 n0 O0 (u14.ext O0.2) (u19.ext O0.2)) hZ (hw _ (List.mem_of_getElem? (i := 8) rfl)) (hw _ (List.mem_of_getElem? (i := 2) rfl)) (by decide) (by decide)) q35a q35c (g := (mkF m 125 #[.val (.int p0), .val (.int p1), .val (.int (4 : Int32)), .unset, .unset] [(.int p1), (.ref A_NONE)])) rfl (by rw [hml]; rfl) (Steps.refl _) (argsL := [(.int p1)]) (rest := []) (lenOf pd_0 rfl) rfl (by show 2 * 0 + _ ≤ _; exact Nat.le_of_eq rfl) (hb hby at_125) (fun _ _ => ⟨rfl, e34, (by decide : 0 + 0 ≤ _), (by decide : 0 + 0 ≤ _)⟩)
    dsimp only [Pt.U, Pt.locs, Pt.cells, Pt.slots] at X35 l35 y35 z35 st35 hQ35
    subst l35 y35 z35
    obtain ⟨rfl, Nq35, eq35⟩ := hQ35
    have N36 := Fr.app N0 Nq35
    by_cases hb37 : p1 < (0 : Int32)
    · rw [if_pos hb37] at st35
      refine gv (fun t k => st35.trans k) ?_
      show G (T35.setTop (mkF m 128 #[.val (.int p0), .val (.int p1), .val (.int (4 : Int32)), .unset, .unset] [(.int (0 : Int32))]))
      refine gv (fun t k => XS.istoreN X35.here hx rfl (hb hby at_128) rfl (l' := #[.val (.int p0), .val (.int p1), .val (.int (4 : Int32)), .val (.int (0 : Int32)), .unset]) rfl k) ?_
      show G (T35.setTop (mkF m 129 #[.val (.int p0), .val (.int p1), .val (.int (4 : Int32)), .val (.int (0 : Int32)), .unset] []))
      refine gv (fun t k => XS.iloadN X35.here hx rfl (hb hby at_129) rfl k) ?_
      show G (T35.setTop (mkF m 130 #[.val (.int p0), .val (.int p1), .val (.int (4 : Int32)), .val (.int (0 : Int32)), .unset] [(.int p1)]))
      by_cases hc38 : p1 = (0 : Int32)
      · refine gv (fun t k => XS.ifNo X35.here hx rfl (hb hby at_130) rfl ((if0 _ _).trans (teq hc38).2) k) ?_
        show G (T35.setTop (mkF m 133 #[.val (.int p0), .val (.int p1), .val (.int (4 : Int32)), .val (.int (0 : Int32)), .unset] []))
        refine gv (fun t k => XS.iconst X35.here hx rfl (hb hby at_133) k) ?_
        show G (T35.setTop (mkF m 134 #[.val (.int p0), .val (.int p1), .val (.int (4 : Int32)), .val (.int (0 : Int32)), .unset] [(.int (1 : Int32))]))
        refine gv (fun t k => XS.goto X35.here hx rfl (pc0 := 134) (pc' := 138) rfl (hb hby at_134) (by decide) (by decide) k) ?_
        show G (T35.setTop (mkF m 138 #[.val (.int p0), .val (.int p1), .val (.int (4 : Int32)), .val (.int (0 : Int32)), .unset] [(.int (1 : Int32))]))
        refine gv (fun t k => XS.istore X35.here hx rfl (hb hby at_138) rfl (l' := #[.val (.int p0), .val (.int p1), .val (.int (4 : Int32)), .val (.int (0 : Int32)), .val (.int (1 : Int32))]) rfl k) ?_
        show G (T35.setTop (mkF m 140 #[.val (.int p0), .val (.int p1), .val (.int (4 : Int32)), .val (.int (0 : Int32)), .val (.int (1 : Int32))] []))
        refine gv (fun t k => XS.iloadN X35.here hx rfl (hb hby at_140) rfl k) ?_
        show G (T35.setTop (mkF m 141 #[.val (.int p0), .val (.int p1), .val (.int (4 : Int32)), .val (.int (0 : Int32)), .val (.int (1 : Int32))] [(.int (0 : Int32))]))
        refine gv (fun t k => XS.iload X35.here hx rfl (hb hby at_141) rfl k) ?_
        show G (T35.setTop (mkF m 143 #[.val (.int p0), .val (.int p1), .val (.int (4 : Int32)), .val (.int (0 : Int32)), .val (.int (1 : Int32))] [(.int (1 : Int32)), (.int (0 : Int32))]))
        refine gv (fun t k => XS.icmpYes X35.here hx rfl (pc0 := 143) (pc' := 150) rfl (hb hby at_143) rfl (feq (by decide : ¬ ((0 : Int32) = (1 : Int32)))).2 (by decide) (by decide) k) ?_
        show G (T35.setTop (mkF m 150 #[.val (.int p0), .val (.int p1), .val (.int (4 : Int32)), .val (.int (0 : Int32)), .val (.int (1 : Int32))] []))
        refine gv (fun t k => XS.iconst X35.here hx rfl (hb hby at_150) k) ?_
        show G (T35.setTop (mkF m 151 #[.val (.int p0), .val (.int p1), .val (.int (4 : Int32)), .val (.int (0 : Int32)), .val (.int (1 : Int32))] [(.int (0 : Int32))]))
        (exfalso; have := rng32 p1; try simp only [Int32.lt_iff_toInt_lt, Int64.lt_iff_toInt_lt, ← Int32.toInt_inj, ← Int64.toInt_inj, (by decide : (0 : Int32).toInt = 0)] at hb37; try simp only [Int32.lt_iff_toInt_lt, Int64.lt_iff_toInt_lt, ← Int32.toInt_inj, ← Int64.toInt_inj, (by decide : (0 : Int32).toInt = 0)] at hc38; omega)
      · refine gv (fun t k => XS.ifYes X35.here hx rfl (pc0 := 130) (pc' := 137) rfl (hb hby at_130) rfl ((if0 _ _).trans (feq hc38).2) (by decide) (by decide) k) ?_
        show G (T35.setTop (mkF m 137 #[.val (.int p0), .val (.int p1), .val (.int (4 : Int32)), .val (.int (0 : Int32)), .unset] []))
        refine gv (fun t k => XS.iconst X35.here hx rfl (hb hby at_137) k) ?_
        show G (T35.setTop (mkF m 138 #[.val (.int p0), .val (.int p1), .val (.int (4 : Int32)), .val (.int (0 : Int32)), .unset] [(.int (0 : Int32))]))
        refine gv (fun t k => XS.istore X35.here hx rfl (hb hby at_138) rfl (l' := #[.val (.int p0), .val (.int p1), .val (.int (4 : Int32)), .val (.int (0 : Int32)), .val (.int (0 : Int32))]) rfl k) ?_
        show G (T35.setTop (mkF m 140 #[.val (.int p0), .val (.int p1), .val (.int (4 : Int32)), .val (.int (0 : Int32)), .val (.int (0 : Int32))] []))
        refine gv (fun t k => XS.iloadN X35.here hx rfl (hb hby at_140) rfl k) ?_
        show G (T35.setTop (mkF m 141 #[.val (.int p0), .val (.int p1), .val (.int (4 : Int32)), .val (.int (0 : Int32)), .val (.int (0 : Int32))] [(.int (0 : Int32))]))
        refine gv (fun t k => XS.iload X35.here hx rfl (hb hby at_141) rfl k) ?_
        show G (T35.setTop (mkF m 143 #[.val (.int p0), .val (.int p1), .val (.int (4 : Int32)), .val (.int (0 : Int32)), .val (.int (0 : Int32))] [(.int (0 : Int32)), (.int (0 : Int32))]))
        refine gv (fun t k => XS.icmpNo X35.here hx rfl (hb hby at_143) rfl (teq (by decide : (0 : Int32) = (0 : Int32))).2 k) ?_
        show G (T35.setTop (mkF m 146 #[.val (.int p0), .val (.int p1), .val (.int (4 : Int32)), .val (.int (0 : Int32)), .val (.int (0 : Int32))] []))
        refine gv (fun t k => XS.iconst X35.here hx rfl (hb hby at_146) k) ?_
        show G (T35.setTop (mkF m 147 #[.val (.int p0), .val (.int p1), .val (.int (4 : Int32)), .val (.int (0 : Int32)), .val (.int (0 : Int32))] [(.int (1 : Int32))]))
        refine gv (fun t k => XS.goto X35.here hx rfl (pc0 := 147) (pc' := 151) rfl (hb hby at_147) (by decide) (by decide) k) ?_
        show G (T35.setTop (mkF m 151 #[.val (.int p0), .val (.int p1), .val (.int (4 : Int32)), .val (.int (0 : Int32)), .val (.int (0 : Int32))] [(.int (1 : Int32))]))
        refine gf _ (own_ret X35 Bd.notSynchronized (v := some (.int (1 : Int32))) (fun h => by rw [Bd.returns] at h; cases h) ?_ (by decide) (by decide) (fun fs hr => retN X35 hx (t := .boolean) Bd.returns (by simp) (hb hby at_151) hr))
        show Q0 Z p0 p1 A_UNBOUNDED A_OPTIONAL A_REQUIRED A_ONE_OR_MORE A_NONE h0 n0 _ T35.heap _
        rw [eq35]
        exact ⟨rfl, N36⟩
    · skip
      by_cases hb39 : (0 : Int32) < p1
      · rw [if_neg hb37, if_pos hb39] at st35
        refine gv (fun t k => st35.trans k) ?_
        show G (T35.setTop (mkF m 128 #[.val (.int p0), .val (.int p1), .val (.int (4 : Int32)), .unset, .unset] [(.int (0 : Int32))]))
        refine gv (fun t k => XS.istoreN X35.here hx rfl (hb hby at_128) rfl (l' := #[.val (.int p0), .val (.int p1), .val (.int (4 : Int32)), .val (.int (0 : Int32)), .unset]) rfl k) ?_
        show G (T35.setTop (mkF m 129 #[.val (.int p0), .val (.int p1), .val (.int (4 : Int32)), .val (.int (0 : Int32)), .unset] []))
        refine gv (fun t k => XS.iloadN X35.here hx rfl (hb hby at_129) rfl k) ?_
        show G (T35.setTop (mkF m 130 #[.val (.int p0), .val (.int p1), .val (.int (4 : Int32)), .val (.int (0 : Int32)), .unset] [(.int p1)]))
        by_cases hc40 : p1 = (0 : Int32)
        · refine gv (fun t k => XS.ifNo X35.here hx rfl (hb hby at_130) rfl ((if0 _ _).trans (teq hc40).2) k) ?_
          show G (T35.setTop (mkF m 133 #[.val (.int p0), .val (.int p1), .val (.int (4 : Int32)), .val (.int (0 : Int32)), .unset] []))
          refine gv (fun t k => XS.iconst X35.here hx rfl (hb hby at_133) k) ?_
          show G (T35.setTop (mkF m 134 #[.val (.int p0), .val (.int p1), .val (.int (4 : Int32)), .val (.int (0 : Int32)), .unset] [(.int (1 : Int32))]))
          refine gv (fun t k => XS.goto X35.here hx rfl (pc0 := 134) (pc' := 138) rfl (hb hby at_134) (by decide) (by decide) k) ?_
          show G (T35.setTop (mkF m 138 #[.val (.int p0), .val (.int p1), .val (.int (4 : Int32)), .val (.int (0 : Int32)), .unset] [(.int (1 : Int32))]))
          refine gv (fun t k => XS.istore X35.here hx rfl (hb hby at_138) rfl (l' := #[.val (.int p0), .val (.int p1), .val (.int (4 : Int32)), .val (.int (0 : Int32)), .val (.int (1 : Int32))]) rfl k) ?_
          show G (T35.setTop (mkF m 140 #[.val (.int p0), .val (.int p1), .val (.int (4 : Int32)), .val (.int (0 : Int32)), .val (.int (1 : Int32))] []))
          refine gv (fun t k => XS.iloadN X35.here hx rfl (hb hby at_140) rfl k) ?_
          show G (T35.setTop (mkF m 141 #[.val (.int p0), .val (.int p1), .val (.int (4 : Int32)), .val (.int (0 : Int32)), .val (.int (1 : Int32))] [(.int (0 : Int32))]))
          refine gv (fun t k => XS.iload X35.here hx rfl (hb hby at_141) rfl k) ?_
          show G (T35.setTop (mkF m 143 #[.val (.int p0), .val (.int p1), .val (.int (4 : Int32)), .val (.int (0 : Int32)), .val (.int (1 : Int32))] [(.int (1 : Int32)), (.int (0 : Int32))]))
          refine gv (fun t k => XS.icmpYes X35.here hx rfl (pc0 := 143) (pc' := 150) rfl (hb hby at_143) rfl (feq (by decide : ¬ ((0 : Int32) = (1 : Int32)))).2 (by decide) (by decide) k) ?_
          show G (T35.setTop (mkF m 150 #[.val (.int p0), .val (.int p1), .val (.int (4 : Int32)), .val (.int (0 : Int32)), .val (.int (1 : Int32))] []))
          refine gv (fun t k => XS.iconst X35.here hx rfl (hb hby at_150) k) ?_
          show G (T35.setTop (mkF m 151 #[.val (.int p0), .val (.int p1), .val (.int (4 : Int32)), .val (.int (0 : Int32)), .val (.int (1 : Int32))] [(.int (0 : Int32))]))
          (exfalso; have := rng32 p1; try simp only [Int32.lt_iff_toInt_lt, Int64.lt_iff_toInt_lt, ← Int32.toInt_inj, ← Int64.toInt_inj, (by decide : (0 : Int32).toInt = 0)] at hb37; try simp only [Int32.lt_iff_toInt_lt, Int64.lt_iff_toInt_lt, ← Int32.toInt_inj, ← Int64.toInt_inj, (by decide : (0 : Int32).toInt = 0)] at hb39; try simp only [Int32.lt_iff_toInt_lt, Int64.lt_iff_toInt_lt, ← Int32.toInt_inj, ← Int64.toInt_inj, (by decide : (0 : Int32).toInt = 0)] at hc40; omega)
        · refine gv (fun t k => XS.ifYes X35.here hx rfl (pc0 := 130) (pc' := 137) rfl (hb hby at_130) rfl ((if0 _ _).trans (feq hc40).2) (by decide) (by decide) k) ?_
          show G (T35.setTop (mkF m 137 #[.val (.int p0), .val (.int p1), .val (.int (4 : Int32)), .val (.int (0 : Int32)), .unset] []))
          refine gv (fun t k => XS.iconst X35.here hx rfl (hb hby at_137) k) ?_
          show G (T35.setTop (mkF m 138 #[.val (.int p0), .val (.int p1), .val (.int (4 : Int32)), .val (.int (0 : Int32)), .unset] [(.int (0 : Int32))]))
          refine gv (fun t k => XS.istore X35.here hx rfl (hb hby at_138) rfl (l' := #[.val (.int p0), .val (.int p1), .val (.int (4 : Int32)), .val (.int (0 : Int32)), .val (.int (0 : Int32))]) rfl k) ?_
          show G (T35.setTop (mkF m 140 #[.val (.int p0), .val (.int p1), .val (.int (4 : Int32)), .val (.int (0 : Int32)), .val (.int (0 : Int32))] []))
          refine gv (fun t k => XS.iloadN X35.here hx rfl (hb hby at_140) rfl k) ?_
          show G (T35.setTop (mkF m 141 #[.val (.int p0), .val (.int p1), .val (.int (4 : Int32)), .val (.int (0 : Int32)), .val (.int (0 : Int32))] [(.int (0 : Int32))]))
          refine gv (fun t k => XS.iload X35.here hx rfl (hb hby at_141) rfl k) ?_
          show G (T35.setTop (mkF m 143 #[.val (.int p0), .val (.int p1), .val (.int (4 : Int32)), .val (.int (0 : Int32)), .val (.int (0 : Int32))] [(.int (0 : Int32)), (.int (0 : Int32))]))
          refine gv (fun t k => XS.icmpNo X35.here hx rfl (hb hby at_143) rfl (teq (by decide : (0 : Int32) = (0 : Int32))).2 k) ?_
          show G (T35.setTop (mkF m 146 #[.val (.int p0), .val (.int p1), .val (.int (4 : Int32)), .val (.int (0 : Int32)), .val (.int (0 : Int32))] []))
          refine gv (fun t k => XS.iconst X35.here hx rfl (hb hby at_146) k) ?_
          show G (T35.setTop (mkF m 147 #[.val (.int p0), .val (.int p1), .val (.int (4 : Int32)), .val (.int (0 : Int32)), .val (.int (0 : Int32))] [(.int (1 : Int32))]))
          refine gv (fun t k => XS.goto X35.here hx rfl (pc0 := 147) (pc' := 151) rfl (hb hby at_147) (by decide) (by decide) k) ?_
          show G (T35.setTop (mkF m 151 #[.val (.int p0), .val (.int p1), .val (.int (4 : Int32)), .val (.int (0 : Int32)), .val (.int (0 : Int32))] [(.int (1 : Int32))]))
          refine gf _ (own_ret X35 Bd.notSynchronized (v := some (.int (1 : Int32))) (fun h => by rw [Bd.returns] at h; cases h) ?_ (by decide) (by decide) (fun fs hr => retN X35 hx (t := .boolean) Bd.returns (by simp) (hb hby at_151) hr))
          show Q0 Z p0 p1 A_UNBOUNDED A_OPTIONAL A_REQUIRED A_ONE_OR_MORE A_NONE h0 n0 _ T35.heap _
          rw [eq35]
          exact ⟨rfl, N36⟩
      · skip
        rw [if_neg hb37, if_neg hb39] at st35
        refine gv (fun t k => st35.trans k) ?_
        show G (T35.setTop (mkF m 128 #[.val (.int p0), .val (.int p1), .val (.int (4 : Int32)), .unset, .unset] [(.int (1 : Int32))]))
        refine gv (fun t k => XS.istoreN X35.here hx rfl (hb hby at_128) rfl (l' := #[.val (.int p0), .val (.int p1), .val (.int (4 : Int32)), .val (.int (1 : Int32)), .unset]) rfl k) ?_
        show G (T35.setTop (mkF m 129 #[.val (.int p0), .val (.int p1), .val (.int (4 : Int32)), .val (.int (1 : Int32)), .unset] []))
        refine gv (fun t k => XS.iloadN X35.here hx rfl (hb hby at_129) rfl k) ?_
        show G (T35.setTop (mkF m 130 #[.val (.int p0), .val (.int p1), .val (.int (4 : Int32)), .val (.int (1 : Int32)), .unset] [(.int p1)]))
        by_cases hc41 : p1 = (0 : Int32)
        · refine gv (fun t k => XS.ifNo X35.here hx rfl (hb hby at_130) rfl ((if0 _ _).trans (teq hc41).2) k) ?_
          show G (T35.setTop (mkF m 133 #[.val (.int p0), .val (.int p1), .val (.int (4 : Int32)), .val (.int (1 : Int32)), .unset] []))
          refine gv (fun t k => XS.iconst X35.here hx rfl (hb hby at_133) k) ?_
          show G (T35.setTop (mkF m 134 #[.val (.int p0), .val (.int p1), .val (.int (4 : Int32)), .val (.int (1 : Int32)), .unset] [(.int (1 : Int32))]))
          refine gv (fun t k => XS.goto X35.here hx rfl (pc0 := 134) (pc' := 138) rfl (hb hby at_134) (by decide) (by decide) k) ?_
          show G (T35.setTop (mkF m 138 #[.val (.int p0), .val (.int p1), .val (.int (4 : Int32)), .val (.int (1 : Int32)), .unset] [(.int (1 : Int32))]))
          refine gv (fun t k => XS.istore X35.here hx rfl (hb hby at_138) rfl (l' := #[.val (.int p0), .val (.int p1), .val (.int (4 : Int32)), .val (.int (1 : Int32)), .val (.int (1 : Int32))]) rfl k) ?_
          show G (T35.setTop (mkF m 140 #[.val (.int p0), .val (.int p1), .val (.int (4 : Int32)), .val (.int (1 : Int32)), .val (.int (1 : Int32))] []))
          refine gv (fun t k => XS.iloadN X35.here hx rfl (hb hby at_140) rfl k) ?_
          show G (T35.setTop (mkF m 141 #[.val (.int p0), .val (.int p1), .val (.int (4 : Int32)), .val (.int (1 : Int32)), .val (.int (1 : Int32))] [(.int (1 : Int32))]))
          refine gv (fun t k => XS.iload X35.here hx rfl (hb hby at_141) rfl k) ?_
          show G (T35.setTop (mkF m 143 #[.val (.int p0), .val (.int p1), .val (.int (4 : Int32)), .val (.int (1 : Int32)), .val (.int (1 : Int32))] [(.int (1 : Int32)), (.int (1 : Int32))]))
          refine gv (fun t k => XS.icmpNo X35.here hx rfl (hb hby at_143) rfl (teq (by decide : (1 : Int32) = (1 : Int32))).2 k) ?_
          show G (T35.setTop (mkF m 146 #[.val (.int p0), .val (.int p1), .val (.int (4 : Int32)), .val (.int (1 : Int32)), .val (.int (1 : Int32))] []))
          refine gv (fun t k => XS.iconst X35.here hx rfl (hb hby at_146) k) ?_
          show G (T35.setTop (mkF m 147 #[.val (.int p0), .val (.int p1), .val (.int (4 : Int32)), .val (.int (1 : Int32)), .val (.int (1 : Int32))] [(.int (1 : Int32))]))
          refine gv (fun t k => XS.goto X35.here hx rfl (pc0 := 147) (pc' := 151) rfl (hb hby at_147) (by decide) (by decide) k) ?_
          show G (T35.setTop (mkF m 151 #[.val (.int p0), .val (.int p1), .val (.int (4 : Int32)), .val (.int (1 : Int32)), .val (.int (1 : Int32))] [(.int (1 : Int32))]))
          refine gf _ (own_ret X35 Bd.notSynchronized (v := some (.int (1 : Int32))) (fun h => by rw [Bd.returns] at h; cases h) ?_ (by decide) (by decide) (fun fs hr => retN X35 hx (t := .boolean) Bd.returns (by simp) (hb hby at_151) hr))
          show Q0 Z p0 p1 A_UNBOUNDED A_OPTIONAL A_REQUIRED A_ONE_OR_MORE A_NONE h0 n0 _ T35.heap _
          rw [eq35]
          exact ⟨rfl, N36⟩
        · refine gv (fun t k => XS.ifYes X35.here hx rfl (pc0 := 130) (pc' := 137) rfl (hb hby at_130) rfl ((if0 _ _).trans (feq hc41).2) (by decide) (by decide) k) ?_
          show G (T35.setTop (mkF m 137 #[.val (.int p0), .val (.int p1), .val (.int (4 : Int32)), .val (.int (1 : Int32)), .unset] []))
          refine gv (fun t k => XS.iconst X35.here hx rfl (hb hby at_137) k) ?_
          show G (T35.setTop (mkF m 138 #[.val (.int p0), .val (.int p1), .val (.int (4 : Int32)), .val (.int (1 : Int32)), .unset] [(.int (0 : Int32))]))
          refine gv (fun t k => XS.istore X35.here hx rfl (hb hby at_138) rfl (l' := #[.val (.int p0), .val (.int p1), .val (.int (4 : Int32)), .val (.int (1 : Int32)), .val (.int (0 : Int32))]) rfl k) ?_
          show G (T35.setTop (mkF m 140 #[.val (.int p0), .val (.int p1), .val (.int (4 : Int32)), .val (.int (1 : Int32)), .val (.int (0 : Int32))] []))
          refine gv (fun t k => XS.iloadN X35.here hx rfl (hb hby at_140) rfl k) ?_
          show G (T35.setTop (mkF m 141 #[.val (.int p0), .val (.int p1), .val (.int (4 : Int32)), .val (.int (1 : Int32)), .val (.int (0 : Int32))] [(.int (1 : Int32))]))
          refine gv (fun t k => XS.iload X35.here hx rfl (hb hby at_141) rfl k) ?_
          show G (T35.setTop (mkF m 143 #[.val (.int p0), .val (.int p1), .val (.int (4 : Int32)), .val (.int (1 : Int32)), .val (.int (0 : Int32))] [(.int (0 : Int32)), (.int (1 : Int32))]))
          refine gv (fun t k => XS.icmpYes X35.here hx rfl (pc0 := 143) (pc' := 150) rfl (hb hby at_143) rfl (feq (by decide : ¬ ((1 : Int32) = (0 : Int32)))).2 (by decide) (by decide) k) ?_
          show G (T35.setTop (mkF m 150 #[.val (.int p0), .val (.int p1), .val (.int (4 : Int32)), .val (.int (1 : Int32)), .val (.int (0 : Int32))] []))
          refine gv (fun t k => XS.iconst X35.here hx rfl (hb hby at_150) k) ?_
          show G (T35.setTop (mkF m 151 #[.val (.int p0), .val (.int p1), .val (.int (4 : Int32)), .val (.int (1 : Int32)), .val (.int (0 : Int32))] [(.int (0 : Int32))]))
          (exfalso; have := rng32 p1; try simp only [Int32.lt_iff_toInt_lt, Int64.lt_iff_toInt_lt, ← Int32.toInt_inj, ← Int64.toInt_inj, (by decide : (0 : Int32).toInt = 0)] at hb37; try simp only [Int32.lt_iff_toInt_lt, Int64.lt_iff_toInt_lt, ← Int32.toInt_inj, ← Int64.toInt_inj, (by decide : (0 : Int32).toInt = 0)] at hb39; try simp only [Int32.lt_iff_toInt_lt, Int64.lt_iff_toInt_lt, ← Int32.toInt_inj, ← Int64.toInt_inj, (by decide : (0 : Int32).toInt = 0)] at hc41; omega)
set_option maxRecDepth 65536 in
set_option maxHeartbeats 40000000 in
theorem comes_1 {Post : Tables → Env → Array Value → State → Outcome → State → Prop} (hpost : ∀ tb e args s v u, (limb_1_1.after args s (.returned v) u = true ∧ limb_1_2.after args s (.returned v) u = true ∧ True) → FrameEnd s (.returned v) u (Jvm.fieldLocs frame_1_writes args s ++ Jvm.arrayLocs frame_1_arrays args s ++ Jvm.staticLocs frame_1_statics s) 0 0 → Post tb e args s (.returned v) u) :
    ArmFor flags0 classFile x code maxLocals ret World_1 tables_1 room_1 Calls_1 rest_1 Pre_1 Post := by
  intro l hfl _ _ p e ha hc hk s m args below hf hA hF happ hP
  obtain ⟨hcalls, hrest, hpre⟩ := hP
  obtain ⟨-, -, -, hnamed, -, -, -, hat⟩ := (Spec.applies_iff hf).mp happ
  obtain ⟨hg, hn⟩ := and_e (Cond.before_iff.mp (show (Jvm.Cond.and given_1 narrow_1).before args s = true from hpre))
  obtain ⟨g1, g2⟩ := and_e hg
  obtain ⟨g3, g4⟩ := and_e g2
  obtain ⟨g5, g6⟩ := and_e hn
  obtain ⟨g7, g8⟩ := and_e g6
  obtain ⟨g9, g10⟩ := and_e g8
  obtain ⟨g11, g12⟩ := and_e g10
  obtain ⟨g13, g14⟩ := and_e g12
  obtain ⟨g15, g16⟩ := and_e g14
  obtain ⟨g17, g18⟩ := and_e g16
  obtain ⟨g19, g20⟩ := and_e g18
  obtain ⟨g21, g22⟩ := and_e g20
  obtain ⟨g23, g24⟩ := and_e g22
  obtain ⟨g25, g26⟩ := and_e g24
  obtain ⟨g27, g28⟩ := and_e g26
  obtain ⟨g29, g30⟩ := and_e g28
  obtain ⟨g31, g32⟩ := and_e g30
  obtain ⟨w0, w1, rfl⟩ : ∃ w0 w1 : Value, args = #[w0, w1] := by
    have hs : args.size = 2 := by simpa [Cond.value, given_1] using g1
    obtain ⟨L⟩ := args
    match L, hs with
    | [w0, w1], _ => exact ⟨w0, w1, rfl⟩
  have hw := fun d (hd : d ∈ tables_1) => atoms_spec (ws := Jvm.Cond.code x code maxLocals ret :: tables_1) hat d (List.mem_cons_of_mem _ hd)
  have hfit : Fit s := fun {y c} hc i hi => by
    obtain ⟨ha, rfl⟩ := Array.getElem?_eq_some_iff.mp hc
    have q := List.all_eq_true.mp ((Array.all_eq_true_iff_forall_mem.mp hF) _ (Array.getElem_mem ha)) i (List.mem_range.mpr hi)
    simpa [Array.getElem?_eq_getElem hi] using q
  obtain ⟨i0, ei0⟩ := is_v g3
  obtain rfl : w0 = (.int i0) := Option.some.inj ei0
  obtain ⟨i1, ei1⟩ := is_v g4
  obtain rfl : w1 = (.int i1) := Option.some.inj ei1
  obtain ⟨A_UNBOUNDED, ev_UNBOUNDED, E_UNBOUNDED⟩ := own_exa g5
  have S_UNBOUNDED : Sta s s.heap "com/example/dvalin/dvalin/Occurs" "UNBOUNDED" "Lcom/example/dvalin/dvalin/Occurs;" (.ref A_UNBOUNDED) := Sta.start ev_UNBOUNDED (Or.inr ⟨(hw _ (List.mem_of_getElem? (i := 2) rfl)), (hw _ (List.mem_of_getElem? (i := 3) rfl))⟩)
  obtain ⟨A_NONE, ev_NONE, E_NONE⟩ := own_exa g11
  have S_NONE : Sta s s.heap "com/example/dvalin/dvalin/Occurs" "NONE" "Lcom/example/dvalin/dvalin/Occurs;" (.ref A_NONE) := Sta.start ev_NONE (Or.inr ⟨(hw _ (List.mem_of_getElem? (i := 2) rfl)), (hw _ (List.mem_of_getElem? (i := 14) rfl))⟩)
  obtain ⟨A_ONE_OR_MORE, ev_ONE_OR_MORE, E_ONE_OR_MORE⟩ := own_exa g17
  have S_ONE_OR_MORE : Sta s s.heap "com/example/dvalin/dvalin/Occurs" "ONE_OR_MORE" "Lcom/example/dvalin/dvalin/Occurs;" (.ref A_ONE_OR_MORE) := Sta.start ev_ONE_OR_MORE (Or.inr ⟨(hw _ (List.mem_of_getElem? (i := 2) rfl)), (hw _ (List.mem_of_getElem? (i := 16) rfl))⟩)
  obtain ⟨A_OPTIONAL, ev_OPTIONAL, E_OPTIONAL⟩ := own_exa g23
  have S_OPTIONAL : Sta s s.heap "com/example/dvalin/dvalin/Occurs" "OPTIONAL" "Lcom/example/dvalin/dvalin/Occurs;" (.ref A_OPTIONAL) := Sta.start ev_OPTIONAL (Or.inr ⟨(hw _ (List.mem_of_getElem? (i := 2) rfl)), (hw _ (List.mem_of_getElem? (i := 18) rfl))⟩)
  obtain ⟨A_REQUIRED, ev_REQUIRED, E_REQUIRED⟩ := own_exa g27
  have S_REQUIRED : Sta s s.heap "com/example/dvalin/dvalin/Occurs" "REQUIRED" "Lcom/example/dvalin/dvalin/Occurs;" (.ref A_REQUIRED) := Sta.start ev_REQUIRED (Or.inr ⟨(hw _ (List.mem_of_getElem? (i := 2) rfl)), (hw _ (List.mem_of_getElem? (i := 20) rfl))⟩)
  have F_UNBOUNDED_fewest := own_fint ev_UNBOUNDED g7
  have F_UNBOUNDED_most := own_fint ev_UNBOUNDED g9
  have F_NONE_fewest := own_fint ev_NONE g13
  have F_NONE_most := own_fint ev_NONE g15
  have F_ONE_OR_MORE_fewest := own_fint ev_ONE_OR_MORE g19
  have F_ONE_OR_MORE_most := own_fint ev_ONE_OR_MORE g21
  have F_OPTIONAL_fewest := own_fint ev_OPTIONAL g25
  have F_REQUIRED_fewest := own_fint ev_REQUIRED g29
  have F_REQUIRED_most := own_fint ev_REQUIRED g31
  have F_OPTIONAL_most := own_fint ev_OPTIONAL g32
  obtain ⟨n, o, h1, h2, h3, _, L, rfl, ⟨rfl, N⟩, hq⟩ := rm0 l s _ hw tables_1 i0 i1 A_UNBOUNDED A_OPTIONAL A_REQUIRED A_ONE_OR_MORE A_NONE s.heap s.heap.size (Old.start s) S_UNBOUNDED S_OPTIONAL S_REQUIRED S_ONE_OR_MORE S_NONE E_UNBOUNDED E_OPTIONAL E_REQUIRED E_ONE_OR_MORE E_NONE F_UNBOUNDED_fewest F_OPTIONAL_fewest F_REQUIRED_fewest F_ONE_OR_MORE_fewest F_NONE_fewest F_UNBOUNDED_most F_OPTIONAL_most F_REQUIRED_most F_ONE_OR_MORE_most F_NONE_most p e ha hc hk s m _ below hf ((Spec.applies_iff_loose hf).mp happ).1 ⟨rfl, State.Warmed39.refl s, rfl⟩ trivial
  refine ⟨n, _, h1, h2, h3, hpost _ _ _ _ _ _ ⟨Cond.after_iff.mpr rfl, Cond.after_iff.mpr (eq_i res_at (Term.int_eval (1)) rfl), trivial⟩ ⟨hq.1, hq.2.1, (hq.2.2.sift fun y hy => Or.inr (N y hy)).mono (by decide) (by decide)⟩⟩
theorem main_1_1 : Claimed_1_1 := comes_1 fun _ _ _ _ _ _ h hF => ⟨h.1, hF⟩
theorem main_1_2 : Claimed_1_2 := comes_1 fun _ _ _ _ _ _ h hF => ⟨h.2.1, hF⟩
end Jvm.Pilot.@@N@@
namespace Jvm.Pilot.@@N@@
open Jvm Jvm.ClassFile Sem Op Lib Jvm.Free Jvm.Stand Jvm.Pilot.@@N@@.Jvm.D
/-! MADE BY PROGRAM (witnessworld.py) out of the Statement's table words and the real class files: 12 classes; the members and pool entries that the words name. The judged class is class 1, her method 1. -/
namespace start1
open Jvm.ClassFile
def u (s : String) : CpInfo := .utf8 (stringToUtf16 s)
/-- a pool by its gaps: so many unusable entries, then the entry; so many at the end -/
def gap : Nat → List CpInfo → List CpInfo
  | 0, r => r
  | n + 1, r => .unusable :: gap n r
def poolList (es : List (Nat × CpInfo)) (last : Nat) : List CpInfo := es.foldr (fun e r => gap e.1 (e.2 :: r)) (gap last [])
def pool (es : List (Nat × CpInfo)) (last : Nat) : Array CpInfo := ⟨poolList es last⟩
def fileOf (pool : Array CpInfo) (this : Nat) (attrs : Array Attribute := #[]) (ms : Array MethodInfo := #[]) (fl : Nat := 33) (sup : Nat := 0) (ifs : Array Nat := #[]) (fds : Array FieldInfo := #[]) : ClassFile where
  minorVersion := 0
  majorVersion := 65
  constantPool := pool
  accessFlags := fl
  thisClass := this
  superClass := sup
  interfaces := ifs
  fields := fds
  methods := ms
  attributes := attrs
def plain (name : String) (sup : Option ClassId) : Class where
  name := name
  kind := .ordinary
  loader := none
  accessFlags := 33
  super := sup
  interfaces := #[]
  cf := none
  fields := #[]
  methods := #[]
  instanceTypes := #[]
  staticTypes := #[]
  resolved := #[]
  callSites := []
  init := .initialized
  statics := none
  mirror := none

def pool0 : Array CpInfo := pool [(5, u "<init>"), (0, u "()V"), (1, .class_ 10), (1, u "java/lang/Object")] 113

def k0m0 : Method := { name := "<init>", desc := "()V", sig := { parameters := [], returnType := none }, accessFlags := 1, code := none }
/-- java/lang/Object -/
def k0 : Class := { plain "java/lang/Object" none with
  accessFlags := 33
  interfaces := #[]
  cf := some (fileOf pool0 8 #[] #[{ accessFlags := 1, nameIndex := 5, descriptorIndex := 6, attributes := #[] }] 33 0 #[] #[])
  fields := #[]
  methods := #[k0m0]
  instanceTypes := #[]
  staticTypes := #[]
  resolved := Array.replicate 124 none
  statics := none }

def pool1 : Array CpInfo := pool [(2, .class_ 4), (1, u "java/lang/Object"), (0, u "<init>"), (0, u "()V"), (0, .integer 2147483647), (0, .fieldref 9 10), (0, .class_ 11), (0, .nameAndType 12 13), (0, u "com/example/dvalin/dvalin/Occurs"), (0, u "UNBOUNDED"), (0, u "Lcom/example/dvalin/dvalin/Occurs;"), (0, .methodref 9 15), (0, .nameAndType 16 17), (0, u "allows"), (0, u "(I)Z"), (0, .fieldref 9 19), (0, .nameAndType 20 13), (0, u "OPTIONAL"), (0, .fieldref 9 22), (0, .nameAndType 23 13), (0, u "REQUIRED"), (0, .fieldref 9 25), (0, .nameAndType 26 13), (0, u "ONE_OR_MORE"), (0, .fieldref 9 28), (0, .nameAndType 29 13), (0, u "NONE"), (0, .class_ 31), (0, u "com/example/dvalin/dvalin/OccursAllowsPinLaw"), (2, u "law"), (0, u "(II)Z")] 3

def k1m0 : Method := { name := "<init>", desc := "()V", sig := { parameters := [], returnType := none }, accessFlags := 1, code := none }
def k1c1 : Code := { maxStack := 2, maxLocals := 5, code := code, exceptionTable := #[], attributes := #[] }
def k1m1 : Method := { name := "law", desc := "(II)Z", sig := { parameters := [.int, .int], returnType := some .boolean }, accessFlags := 9, code := some k1c1 }
/-- com/example/dvalin/dvalin/OccursAllowsPinLaw -/
def k1 : Class := { plain "com/example/dvalin/dvalin/OccursAllowsPinLaw" (some 0) with
  accessFlags := 49
  interfaces := #[]
  cf := some (fileOf pool1 30 #[] #[{ accessFlags := 1, nameIndex := 5, descriptorIndex := 6, attributes := #[] }, { accessFlags := 9, nameIndex := 34, descriptorIndex := 35, attributes := #[] }] 49 2 #[] #[])
  fields := #[]
  methods := #[k1m0, k1m1]
  instanceTypes := #[]
  staticTypes := #[]
  resolved := Array.replicate 39 none
  statics := none }

def pool2 : Array CpInfo := pool [(1, .class_ 2), (0, u "java/lang/constant/Constable"), (0, .class_ 4), (0, u "java/lang/Object")] 6

/-- java/lang/constant/Constable -/
def k2 : Class := { plain "java/lang/constant/Constable" (some 0) with
  accessFlags := 1537
  interfaces := #[]
  cf := some (fileOf pool2 1 #[] #[] 1537 3 #[] #[])
  fields := #[]
  methods := #[]
  instanceTypes := #[]
  staticTypes := #[]
  resolved := Array.replicate 11 none
  statics := none }

def pool3 : Array CpInfo := pool [(1, .class_ 2), (0, u "java/lang/Comparable"), (0, .class_ 4), (0, u "java/lang/Object")] 7

/-- java/lang/Comparable -/
def k3 : Class := { plain "java/lang/Comparable" (some 0) with
  accessFlags := 1537
  interfaces := #[]
  cf := some (fileOf pool3 1 #[] #[] 1537 3 #[] #[])
  fields := #[]
  methods := #[]
  instanceTypes := #[]
  staticTypes := #[]
  resolved := Array.replicate 12 none
  statics := none }

def pool4 : Array CpInfo := pool [(1, .class_ 2), (0, u "java/io/Serializable"), (0, .class_ 4), (0, u "java/lang/Object")] 2

/-- java/io/Serializable -/
def k4 : Class := { plain "java/io/Serializable" (some 0) with
  accessFlags := 1537
  interfaces := #[]
  cf := some (fileOf pool4 1 #[] #[] 1537 3 #[] #[])
  fields := #[]
  methods := #[]
  instanceTypes := #[]
  staticTypes := #[]
  resolved := Array.replicate 7 none
  statics := none }

def pool5 : Array CpInfo := pool [(2, .class_ 4), (1, u "java/lang/Enum"), (0, u "name"), (0, u "Ljava/lang/String;"), (2, u "ordinal"), (0, u "I"), (1, .class_ 14), (1, u "java/lang/Object"), (4, u "hash"), (86, .class_ 108), (1, u "java/lang/Enum$EnumDesc"), (2, .class_ 112), (0, u "java/lang/constant/Constable"), (0, .class_ 114), (0, u "java/lang/Comparable"), (0, .class_ 116), (0, u "java/io/Serializable")] 87

/-- java/lang/Enum -/
def k5 : Class := { plain "java/lang/Enum" (some 0) with
  accessFlags := 1057
  interfaces := #[2, 3, 4]
  cf := some (fileOf pool5 2 #[.nestMembers #[106]] #[] 1057 12 #[111, 113, 115] #[{ accessFlags := 18, nameIndex := 5, descriptorIndex := 6, attributes := #[] }, { accessFlags := 18, nameIndex := 9, descriptorIndex := 10, attributes := #[] }, { accessFlags := 2, nameIndex := 19, descriptorIndex := 10, attributes := #[] }])
  fields := #[{ name := "name", type := (.object "java/lang/String"), accessFlags := 18, slot := 0, constantValue := 0 }, { name := "ordinal", type := .int, accessFlags := 18, slot := 1, constantValue := 0 }, { name := "hash", type := .int, accessFlags := 2, slot := 2, constantValue := 0 }]
  methods := #[]
  instanceTypes := #[(.object "java/lang/String"), .int, .int]
  staticTypes := #[]
  resolved := Array.replicate 204 none
  statics := none }

def pool6 : Array CpInfo := pool [(1, .class_ 2), (0, u "com/example/dvalin/dvalin/Occurs"), (2, u "UNBOUNDED"), (0, u "Lcom/example/dvalin/dvalin/Occurs;"), (2, u "OPTIONAL"), (2, u "REQUIRED"), (2, u "ONE_OR_MORE"), (2, u "NONE"), (2, u "$VALUES"), (0, u "[Lcom/example/dvalin/dvalin/Occurs;"), (6, .class_ 31), (1, u "java/lang/Enum"), (6, .fieldref 1 39), (0, .nameAndType 40 41), (0, u "fewest"), (0, u "I"), (0, .fieldref 1 43), (0, .nameAndType 44 41), (0, u "most"), (22, u "allows"), (0, u "(I)Z")] 6

def k6c0 : Code := { maxStack := 2, maxLocals := 2, code := prog_11_method_4_code, exceptionTable := #[], attributes := #[] }
def k6m0 : Method := { name := "allows", desc := "(I)Z", sig := { parameters := [.int], returnType := some .boolean }, accessFlags := 1, code := some k6c0 }
/-- com/example/dvalin/dvalin/Occurs -/
def k6 : Class := { plain "com/example/dvalin/dvalin/Occurs" (some 5) with
  accessFlags := 16433
  interfaces := #[]
  cf := some (fileOf pool6 1 #[] #[{ accessFlags := 1, nameIndex := 67, descriptorIndex := 68, attributes := #[] }] 16433 29 #[] #[{ accessFlags := 16409, nameIndex := 5, descriptorIndex := 6, attributes := #[] }, { accessFlags := 16409, nameIndex := 9, descriptorIndex := 6, attributes := #[] }, { accessFlags := 16409, nameIndex := 12, descriptorIndex := 6, attributes := #[] }, { accessFlags := 16409, nameIndex := 15, descriptorIndex := 6, attributes := #[] }, { accessFlags := 16409, nameIndex := 18, descriptorIndex := 6, attributes := #[] }, { accessFlags := 18, nameIndex := 40, descriptorIndex := 41, attributes := #[] }, { accessFlags := 18, nameIndex := 44, descriptorIndex := 41, attributes := #[] }, { accessFlags := 4122, nameIndex := 21, descriptorIndex := 22, attributes := #[] }])
  fields := #[{ name := "UNBOUNDED", type := (.object "com/example/dvalin/dvalin/Occurs"), accessFlags := 16409, slot := 0, constantValue := 0 }, { name := "OPTIONAL", type := (.object "com/example/dvalin/dvalin/Occurs"), accessFlags := 16409, slot := 1, constantValue := 0 }, { name := "REQUIRED", type := (.object "com/example/dvalin/dvalin/Occurs"), accessFlags := 16409, slot := 2, constantValue := 0 }, { name := "ONE_OR_MORE", type := (.object "com/example/dvalin/dvalin/Occurs"), accessFlags := 16409, slot := 3, constantValue := 0 }, { name := "NONE", type := (.object "com/example/dvalin/dvalin/Occurs"), accessFlags := 16409, slot := 4, constantValue := 0 }, { name := "fewest", type := .int, accessFlags := 18, slot := 3, constantValue := 0 }, { name := "most", type := .int, accessFlags := 18, slot := 4, constantValue := 0 }, { name := "$VALUES", type := (.array (.object "com/example/dvalin/dvalin/Occurs")), accessFlags := 4122, slot := 5, constantValue := 0 }]
  methods := #[k6m0]
  instanceTypes := #[(.object "java/lang/String"), .int, .int, .int, .int]
  staticTypes := #[(.object "com/example/dvalin/dvalin/Occurs"), (.object "com/example/dvalin/dvalin/Occurs"), (.object "com/example/dvalin/dvalin/Occurs"), (.object "com/example/dvalin/dvalin/Occurs"), (.object "com/example/dvalin/dvalin/Occurs"), (.array (.object "com/example/dvalin/dvalin/Occurs"))]
  resolved := Array.replicate 75 none
  statics := some 0 }

def pool7 : Array CpInfo := pool [(1, u "java/lang/Cloneable"), (0, .class_ 1), (0, u "java/lang/Object"), (0, .class_ 3)] 3

/-- java/lang/Cloneable -/
def k7 : Class := { plain "java/lang/Cloneable" (some 0) with
  accessFlags := 1537
  interfaces := #[]
  cf := some (fileOf pool7 2 #[] #[] 1537 4 #[] #[])
  fields := #[]
  methods := #[]
  instanceTypes := #[]
  staticTypes := #[]
  resolved := Array.replicate 8 none
  statics := none }

/-- the primitive byte -/
def k8 : Class := { plain "byte" none with kind := .primitive 'B', accessFlags := 0x411 }
/-- [B -/
def k9 : Class := { plain "[B" (some 0) with kind := .array 8 .byte, interfaces := #[7, 4], accessFlags := 1041 }

/-- the primitive int -/
def k10 : Class := { plain "int" none with kind := .primitive 'I', accessFlags := 0x411 }
/-- [I -/
def k11 : Class := { plain "[I" (some 0) with kind := .array 10 .int, interfaces := #[7, 4], accessFlags := 1041 }

def heap : Heap := #[{ cls := 6, slots := #[.ref 1, .ref 2, .ref 3, .ref 4, .ref 5, .null], vm := .statics 6 },
  { cls := 6, slots := #[.null, .int 0, .int 0, .int 0, .int 2147483647], vm := .none },
  { cls := 6, slots := #[.null, .int 1, .int 0, .int 0, .int 1], vm := .none },
  { cls := 6, slots := #[.null, .int 2, .int 0, .int 1, .int 1], vm := .none },
  { cls := 6, slots := #[.null, .int 3, .int 0, .int 1, .int 2147483647], vm := .none },
  { cls := 6, slots := #[.null, .int 4, .int 0, .int 0, .int 0], vm := .none }]
def classes : Array Class := #[k0, k1, k2, k3, k4, k5, k6, k7, k8, k9, k10, k11]
def interned : List (Array UInt16 × Addr) := []
def slotsUsed : Nat := 31
def theMethod : MethodId := ⟨1, 1⟩
def args0 : Array Value := #[.int 5, .int 3]
def aboutOver (below : List Frame) : State where
  vm := { classes := classes, interned := interned.toArray }
  heap := heap
  slotsUsed := slotsUsed
  threads := #[{ frames := .invoking theMethod args0 :: below }]
def below0 : List Frame := [.native { method := ⟨0, 0⟩, args := #[] }]
def about1 : State := aboutOver below0
def p0 : Program := .bare "" "" ""
def e0 : Env := launch0.env 0 0 0
theorem w_frames : about1.frames = Frame.invoking theMethod args0 :: below0 := rfl
set_option maxRecDepth 65536 in
theorem w_args : argsFit about1.vm theMethod args0 = true := by decide +kernel
set_option maxRecDepth 65536 in
theorem w_heap : heapFits about1 = true := by decide +kernel
set_option maxRecDepth 65536 in
theorem w_runnable : about1.curStatus? = some .runnable := by decide +kernel
set_option maxRecDepth 65536 in
theorem w_alone : about1.alone = true := by decide +kernel
set_option maxRecDepth 65536 in
theorem w_named : about1.methodNamed? x = some theMethod := by decide +kernel
set_option maxRecDepth 65536 in
theorem w_hears : about1.hears theMethod below0 = true := by decide +kernel
set_option maxRecDepth 65536 in
theorem w_ripe : about1.ripe theMethod args0 below0 = true := by decide +kernel
theorem w_running : about1.status = .running := rfl
set_option maxRecDepth 65536 in
theorem w_room : about1.hasRoom e0.platform room_1 = true :=
  launch0.hasRoom_least _ room_1 (by decide +kernel) (by decide +kernel) (by decide +kernel) (by decide +kernel) (by decide +kernel) (by decide +kernel)
theorem allAtoms_all (ts : List Jvm.Cond) (a : Array Jvm.Value) (st : Jvm.State) : (allAtoms ts).before a st = ts.all (fun c => c.before a st) := by
  induction ts with
  | nil => rfl
  | cons c t ih =>
    show (Jvm.Cond.and c (allAtoms t)).before a st = _
    rw [Jvm.Cond.before_and, ih, List.all_cons]
def words1 : List Jvm.Cond := Jvm.Cond.code x code maxLocals ret :: tables_1
/-- a 'code' word, met by the world's own term for the bytes: nothing is compared byte by byte -/
theorem code_word {y : MethodName} {bytes : ByteArray} {mx : Nat} {rt : Option FieldType} {a : Array Value} {s : State} {m : MethodId} {meth : Method} {c : Code} (h1 : s.methodNamed? y = some m) (h2 : s.vm.method? m = some meth) (h3 : meth.code = some c) (h4 : c.code = bytes)
    (h5 : (c.maxLocals == mx && c.exceptionTable.isEmpty && decide (c.maxStack ≤ mostOperands) && decide (meth.sig.returnType = rt) && !meth.locks && decide (parseMethodDescriptor y.desc = some meth.sig)) = true) : (Jvm.Cond.code y bytes mx rt).before a s = true := by
  simp only [Bool.and_eq_true, beq_iff_eq, Bool.not_eq_true', decide_eq_true_eq] at h5
  obtain ⟨⟨⟨⟨⟨g1, g2⟩, g3⟩, g4⟩, g5⟩, g6⟩ := h5
  simp [Cond.before, Cond.holds, Cond.value, h1, h2, h3, h4, g1, g2, g3, g4, g5, g6]
def isCode : Jvm.Cond → Bool
  | .code _ _ _ _ => true
  | _ => false
theorem all_split {L : List Jvm.Cond} {P : Jvm.Cond → Bool} (h1 : L.all (fun c => isCode c || P c) = true) (h2 : ∀ c ∈ L.filter isCode, P c = true) : L.all P = true := by
  refine List.all_eq_true.mpr fun c hc => ?_
  have h := List.all_eq_true.mp h1 c hc
  rcases Bool.eq_false_or_eq_true (isCode c) with hi | hi
  · exact h2 c (List.mem_filter.mpr ⟨hc, hi⟩)
  · simpa [hi] using h
set_option maxRecDepth 65536 in
theorem w_c0 : (Jvm.Cond.code x code maxLocals ret).before args0 about1 = true := code_word (m := ⟨1, 1⟩) (meth := k1m1) (c := k1c1) (by decide +kernel) rfl rfl rfl (by decide +kernel)
set_option maxRecDepth 65536 in
theorem w_c1 : (Jvm.Cond.code ({ cls := "com/example/dvalin/dvalin/Occurs", name := "allows", desc := "(I)Z" } : Jvm.MethodName) prog_11_method_4_code (2 : Nat) (Option.some Jvm.ClassFile.FieldType.boolean)).before args0 about1 = true := code_word (m := ⟨6, 0⟩) (meth := k6m0) (c := k6c0) (by decide +kernel) rfl rfl rfl (by decide +kernel)
def codes1 : List Jvm.Cond := [Jvm.Cond.code x code maxLocals ret, Jvm.Cond.code ({ cls := "com/example/dvalin/dvalin/Occurs", name := "allows", desc := "(I)Z" } : Jvm.MethodName) prog_11_method_4_code (2 : Nat) (Option.some Jvm.ClassFile.FieldType.boolean)]
set_option maxRecDepth 65536 in
theorem codes_eq : words1.filter isCode = codes1 := rfl
theorem w_codes : ∀ c ∈ words1.filter isCode, c.before args0 about1 = true := by
  rw [codes_eq]
  intro c hc
  simp only [codes1, List.mem_cons, List.not_mem_nil, or_false] at hc
  rcases hc with rfl | rfl
  · exact w_c0
  · exact w_c1
set_option maxRecDepth 65536 in
theorem w_t1 : words1.all (fun c => isCode c || c.before args0 about1) = true := by decide +kernel
theorem w_tables : (allAtoms (Jvm.Cond.code x code maxLocals ret :: tables_1)).before args0 about1 = true := by
  rw [allAtoms_all]
  show words1.all (fun c => c.before args0 about1) = true
  refine all_split ?_ w_codes
  rw [w_t1]
set_option maxRecDepth 65536 in
theorem w_case : (Jvm.Cond.and given_1 narrow_1).before args0 about1 = true := by decide +kernel
theorem w_applies : (headSpec (Jvm.Cond.code x code maxLocals ret :: tables_1) room_1).applies x e0.platform about1 = true :=
  (Spec.applies_iff w_frames).mpr ⟨w_running, w_runnable, w_alone, w_named, w_hears, w_ripe, w_room, w_tables⟩
theorem atStart : AtStart classFile x code maxLocals ret World_1 tables_1 room_1 Calls_1 rest_1 Pre_1 launch0 p0 e0 about1 theMethod args0 below0 :=
  ⟨lists_1, trivial, launch0.admits_env _ _ _, launch0.least_env, fairChoices_fair.cas, fairChoices_fair.clock, w_frames, w_args, w_heap, w_applies, trivial, trivial, w_case⟩
end start1
theorem witness_1 : WitnessClaimed_1 := ⟨start1.p0, start1.e0, start1.about1, start1.theMethod, start1.args0, start1.below0, start1.atStart⟩
end Jvm.Pilot.@@N@@
