import JvmDerived
import JvmDerived.Pilot.@@N@@Statement
import JvmDerived.Pilot.@@N@@Code
set_option linter.unusedVariables false
set_option linter.unusedSimpArgs false
namespace Jvm.Pilot.@@N@@
open Jvm Jvm.ClassFile Sem Op Lib Jvm.Free Jvm.Stand Jvm.LawKit Jvm.RoadKit Bundle Jvm.Pilot.@@N@@.Jvm.D
/-- from the state A the body comes to its end as Q says -/
def own_Fin (tb : Tables) (e : Env) (below : List Frame) (s : State) (Q : Option Value → Heap → List Loc → Prop) (kc ks : Nat) (A : State) : Prop :=
  ∃ s₂ o, Steps tb e below A s₂ ∧ s₂.status = .running ∧ Ended s₂ below o ∧ ∃ v L, o = .returned v ∧ Q v s₂.heap L ∧ FrameEnd s o s₂ L kc ks
theorem own_G (tb : Tables) (e : Env) (below : List Frame) (s : State) (Q : Option Value → Heap → List Loc → Prop) (kc ks : Nat) :
    ∃ G : State → Prop, (∀ {A B : State}, (∀ t, Steps tb e below B t → Steps tb e below A t) → G B → G A) ∧ (∀ A, own_Fin tb e below s Q kc ks A → G A) ∧ (∀ A, G A → own_Fin tb e below s Q kc ks A) :=
  ⟨own_Fin tb e below s Q kc ks, fun h k => by obtain ⟨s₂, o, h1, r⟩ := k; exact ⟨s₂, o, h _ h1, r⟩, fun _ h => h, fun _ h => h⟩
theorem own_ret {p : Program} {l : Launch} {e : Env} {R : Room} {s : State} {m : MethodId} {args : Array Value} {below : List Frame} {meth : Method} {c : Code} {T : State} {locs : List Loc} {cells slots : Nat} {Q : Option Value → Heap → List Loc → Prop} {kc ks : Nat} {A : State} {v : Option Value}
    (X : Stand p l e R s m args below meth c T locs cells slots) (hlk : meth.locks = false) (hv : meth.sig.returnType = none → v = none) (hQ : Q v T.heap locs) (hc : cells ≤ kc) (hs : slots ≤ ks)
    (st : ∀ fs, (∀ (f : JFrame) (acts : List Action), f.method = m → f.locked = none → f.entered = [] → (doReturn e (T.setTop f) acts v).1 = T.setFrames fs) → Steps p.tables e below A (T.setFrames fs)) : own_Fin p.tables e below s Q kc ks A := by
  obtain ⟨fs, hr, hrun, hended, hW, hsame⟩ := X.leave hv hlk
  exact ⟨_, _, st fs hr, hrun, hended, _, _, rfl, hQ, ⟨_, rfl⟩, hW, hsame.mono hc hs⟩
theorem own_old {Z : State} {n0 : Nat} {h : Heap} (O : Old Z n0 h) : n0 ≤ h.size := O.1 ▸ O.2.1
theorem own_cat {v : Value} (h : v.isRef = true) : v.category = 1 := by rcases ref_cases h with rfl | ⟨a, rfl⟩ <;> rfl
theorem own_mvM {Z s : State} {a0 args : Array Value} {own host : String} {index : Nat} {y : MethodName} (hZ : Z.Warmed39 s.vm) (w : (Jvm.Cond.methodLinkNest own index y host).before a0 Z = true) : (Jvm.Cond.methodLinkNest own index y host).before args s = true := (Cond.methodLinkNest_wide hZ w :)
theorem own_ne_arv {Z : State} {h : Heap} {a b : Addr} {C : String} {a0 : Array Value} {n : Nat} {k : ClassId} {ty : FieldType} {z : Int32} {vs : List Value} {d : Value} (E : Exa Z h a C) (wi : (Jvm.Cond.instantiable C n).before a0 Z = true) (A : Arv Z h b k ty z vs d) : a ≠ b := by
  obtain ⟨c, A, -⟩ := A
  exact ne_arr E wi A
theorem own_narB (x : Int32) : nar .byte x.toInt8.toInt32 = x.toInt8.toInt32 := by
  refine Int32.toInt_inj.mp ?_
  have h1 := c_i2b x
  have h2 := c_i2b x.toInt8.toInt32
  show (x.toInt8.toInt32.toInt8.toInt32).toInt = _
  omega
theorem own_narC (x : Int32) : nar .char x.toUInt32.toUInt16.toUInt32.toInt32 = x.toUInt32.toUInt16.toUInt32.toInt32 := by
  refine Int32.toInt_inj.mp ?_
  have h1 := c_i2c x
  have h2 := c_i2c x.toUInt32.toUInt16.toUInt32.toInt32
  show (x.toUInt32.toUInt16.toUInt32.toInt32.toUInt32.toUInt16.toUInt32.toInt32).toInt = _
  omega
theorem own_exa {s : State} {args : Array Value} {t : Term} {K : String} (h : (Jvm.Cond.exactly t K).value args s none s [] = some true) : ∃ a, t.eval args s none [] s = some (.ref a) ∧ Exa s s.heap a K := by
  obtain ⟨a, c', cell, k, e1, e2, e3, e4, e5, e6, e7⟩ := Cond.exactly_spec (Cond.before_iff.mpr h)
  exact ⟨a, e1, Exa.start e1 h⟩
theorem own_fint {s : State} {args : Array Value} {t : Term} {C n d : String} {a : Addr} {k : Int32} (ht : t.eval args s none [] s = some (.ref a)) (h : (Jvm.Cond.eq (.field t C n d) (.int k)).value args s none s [] = some true) : Fld s s.heap a C n d (.int k) := by
  refine Fld.start ?_
  rw [← fld_at ht]
  have hk : (Term.int k).eval args s none [] s = some (.int k) := rfl
  cases q : (Term.field t C n d).eval args s none [] s with
  | none => simp [Cond.value, q] at h
  | some v => cases v <;> simp [Cond.value, q, hk] at h; rw [h]
theorem own_flong {s : State} {args : Array Value} {t : Term} {C n d : String} {a : Addr} {k : Int64} (ht : t.eval args s none [] s = some (.ref a)) (h : (Jvm.Cond.eq (.field t C n d) (.long k)).value args s none s [] = some true) : Fld s s.heap a C n d (.long k) := by
  refine Fld.start ?_
  rw [← fld_at ht]
  have hk : (Term.long k).eval args s none [] s = some (.long k) := rfl
  cases q : (Term.field t C n d).eval args s none [] s with
  | none => simp [Cond.value, q] at h
  | some v => cases v <;> simp [Cond.value, q, hk] at h; rw [h]
theorem own_mod9 (a : Int32) : (a &&& (2147483647 : Int32)) % (9 : Int32) = (0 : Int32) ∨ (a &&& (2147483647 : Int32)) % (9 : Int32) = (1 : Int32) ∨ (a &&& (2147483647 : Int32)) % (9 : Int32) = (2 : Int32) ∨ (a &&& (2147483647 : Int32)) % (9 : Int32) = (3 : Int32) ∨ (a &&& (2147483647 : Int32)) % (9 : Int32) = (4 : Int32) ∨ (a &&& (2147483647 : Int32)) % (9 : Int32) = (5 : Int32) ∨ (a &&& (2147483647 : Int32)) % (9 : Int32) = (6 : Int32) ∨ (a &&& (2147483647 : Int32)) % (9 : Int32) = (7 : Int32) ∨ (a &&& (2147483647 : Int32)) % (9 : Int32) = (8 : Int32) := by
  have h := c_mask a 2147483647 31 (by decide) (by decide)
  have h2 := c_irem (a &&& 2147483647) 9 9 (by decide)
  have h3 := rng32 a
  have h1 : ((a &&& (2147483647 : Int32)) % (9 : Int32)).toInt = 0 ∨ ((a &&& (2147483647 : Int32)) % (9 : Int32)).toInt = 1 ∨ ((a &&& (2147483647 : Int32)) % (9 : Int32)).toInt = 2 ∨ ((a &&& (2147483647 : Int32)) % (9 : Int32)).toInt = 3 ∨ ((a &&& (2147483647 : Int32)) % (9 : Int32)).toInt = 4 ∨ ((a &&& (2147483647 : Int32)) % (9 : Int32)).toInt = 5 ∨ ((a &&& (2147483647 : Int32)) % (9 : Int32)).toInt = 6 ∨ ((a &&& (2147483647 : Int32)) % (9 : Int32)).toInt = 7 ∨ ((a &&& (2147483647 : Int32)) % (9 : Int32)).toInt = 8 := by omega
  rcases h1 with q | q | q | q | q | q | q | q | q
  · exact Or.inl (Int32.toInt_inj.mp (by rw [q]; rfl))
  · exact Or.inr (Or.inl (Int32.toInt_inj.mp (by rw [q]; rfl)))
  · exact Or.inr (Or.inr (Or.inl (Int32.toInt_inj.mp (by rw [q]; rfl))))
  · exact Or.inr (Or.inr (Or.inr (Or.inl (Int32.toInt_inj.mp (by rw [q]; rfl)))))
  · exact Or.inr (Or.inr (Or.inr (Or.inr (Or.inl (Int32.toInt_inj.mp (by rw [q]; rfl))))))
  · exact Or.inr (Or.inr (Or.inr (Or.inr (Or.inr (Or.inl (Int32.toInt_inj.mp (by rw [q]; rfl)))))))
  · exact Or.inr (Or.inr (Or.inr (Or.inr (Or.inr (Or.inr (Or.inl (Int32.toInt_inj.mp (by rw [q]; rfl))))))))
  · exact Or.inr (Or.inr (Or.inr (Or.inr (Or.inr (Or.inr (Or.inr (Or.inl (Int32.toInt_inj.mp (by rw [q]; rfl)))))))))
  · exact Or.inr (Or.inr (Or.inr (Or.inr (Or.inr (Or.inr (Or.inr (Or.inr (Int32.toInt_inj.mp (by rw [q]; rfl)))))))))
theorem ef_0 (m : MethodId) (x0 : Addr) (x1 : Int64)  : entryFrame m #[(.ref x0), (.long x1)] 3 = mkF m 0 #[.val (.ref x0), .val (.long x1), .second] [] := by first | (simp [entryFrame, mkF, argsToLocals, Value.category]; done) | rfl
theorem pn_0 : plainName "com/example/slot1/slot1/server/Limit" = true := by first | (simp [plainName, overriddenIn]; done) | decide +kernel
theorem d1_0 : decode prog_49_method_5_code 0 = .ok (.lload_n 1, 1) := by decide +kernel
theorem d1_1 : decode prog_49_method_5_code 1 = .ok (.aload_n 0, 1) := by decide +kernel
theorem d1_2 : decode prog_49_method_5_code 2 = .ok (.getfield 50, 3) := by decide +kernel
theorem d1_5 : decode prog_49_method_5_code 5 = .ok (.lcmp, 1) := by decide +kernel
theorem d1_6 : decode prog_49_method_5_code 6 = .ok (.ifCond .gt 7, 3) := by decide +kernel
theorem d1_13 : decode prog_49_method_5_code 13 = .ok (.iconst 0, 1) := by decide +kernel
theorem d1_14 : decode prog_49_method_5_code 14 = .ok (.ireturn, 1) := by decide +kernel
theorem d1_9 : decode prog_49_method_5_code 9 = .ok (.iconst 1, 1) := by decide +kernel
theorem d1_10 : decode prog_49_method_5_code 10 = .ok (.goto 4, 3) := by decide +kernel
def Q_allows (Z : State) (a : Addr) (n : Int64) (mo : Int64) (h0 : Heap) (n0 : Nat) (v : Option Value) (h : Heap) (L : List Loc) : Prop := v = some (.int (if mo < n then (0 : Int32) else (1 : Int32))) ∧ Fr n0 L ∧ h = h0
set_option maxRecDepth 65536 in
set_option maxHeartbeats 40000000 in
theorem rm_allows (l : Launch) (Z : State) (a0 : Array Value) (hw : ∀ d ∈ tables_1, d.before a0 Z = true) (ws : List Jvm.Cond) (a : Addr) (n : Int64) (mo : Int64) (h0 : Heap) (n0 : Nat) (O0 : Old Z n0 h0) (u0 : Fld Z h0 a "com/example/slot1/slot1/server/Limit" "most" "J" (.long mo)) :
    MetFree l (⟨"com/example/slot1/slot1/server/Limit", "allows", "(J)Z"⟩ : MethodName) (head1 (Jvm.Cond.code (⟨"com/example/slot1/slot1/server/Limit", "allows", "(J)Z"⟩ : MethodName) prog_49_method_5_code 3 (some .boolean) :: ws) ({ frames := 0, cells := 0, slots := 0, locals := 0 } : Room)) (fun aV U => aV = #[(.ref a), (.long n)] ∧ Z.Warmed39 U.vm ∧ U.heap = h0) (fun _ _ _ _ _ => True) (fun _ U o U' => ∃ v L, o = .returned v ∧ Q_allows Z a n mo h0 n0 v U'.heap L ∧ FrameEnd U o U' L ({ frames := 0, cells := 0, slots := 0, locals := 0 } : Room).cells ({ frames := 0, cells := 0, slots := 0, locals := 0 } : Room).slots) := by
  refine MetFree.of_bodySF (plainFor_of_name pn_0) hisR ?_
  intro pr_ en_ st_ me_ args below meth_ co_ s₁ Bd hml0 hP hK
  obtain ⟨rfl, hZ, hh⟩ := hP
  have hx := Bd.exec
  have hby := Bd.bytes
  have hml : co_.maxLocals = 3 := hml0
  have hown : st_.vm.findClass "com/example/slot1/slot1/server/Limit" = some me_.cls := findClass_of_methodNamed Bd.named
  have hnm := (name_of_methodNamed Bd.named Bd.method).1
  have X0 : Stand pr_ l en_ ({ frames := 0, cells := 0, slots := 0, locals := 0 } : Room) st_ me_ #[(.ref a), (.long n)] below meth_ co_ s₁ [] 0 0 := Stand.of_body Bd
  have e0 : s₁.heap = h0 := by rw [← hh, Bd.state]; rfl
  have N0 := Fr.nil n0
  have K0 := Keep.refl h0 []
  obtain ⟨G, gv, gf, gb⟩ := own_G pr_.tables en_ below st_ (Q_allows Z a n mo h0 n0) ({ frames := 0, cells := 0, slots := 0, locals := 0 } : Room).cells ({ frames := 0, cells := 0, slots := 0, locals := 0 } : Room).slots
  show own_Fin pr_.tables en_ below st_ (Q_allows Z a n mo h0 n0) ({ frames := 0, cells := 0, slots := 0, locals := 0 } : Room).cells ({ frames := 0, cells := 0, slots := 0, locals := 0 } : Room).slots (s₁.setTop (entryFrame me_ #[(.ref a), (.long n)] 3))
  refine gb _ (gv (fun tQ kQ => castTop (ef_0 me_ a n) kQ) ?_)
  show G (s₁.setTop (mkF me_ 0 #[.val (.ref a), .val (.long n), .second] []))
  refine gv (fun tQ kQ => XS.lloadN X0.here hx rfl (hb hby d1_0) rfl kQ) ?_
  show G (s₁.setTop (mkF me_ 1 #[.val (.ref a), .val (.long n), .second] [(.long n)]))
  refine gv (fun tQ kQ => XS.aloadN X0.here hx rfl (hb hby d1_1) rfl rfl kQ) ?_
  show G (s₁.setTop (mkF me_ 2 #[.val (.ref a), .val (.long n), .second] [(.ref a), (.long n)]))
  obtain ⟨T1, X1, e1, st1⟩ := getF X0 hx hZ hown (host := "") (Or.inl (hw _ (List.mem_of_getElem? (i := 10) rfl))) Via.refl e0 u0 (g := (mkF me_ 2 #[.val (.ref a), .val (.long n), .second] [(.ref a), (.long n)])) rfl rfl (hb hby d1_2)
  refine gv st1 ?_
  show G (T1.setTop (mkF me_ 5 #[.val (.ref a), .val (.long n), .second] [(.long mo), (.long n)]))
  refine gv (fun tQ kQ => XS.lcmp X1.here hx rfl (hb hby d1_5) rfl kQ) ?_
  show G (T1.setTop (mkF me_ 6 #[.val (.ref a), .val (.long n), .second] [(.int (lcmpW n mo))]))
  by_cases hc2 : mo < n
  · refine gv (fun tQ kQ => XS.ifYes X1.here hx rfl (pc0 := 6) (pc' := 13) rfl (hb hby d1_6) rfl ((if0 _ _).trans (tlt ((lw_gt _ _).mpr hc2)).2.2.1) (by decide) (by decide) kQ) ?_
    show G (T1.setTop (mkF me_ 13 #[.val (.ref a), .val (.long n), .second] []))
    refine gv (fun tQ kQ => XS.iconst X1.here hx rfl (hb hby d1_13) kQ) ?_
    show G (T1.setTop (mkF me_ 14 #[.val (.ref a), .val (.long n), .second] [(.int (0 : Int32))]))
    refine gf _ (own_ret X1 Bd.notSynchronized (v := some (.int (0 : Int32))) (fun h => by rw [Bd.returns] at h; cases h) ?_ (by decide) (by decide) (fun fs hr => retN X1 hx (t := .boolean) Bd.returns (by simp) (hb hby d1_14) hr))
    show Q_allows Z a n mo h0 n0 _ T1.heap _
    rw [e1]
    exact ⟨(by rw [if_pos hc2]), N0, rfl⟩
  · refine gv (fun tQ kQ => XS.ifNo X1.here hx rfl (hb hby d1_6) rfl ((if0 _ _).trans (flt (mt (lw_gt _ _).mp hc2)).2.2.1) kQ) ?_
    show G (T1.setTop (mkF me_ 9 #[.val (.ref a), .val (.long n), .second] []))
    refine gv (fun tQ kQ => XS.iconst X1.here hx rfl (hb hby d1_9) kQ) ?_
    show G (T1.setTop (mkF me_ 10 #[.val (.ref a), .val (.long n), .second] [(.int (1 : Int32))]))
    refine gv (fun tQ kQ => XS.goto X1.here hx rfl (pc0 := 10) (pc' := 14) rfl (hb hby d1_10) (by decide) (by decide) kQ) ?_
    show G (T1.setTop (mkF me_ 14 #[.val (.ref a), .val (.long n), .second] [(.int (1 : Int32))]))
    refine gf _ (own_ret X1 Bd.notSynchronized (v := some (.int (1 : Int32))) (fun h => by rw [Bd.returns] at h; cases h) ?_ (by decide) (by decide) (fun fs hr => retN X1 hx (t := .boolean) Bd.returns (by simp) (hb hby d1_14) hr))
    show Q_allows Z a n mo h0 n0 _ T1.heap _
    rw [e1]
    exact ⟨(by rw [if_neg hc2]), N0, rfl⟩
theorem ef_1 (m : MethodId) (x0 : Int32) (x1 : Int64) (x2 : Int32)  : entryFrame m #[(.int x0), (.long x1), (.int x2)] maxLocals = mkF m 0 #[.val (.int x0), .val (.long x1), .second, .val (.int x2), .unset, .unset, .unset, .unset, .unset, .unset, .unset, .unset] [] := by first | (simp [entryFrame, mkF, argsToLocals, Value.category, maxLocals]; done) | rfl
theorem pn_1 : plainName "com/example/slot1/slot1/server/LimitAllowsPinLaw" = true := by first | (simp [plainName, overriddenIn]; done) | decide +kernel
theorem pd_0 : parseMethodDescriptor "(J)Z" = some ⟨[.long], some .boolean⟩ := by decide +kernel
def Q0 (Z : State) (p0 : Int32) (p1 : Int64) (p2 : Int32) (A_TOPICS : Addr) (A_ROUTE_QUEUES : Addr) (A_GROUPS : Addr) (A_MEMBERS : Addr) (A_GROUP_MEMBERS : Addr) (A_MEMBER_TOPICS : Addr) (A_QUEUES : Addr) (A_OFFSETS : Addr) (A_OPTIONS_BYTES : Addr) (h0 : Heap) (n0 : Nat) (v : Option Value) (h : Heap) (L : List Loc) : Prop := v = some (.int (1 : Int32)) ∧ Fr n0 L
set_option maxRecDepth 65536 in
set_option maxHeartbeats 40000000 in
theorem rm0 (l : Launch) (Z : State) (a0 : Array Value) (hw : ∀ d ∈ tables_1, d.before a0 Z = true) (ws : List Jvm.Cond) (p0 : Int32) (p1 : Int64) (p2 : Int32) (A_TOPICS : Addr) (A_ROUTE_QUEUES : Addr) (A_GROUPS : Addr) (A_MEMBERS : Addr) (A_GROUP_MEMBERS : Addr) (A_MEMBER_TOPICS : Addr) (A_QUEUES : Addr) (A_OFFSETS : Addr) (A_OPTIONS_BYTES : Addr) (h0 : Heap) (n0 : Nat) (O0 : Old Z n0 h0) (u0 : Sta Z Z.heap "com/example/slot1/slot1/server/Limit" "TOPICS" "Lcom/example/slot1/slot1/server/Limit;" (.ref A_TOPICS)) (u1 : Sta Z Z.heap "com/example/slot1/slot1/server/Limit" "ROUTE_QUEUES" "Lcom/example/slot1/slot1/server/Limit;" (.ref A_ROUTE_QUEUES)) (u2 : Sta Z Z.heap "com/example/slot1/slot1/server/Limit" "GROUPS" "Lcom/example/slot1/slot1/server/Limit;" (.ref A_GROUPS)) (u3 : Sta Z Z.heap "com/example/slot1/slot1/server/Limit" "MEMBERS" "Lcom/example/slot1/slot1/server/Limit;" (.ref A_MEMBERS)) (u4 : Sta Z Z.heap "com/example/slot1/slot1/server/Limit" "GROUP_MEMBERS" "Lcom/example/slot1/slot1/server/Limit;" (.ref A_GROUP_MEMBERS)) (u5 : Sta Z Z.heap "com/example/slot1/slot1/server/Limit" "MEMBER_TOPICS" "Lcom/example/slot1/slot1/server/Limit;" (.ref A_MEMBER_TOPICS)) (u6 : Sta Z Z.heap "com/example/slot1/slot1/server/Limit" "QUEUES" "Lcom/example/slot1/slot1/server/Limit;" (.ref A_QUEUES)) (u7 : Sta Z Z.heap "com/example/slot1/slot1/server/Limit" "OFFSETS" "Lcom/example/slot1/slot1/server/Limit;" (.ref A_OFFSETS)) (u8 : Sta Z Z.heap "com/example/slot1/slot1/server/Limit" "OPTIONS_BYTES" "Lcom/example/slot1/slot1/server/Limit;" (.ref A_OPTIONS_BYTES)) (u9 : Exa Z Z.heap A_TOPICS "com/example/slot1/slot1/server/Limit") (u10 : Exa Z Z.heap A_ROUTE_QUEUES "com/example/slot1/slot1/server/Limit") (u11 : Exa Z Z.heap A_GROUPS "com/example/slot1/slot1/server/Limit") (u12 : Exa Z Z.heap A_MEMBERS "com/example/slot1/slot1/server/Limit") (u13 : Exa Z Z.heap A_GROUP_MEMBERS "com/example/slot1/slot1/server/Limit") (u14 : Exa Z Z.heap A_MEMBER_TOPICS "com/example/slot1/slot1/server/Limit") (u15 : Exa Z Z.heap A_QUEUES "com/example/slot1/slot1/server/Limit") (u16 : Exa Z Z.heap A_OFFSETS "com/example/slot1/slot1/server/Limit") (u17 : Exa Z Z.heap A_OPTIONS_BYTES "com/example/slot1/slot1/server/Limit") (u18 : Fld Z Z.heap A_TOPICS "com/example/slot1/slot1/server/Limit" "most" "J" (.long (10000 : Int64))) (u19 : Fld Z Z.heap A_ROUTE_QUEUES "com/example/slot1/slot1/server/Limit" "most" "J" (.long (100000 : Int64))) (u20 : Fld Z Z.heap A_GROUPS "com/example/slot1/slot1/server/Limit" "most" "J" (.long (1000 : Int64))) (u21 : Fld Z Z.heap A_MEMBERS "com/example/slot1/slot1/server/Limit" "most" "J" (.long (10000 : Int64))) (u22 : Fld Z Z.heap A_GROUP_MEMBERS "com/example/slot1/slot1/server/Limit" "most" "J" (.long (5000 : Int64))) (u23 : Fld Z Z.heap A_MEMBER_TOPICS "com/example/slot1/slot1/server/Limit" "most" "J" (.long (1000 : Int64))) (u24 : Fld Z Z.heap A_QUEUES "com/example/slot1/slot1/server/Limit" "most" "J" (.long (1000000 : Int64))) (u25 : Fld Z Z.heap A_OFFSETS "com/example/slot1/slot1/server/Limit" "most" "J" (.long (1000000 : Int64))) (u26 : Fld Z Z.heap A_OPTIONS_BYTES "com/example/slot1/slot1/server/Limit" "most" "J" (.long (16777216 : Int64))) :
    MetFree l x (head1 (Jvm.Cond.code x code maxLocals ret :: ws) room_1) (fun aV U => aV = #[(.int p0), (.long p1), (.int p2)] ∧ Z.Warmed39 U.vm ∧ U.heap = h0) (fun _ _ _ _ _ => True) (fun _ U o U' => ∃ v L, o = .returned v ∧ Q0 Z p0 p1 p2 A_TOPICS A_ROUTE_QUEUES A_GROUPS A_MEMBERS A_GROUP_MEMBERS A_MEMBER_TOPICS A_QUEUES A_OFFSETS A_OPTIONS_BYTES h0 n0 v U'.heap L ∧ FrameEnd U o U' L room_1.cells room_1.slots) := by
  refine MetFree.of_bodySF (plainFor_of_name pn_1) hisR ?_
  intro pr_ en_ st_ me_ args below meth_ co_ s₁ Bd hml0 hP hK
  obtain ⟨rfl, hZ, hh⟩ := hP
  have hx := Bd.exec
  have hby := Bd.bytes
  have hml : co_.maxLocals = 12 := hml0
  have hown : st_.vm.findClass "com/example/slot1/slot1/server/LimitAllowsPinLaw" = some me_.cls := findClass_of_methodNamed Bd.named
  have hnm := (name_of_methodNamed Bd.named Bd.method).1
  have X0 : Stand pr_ l en_ room_1 st_ me_ #[(.int p0), (.long p1), (.int p2)] below meth_ co_ s₁ [] 0 0 := Stand.of_body Bd
  have e0 : s₁.heap = h0 := by rw [← hh, Bd.state]; rfl
  have N0 := Fr.nil n0
  have K0 := Keep.refl h0 []
  obtain ⟨G, gv, gf, gb⟩ := own_G pr_.tables en_ below st_ (Q0 Z p0 p1 p2 A_TOPICS A_ROUTE_QUEUES A_GROUPS A_MEMBERS A_GROUP_MEMBERS A_MEMBER_TOPICS A_QUEUES A_OFFSETS A_OPTIONS_BYTES h0 n0) room_1.cells room_1.slots
  show own_Fin pr_.tables en_ below st_ (Q0 Z p0 p1 p2 A_TOPICS A_ROUTE_QUEUES A_GROUPS A_MEMBERS A_GROUP_MEMBERS A_MEMBER_TOPICS A_QUEUES A_OFFSETS A_OPTIONS_BYTES h0 n0) room_1.cells room_1.slots (s₁.setTop (entryFrame me_ #[(.int p0), (.long p1), (.int p2)] maxLocals))
  refine gb _ (gv (fun tQ kQ => castTop (ef_1 me_ p0 p1 p2) kQ) ?_)
  show G (s₁.setTop (mkF me_ 0 #[.val (.int p0), .val (.long p1), .second, .val (.int p2), .unset, .unset, .unset, .unset, .unset, .unset, .unset, .unset] []))
  refine gv (fun tQ kQ => XS.iloadN X0.here hx rfl (hb hby at_0) rfl kQ) ?_
  show G (s₁.setTop (mkF me_ 1 #[.val (.int p0), .val (.long p1), .second, .val (.int p2), .unset, .unset, .unset, .unset, .unset, .unset, .unset, .unset] [(.int p0)]))
  refine gv (X0.ldcInt hx hown (mvT hZ (hw _ (List.mem_of_getElem? (i := 0) rfl))) (g := (mkF me_ 1 #[.val (.int p0), .val (.long p1), .second, .val (.int p2), .unset, .unset, .unset, .unset, .unset, .unset, .unset, .unset] [(.int p0)])) rfl (hb hby at_1)) ?_
  show G (s₁.setTop (mkF me_ 3 #[.val (.int p0), .val (.long p1), .second, .val (.int p2), .unset, .unset, .unset, .unset, .unset, .unset, .unset, .unset] [(.int (2147483647 : Int32)), (.int p0)]))
  refine gv (fun tQ kQ => XS.iand X0.here hx rfl (hb hby at_3) rfl kQ) ?_
  show G (s₁.setTop (mkF me_ 4 #[.val (.int p0), .val (.long p1), .second, .val (.int p2), .unset, .unset, .unset, .unset, .unset, .unset, .unset, .unset] [(.int (p0 &&& (2147483647 : Int32)))]))
  refine gv (fun tQ kQ => XS.bipush X0.here hx rfl (hb hby at_4) kQ) ?_
  show G (s₁.setTop (mkF me_ 6 #[.val (.int p0), .val (.long p1), .second, .val (.int p2), .unset, .unset, .unset, .unset, .unset, .unset, .unset, .unset] [(.int (9 : Int32)), (.int (p0 &&& (2147483647 : Int32)))]))
  refine gv (fun tQ kQ => iremM X0 hx rfl (hb hby at_6) rfl (by decide) kQ) ?_
  show G (s₁.setTop (mkF me_ 7 #[.val (.int p0), .val (.long p1), .second, .val (.int p2), .unset, .unset, .unset, .unset, .unset, .unset, .unset, .unset] [(.int ((p0 &&& (2147483647 : Int32)) % (9 : Int32)))]))
  refine gv (fun tQ kQ => XS.istore X0.here hx rfl (hb hby at_7) rfl (l' := #[.val (.int p0), .val (.long p1), .second, .val (.int p2), .val (.int ((p0 &&& (2147483647 : Int32)) % (9 : Int32))), .unset, .unset, .unset, .unset, .unset, .unset, .unset]) rfl kQ) ?_
  show G (s₁.setTop (mkF me_ 9 #[.val (.int p0), .val (.long p1), .second, .val (.int p2), .val (.int ((p0 &&& (2147483647 : Int32)) % (9 : Int32))), .unset, .unset, .unset, .unset, .unset, .unset, .unset] []))
  rcases own_mod9 p0 with q | q | q | q | q | q | q | q | q
  · rw [q]
    show G (s₁.setTop (mkF me_ 9 #[.val (.int p0), .val (.long p1), .second, .val (.int p2), .val (.int (0 : Int32)), .unset, .unset, .unset, .unset, .unset, .unset, .unset] []))
    refine gv (fun tQ kQ => XS.iload X0.here hx rfl (hb hby at_9) rfl kQ) ?_
    show G (s₁.setTop (mkF me_ 11 #[.val (.int p0), .val (.long p1), .second, .val (.int p2), .val (.int (0 : Int32)), .unset, .unset, .unset, .unset, .unset, .unset, .unset] [(.int (0 : Int32))]))
    refine gv (fun tQ kQ => XS.ifNo X0.here hx rfl (hb hby at_11) rfl ((if0 _ _).trans (teq (by decide : (0 : Int32) = (0 : Int32))).2) kQ) ?_
    show G (s₁.setTop (mkF me_ 14 #[.val (.int p0), .val (.long p1), .second, .val (.int p2), .val (.int (0 : Int32)), .unset, .unset, .unset, .unset, .unset, .unset, .unset] []))
    obtain ⟨T3, X3, e3, st3⟩ := getS2 X0 hx hZ hown (host := "") (Or.inl (hw _ (List.mem_of_getElem? (i := 1) rfl))) Via.refl e0 (u0.ext O0.2) (g := (mkF me_ 14 #[.val (.int p0), .val (.long p1), .second, .val (.int p2), .val (.int (0 : Int32)), .unset, .unset, .unset, .unset, .unset, .unset, .unset] [])) rfl (hb hby at_14)
    refine gv st3 ?_
    show G (T3.setTop (mkF me_ 17 #[.val (.int p0), .val (.long p1), .second, .val (.int p2), .val (.int (0 : Int32)), .unset, .unset, .unset, .unset, .unset, .unset, .unset] [(.ref A_TOPICS)]))
    refine gv (fun tQ kQ => XS.astore X3.here hx rfl (hb hby at_17) rfl rfl (l' := #[.val (.int p0), .val (.long p1), .second, .val (.int p2), .val (.int (0 : Int32)), .val (.ref A_TOPICS), .unset, .unset, .unset, .unset, .unset, .unset]) rfl kQ) ?_
    show G (T3.setTop (mkF me_ 19 #[.val (.int p0), .val (.long p1), .second, .val (.int p2), .val (.int (0 : Int32)), .val (.ref A_TOPICS), .unset, .unset, .unset, .unset, .unset, .unset] []))
    refine gv (X3.ldc2Long hx hown (mvT hZ (hw _ (List.mem_of_getElem? (i := 4) rfl))) (g := (mkF me_ 19 #[.val (.int p0), .val (.long p1), .second, .val (.int p2), .val (.int (0 : Int32)), .val (.ref A_TOPICS), .unset, .unset, .unset, .unset, .unset, .unset] [])) rfl (hb hby at_19)) ?_
    show G (T3.setTop (mkF me_ 22 #[.val (.int p0), .val (.long p1), .second, .val (.int p2), .val (.int (0 : Int32)), .val (.ref A_TOPICS), .unset, .unset, .unset, .unset, .unset, .unset] [(.long (10000 : Int64))]))
    refine gv (fun tQ kQ => XS.lstore X3.here hx rfl (hb hby at_22) rfl (l' := #[.val (.int p0), .val (.long p1), .second, .val (.int p2), .val (.int (0 : Int32)), .val (.ref A_TOPICS), .val (.long (10000 : Int64)), .second, .unset, .unset, .unset, .unset]) rfl kQ) ?_
    show G (T3.setTop (mkF me_ 24 #[.val (.int p0), .val (.long p1), .second, .val (.int p2), .val (.int (0 : Int32)), .val (.ref A_TOPICS), .val (.long (10000 : Int64)), .second, .unset, .unset, .unset, .unset] []))
    refine gv (fun tQ kQ => XS.goto X3.here hx rfl (pc0 := 24) (pc' := 172) rfl (hb hby at_24) (by decide) (by decide) kQ) ?_
    show G (T3.setTop (mkF me_ 172 #[.val (.int p0), .val (.long p1), .second, .val (.int p2), .val (.int (0 : Int32)), .val (.ref A_TOPICS), .val (.long (10000 : Int64)), .second, .unset, .unset, .unset, .unset] []))
    refine gv (fun tQ kQ => XS.aload X3.here hx rfl (hb hby at_172) rfl rfl kQ) ?_
    show G (T3.setTop (mkF me_ 174 #[.val (.int p0), .val (.long p1), .second, .val (.int p2), .val (.int (0 : Int32)), .val (.ref A_TOPICS), .val (.long (10000 : Int64)), .second, .unset, .unset, .unset, .unset] [(.ref A_TOPICS)]))
    refine gv (fun tQ kQ => XS.lloadN X3.here hx rfl (hb hby at_174) rfl kQ) ?_
    show G (T3.setTop (mkF me_ 175 #[.val (.int p0), .val (.long p1), .second, .val (.int p2), .val (.int (0 : Int32)), .val (.ref A_TOPICS), .val (.long (10000 : Int64)), .second, .unset, .unset, .unset, .unset] [(.long p1), (.ref A_TOPICS)]))
    obtain ⟨cq4, kq4, q4a, q4b, q4c⟩ := isOf hZ e3 (u9.ext O0.2)
    obtain ⟨_, _, ⟨T4, L4, k4, n4⟩, -, X4, ⟨Lc4, hQ4, l4, y4, z4⟩, st4⟩ := X3.virtualBack hx (y := (⟨"com/example/slot1/slot1/server/Limit", "allows", "(J)Z"⟩ : MethodName)) (z := (⟨"com/example/slot1/slot1/server/Limit", "allows", "(J)Z"⟩ : MethodName)) hown (mvT hZ (hw _ (List.mem_of_getElem? (i := 5) rfl))) (mvT hZ (hw _ (List.mem_of_getElem? (i := 6) rfl))) (notFace_of_selects (args := #[]) (mvT hZ (hw _ (List.mem_of_getElem? (i := 8) rfl)))) (mvT hZ (hw _ (List.mem_of_getElem? (i := 8) rfl))) (mvT hZ (hw _ (List.mem_of_getElem? (i := 7) rfl))) (by decide) (backOf (W := 0) (rm_allows l Z a0 hw [] A_TOPICS p1 (10000 : Int64) h0 n0 O0 (u18.ext O0.2)) hZ (hw _ (List.mem_of_getElem? (i := 9) rfl)) (hw _ (List.mem_of_getElem? (i := 2) rfl)) (by decide) (by decide)) q4a q4c (g := (mkF me_ 175 #[.val (.int p0), .val (.long p1), .second, .val (.int p2), .val (.int (0 : Int32)), .val (.ref A_TOPICS), .val (.long (10000 : Int64)), .second, .unset, .unset, .unset, .unset] [(.long p1), (.ref A_TOPICS)])) rfl (by rw [hml]; rfl) (Steps.refl _) (argsL := [(.long p1)]) (rest := []) (lenOf pd_0 rfl) rfl (by show 2 * 0 + _ ≤ _; exact Nat.le_of_eq rfl) (hb hby at_175) (fun _ _ => ⟨rfl, e3, (by decide : 0 + 0 ≤ _), (by decide : 0 + 0 ≤ _)⟩)
    dsimp only [Pt.U, Pt.locs, Pt.cells, Pt.slots] at X4 l4 y4 z4 st4 hQ4
    subst l4 y4 z4
    obtain ⟨rfl, Nq4, eq4⟩ := hQ4
    have N5 := Fr.app N0 Nq4
    by_cases hb6 : (10000 : Int64) < p1
    · rw [if_pos hb6] at st4
      refine gv (fun tQ kQ => st4.trans kQ) ?_
      show G (T4.setTop (mkF me_ 178 #[.val (.int p0), .val (.long p1), .second, .val (.int p2), .val (.int (0 : Int32)), .val (.ref A_TOPICS), .val (.long (10000 : Int64)), .second, .unset, .unset, .unset, .unset] [(.int (0 : Int32))]))
      refine gv (fun tQ kQ => XS.lloadN X4.here hx rfl (hb hby at_178) rfl kQ) ?_
      show G (T4.setTop (mkF me_ 179 #[.val (.int p0), .val (.long p1), .second, .val (.int p2), .val (.int (0 : Int32)), .val (.ref A_TOPICS), .val (.long (10000 : Int64)), .second, .unset, .unset, .unset, .unset] [(.long p1), (.int (0 : Int32))]))
      refine gv (fun tQ kQ => XS.lload X4.here hx rfl (hb hby at_179) rfl kQ) ?_
      show G (T4.setTop (mkF me_ 181 #[.val (.int p0), .val (.long p1), .second, .val (.int p2), .val (.int (0 : Int32)), .val (.ref A_TOPICS), .val (.long (10000 : Int64)), .second, .unset, .unset, .unset, .unset] [(.long (10000 : Int64)), (.long p1), (.int (0 : Int32))]))
      refine gv (fun tQ kQ => XS.lcmp X4.here hx rfl (hb hby at_181) rfl kQ) ?_
      show G (T4.setTop (mkF me_ 182 #[.val (.int p0), .val (.long p1), .second, .val (.int p2), .val (.int (0 : Int32)), .val (.ref A_TOPICS), .val (.long (10000 : Int64)), .second, .unset, .unset, .unset, .unset] [(.int (lcmpW p1 (10000 : Int64))), (.int (0 : Int32))]))
      refine gv (fun tQ kQ => XS.ifYes X4.here hx rfl (pc0 := 182) (pc' := 189) rfl (hb hby at_182) rfl ((if0 _ _).trans (tlt ((lw_gt _ _).mpr hb6)).2.2.1) (by decide) (by decide) kQ) ?_
      show G (T4.setTop (mkF me_ 189 #[.val (.int p0), .val (.long p1), .second, .val (.int p2), .val (.int (0 : Int32)), .val (.ref A_TOPICS), .val (.long (10000 : Int64)), .second, .unset, .unset, .unset, .unset] [(.int (0 : Int32))]))
      refine gv (fun tQ kQ => XS.iconst X4.here hx rfl (hb hby at_189) kQ) ?_
      show G (T4.setTop (mkF me_ 190 #[.val (.int p0), .val (.long p1), .second, .val (.int p2), .val (.int (0 : Int32)), .val (.ref A_TOPICS), .val (.long (10000 : Int64)), .second, .unset, .unset, .unset, .unset] [(.int (0 : Int32)), (.int (0 : Int32))]))
      refine gv (fun tQ kQ => XS.icmpNo X4.here hx rfl (hb hby at_190) rfl (teq (by decide : (0 : Int32) = (0 : Int32))).2 kQ) ?_
      show G (T4.setTop (mkF me_ 193 #[.val (.int p0), .val (.long p1), .second, .val (.int p2), .val (.int (0 : Int32)), .val (.ref A_TOPICS), .val (.long (10000 : Int64)), .second, .unset, .unset, .unset, .unset] []))
      refine gv (fun tQ kQ => XS.iconst X4.here hx rfl (hb hby at_193) kQ) ?_
      show G (T4.setTop (mkF me_ 194 #[.val (.int p0), .val (.long p1), .second, .val (.int p2), .val (.int (0 : Int32)), .val (.ref A_TOPICS), .val (.long (10000 : Int64)), .second, .unset, .unset, .unset, .unset] [(.int (1 : Int32))]))
      refine gv (fun tQ kQ => XS.goto X4.here hx rfl (pc0 := 194) (pc' := 198) rfl (hb hby at_194) (by decide) (by decide) kQ) ?_
      show G (T4.setTop (mkF me_ 198 #[.val (.int p0), .val (.long p1), .second, .val (.int p2), .val (.int (0 : Int32)), .val (.ref A_TOPICS), .val (.long (10000 : Int64)), .second, .unset, .unset, .unset, .unset] [(.int (1 : Int32))]))
      refine gv (fun tQ kQ => XS.istore X4.here hx rfl (hb hby at_198) rfl (l' := #[.val (.int p0), .val (.long p1), .second, .val (.int p2), .val (.int (0 : Int32)), .val (.ref A_TOPICS), .val (.long (10000 : Int64)), .second, .val (.int (1 : Int32)), .unset, .unset, .unset]) rfl kQ) ?_
      show G (T4.setTop (mkF me_ 200 #[.val (.int p0), .val (.long p1), .second, .val (.int p2), .val (.int (0 : Int32)), .val (.ref A_TOPICS), .val (.long (10000 : Int64)), .second, .val (.int (1 : Int32)), .unset, .unset, .unset] []))
      refine gv (fun tQ kQ => XS.lload X4.here hx rfl (hb hby at_200) rfl kQ) ?_
      show G (T4.setTop (mkF me_ 202 #[.val (.int p0), .val (.long p1), .second, .val (.int p2), .val (.int (0 : Int32)), .val (.ref A_TOPICS), .val (.long (10000 : Int64)), .second, .val (.int (1 : Int32)), .unset, .unset, .unset] [(.long (10000 : Int64))]))
      refine gv (fun tQ kQ => XS.iloadN X4.here hx rfl (hb hby at_202) rfl kQ) ?_
      show G (T4.setTop (mkF me_ 203 #[.val (.int p0), .val (.long p1), .second, .val (.int p2), .val (.int (0 : Int32)), .val (.ref A_TOPICS), .val (.long (10000 : Int64)), .second, .val (.int (1 : Int32)), .unset, .unset, .unset] [(.int p2), (.long (10000 : Int64))]))
      refine gv (fun tQ kQ => XS.iconst X4.here hx rfl (hb hby at_203) kQ) ?_
      show G (T4.setTop (mkF me_ 204 #[.val (.int p0), .val (.long p1), .second, .val (.int p2), .val (.int (0 : Int32)), .val (.ref A_TOPICS), .val (.long (10000 : Int64)), .second, .val (.int (1 : Int32)), .unset, .unset, .unset] [(.int (3 : Int32)), (.int p2), (.long (10000 : Int64))]))
      refine gv (fun tQ kQ => XS.iand X4.here hx rfl (hb hby at_204) rfl kQ) ?_
      show G (T4.setTop (mkF me_ 205 #[.val (.int p0), .val (.long p1), .second, .val (.int p2), .val (.int (0 : Int32)), .val (.ref A_TOPICS), .val (.long (10000 : Int64)), .second, .val (.int (1 : Int32)), .unset, .unset, .unset] [(.int (p2 &&& (3 : Int32))), (.long (10000 : Int64))]))
      refine gv (fun tQ kQ => XS.iconst X4.here hx rfl (hb hby at_205) kQ) ?_
      show G (T4.setTop (mkF me_ 206 #[.val (.int p0), .val (.long p1), .second, .val (.int p2), .val (.int (0 : Int32)), .val (.ref A_TOPICS), .val (.long (10000 : Int64)), .second, .val (.int (1 : Int32)), .unset, .unset, .unset] [(.int (2 : Int32)), (.int (p2 &&& (3 : Int32))), (.long (10000 : Int64))]))
      refine gv (fun tQ kQ => XS.isub X4.here hx rfl (hb hby at_206) rfl kQ) ?_
      show G (T4.setTop (mkF me_ 207 #[.val (.int p0), .val (.long p1), .second, .val (.int p2), .val (.int (0 : Int32)), .val (.ref A_TOPICS), .val (.long (10000 : Int64)), .second, .val (.int (1 : Int32)), .unset, .unset, .unset] [(.int ((p2 &&& (3 : Int32)) - (2 : Int32))), (.long (10000 : Int64))]))
      refine gv (fun tQ kQ => XS.i2l X4.here hx rfl (hb hby at_207) rfl kQ) ?_
      show G (T4.setTop (mkF me_ 208 #[.val (.int p0), .val (.long p1), .second, .val (.int p2), .val (.int (0 : Int32)), .val (.ref A_TOPICS), .val (.long (10000 : Int64)), .second, .val (.int (1 : Int32)), .unset, .unset, .unset] [(.long (((p2 &&& (3 : Int32)) - (2 : Int32)).toInt64)), (.long (10000 : Int64))]))
      refine gv (fun tQ kQ => XS.ladd X4.here hx rfl (hb hby at_208) rfl kQ) ?_
      show G (T4.setTop (mkF me_ 209 #[.val (.int p0), .val (.long p1), .second, .val (.int p2), .val (.int (0 : Int32)), .val (.ref A_TOPICS), .val (.long (10000 : Int64)), .second, .val (.int (1 : Int32)), .unset, .unset, .unset] [(.long ((10000 : Int64) + (((p2 &&& (3 : Int32)) - (2 : Int32)).toInt64)))]))
      refine gv (fun tQ kQ => XS.lstore X4.here hx rfl (hb hby at_209) rfl (l' := #[.val (.int p0), .val (.long p1), .second, .val (.int p2), .val (.int (0 : Int32)), .val (.ref A_TOPICS), .val (.long (10000 : Int64)), .second, .val (.int (1 : Int32)), .val (.long ((10000 : Int64) + (((p2 &&& (3 : Int32)) - (2 : Int32)).toInt64))), .second, .unset]) rfl kQ) ?_
      show G (T4.setTop (mkF me_ 211 #[.val (.int p0), .val (.long p1), .second, .val (.int p2), .val (.int (0 : Int32)), .val (.ref A_TOPICS), .val (.long (10000 : Int64)), .second, .val (.int (1 : Int32)), .val (.long ((10000 : Int64) + (((p2 &&& (3 : Int32)) - (2 : Int32)).toInt64))), .second, .unset] []))
      refine gv (fun tQ kQ => XS.aload X4.here hx rfl (hb hby at_211) rfl rfl kQ) ?_
      show G (T4.setTop (mkF me_ 213 #[.val (.int p0), .val (.long p1), .second, .val (.int p2), .val (.int (0 : Int32)), .val (.ref A_TOPICS), .val (.long (10000 : Int64)), .second, .val (.int (1 : Int32)), .val (.long ((10000 : Int64) + (((p2 &&& (3 : Int32)) - (2 : Int32)).toInt64))), .second, .unset] [(.ref A_TOPICS)]))
      refine gv (fun tQ kQ => XS.lload X4.here hx rfl (hb hby at_213) rfl kQ) ?_
      show G (T4.setTop (mkF me_ 215 #[.val (.int p0), .val (.long p1), .second, .val (.int p2), .val (.int (0 : Int32)), .val (.ref A_TOPICS), .val (.long (10000 : Int64)), .second, .val (.int (1 : Int32)), .val (.long ((10000 : Int64) + (((p2 &&& (3 : Int32)) - (2 : Int32)).toInt64))), .second, .unset] [(.long ((10000 : Int64) + (((p2 &&& (3 : Int32)) - (2 : Int32)).toInt64))), (.ref A_TOPICS)]))
      obtain ⟨cq7, kq7, q7a, q7b, q7c⟩ := isOf hZ eq4 (u9.ext O0.2)
      obtain ⟨_, _, ⟨T7, L7, k7, n7⟩, -, X7, ⟨Lc7, hQ7, l7, y7, z7⟩, st7⟩ := X4.virtualBack hx (y := (⟨"com/example/slot1/slot1/server/Limit", "allows", "(J)Z"⟩ : MethodName)) (z := (⟨"com/example/slot1/slot1/server/Limit", "allows", "(J)Z"⟩ : MethodName)) hown (mvT hZ (hw _ (List.mem_of_getElem? (i := 5) rfl))) (mvT hZ (hw _ (List.mem_of_getElem? (i := 6) rfl))) (notFace_of_selects (args := #[]) (mvT hZ (hw _ (List.mem_of_getElem? (i := 8) rfl)))) (mvT hZ (hw _ (List.mem_of_getElem? (i := 8) rfl))) (mvT hZ (hw _ (List.mem_of_getElem? (i := 7) rfl))) (by decide) (backOf (W := 0) (rm_allows l Z a0 hw [] A_TOPICS ((10000 : Int64) + (((p2 &&& (3 : Int32)) - (2 : Int32)).toInt64)) (10000 : Int64) h0 n0 O0 (u18.ext O0.2)) hZ (hw _ (List.mem_of_getElem? (i := 9) rfl)) (hw _ (List.mem_of_getElem? (i := 2) rfl)) (by decide) (by decide)) q7a q7c (g := (mkF me_ 215 #[.val (.int p0), .val (.long p1), .second, .val (.int p2), .val (.int (0 : Int32)), .val (.ref A_TOPICS), .val (.long (10000 : Int64)), .second, .val (.int (1 : Int32)), .val (.long ((10000 : Int64) + (((p2 &&& (3 : Int32)) - (2 : Int32)).toInt64))), .second, .unset] [(.long ((10000 : Int64) + (((p2 &&& (3 : Int32)) - (2 : Int32)).toInt64))), (.ref A_TOPICS)])) rfl (by rw [hml]; rfl) (Steps.refl _) (argsL := [(.long ((10000 : Int64) + (((p2 &&& (3 : Int32)) - (2 : Int32)).toInt64)))]) (rest := []) (lenOf pd_0 rfl) rfl (by show 2 * 0 + _ ≤ _; exact Nat.le_of_eq rfl) (hb hby at_215) (fun _ _ => ⟨rfl, eq4, (by decide : 0 + 0 ≤ _), (by decide : 0 + 0 ≤ _)⟩)
      dsimp only [Pt.U, Pt.locs, Pt.cells, Pt.slots] at X7 l7 y7 z7 st7 hQ7
      subst l7 y7 z7
      obtain ⟨rfl, Nq7, eq7⟩ := hQ7
      have N8 := Fr.app N5 Nq7
      by_cases hb9 : (10000 : Int64) < ((10000 : Int64) + (((p2 &&& (3 : Int32)) - (2 : Int32)).toInt64))
      · rw [if_pos hb9] at st7
        refine gv (fun tQ kQ => st7.trans kQ) ?_
        show G (T7.setTop (mkF me_ 218 #[.val (.int p0), .val (.long p1), .second, .val (.int p2), .val (.int (0 : Int32)), .val (.ref A_TOPICS), .val (.long (10000 : Int64)), .second, .val (.int (1 : Int32)), .val (.long ((10000 : Int64) + (((p2 &&& (3 : Int32)) - (2 : Int32)).toInt64))), .second, .unset] [(.int (0 : Int32))]))
        refine gv (fun tQ kQ => XS.lload X7.here hx rfl (hb hby at_218) rfl kQ) ?_
        show G (T7.setTop (mkF me_ 220 #[.val (.int p0), .val (.long p1), .second, .val (.int p2), .val (.int (0 : Int32)), .val (.ref A_TOPICS), .val (.long (10000 : Int64)), .second, .val (.int (1 : Int32)), .val (.long ((10000 : Int64) + (((p2 &&& (3 : Int32)) - (2 : Int32)).toInt64))), .second, .unset] [(.long ((10000 : Int64) + (((p2 &&& (3 : Int32)) - (2 : Int32)).toInt64))), (.int (0 : Int32))]))
        refine gv (fun tQ kQ => XS.lload X7.here hx rfl (hb hby at_220) rfl kQ) ?_
        show G (T7.setTop (mkF me_ 222 #[.val (.int p0), .val (.long p1), .second, .val (.int p2), .val (.int (0 : Int32)), .val (.ref A_TOPICS), .val (.long (10000 : Int64)), .second, .val (.int (1 : Int32)), .val (.long ((10000 : Int64) + (((p2 &&& (3 : Int32)) - (2 : Int32)).toInt64))), .second, .unset] [(.long (10000 : Int64)), (.long ((10000 : Int64) + (((p2 &&& (3 : Int32)) - (2 : Int32)).toInt64))), (.int (0 : Int32))]))
        refine gv (fun tQ kQ => XS.lcmp X7.here hx rfl (hb hby at_222) rfl kQ) ?_
        show G (T7.setTop (mkF me_ 223 #[.val (.int p0), .val (.long p1), .second, .val (.int p2), .val (.int (0 : Int32)), .val (.ref A_TOPICS), .val (.long (10000 : Int64)), .second, .val (.int (1 : Int32)), .val (.long ((10000 : Int64) + (((p2 &&& (3 : Int32)) - (2 : Int32)).toInt64))), .second, .unset] [(.int (lcmpW ((10000 : Int64) + (((p2 &&& (3 : Int32)) - (2 : Int32)).toInt64)) (10000 : Int64))), (.int (0 : Int32))]))
        refine gv (fun tQ kQ => XS.ifYes X7.here hx rfl (pc0 := 223) (pc' := 230) rfl (hb hby at_223) rfl ((if0 _ _).trans (tlt ((lw_gt _ _).mpr hb9)).2.2.1) (by decide) (by decide) kQ) ?_
        show G (T7.setTop (mkF me_ 230 #[.val (.int p0), .val (.long p1), .second, .val (.int p2), .val (.int (0 : Int32)), .val (.ref A_TOPICS), .val (.long (10000 : Int64)), .second, .val (.int (1 : Int32)), .val (.long ((10000 : Int64) + (((p2 &&& (3 : Int32)) - (2 : Int32)).toInt64))), .second, .unset] [(.int (0 : Int32))]))
        refine gv (fun tQ kQ => XS.iconst X7.here hx rfl (hb hby at_230) kQ) ?_
        show G (T7.setTop (mkF me_ 231 #[.val (.int p0), .val (.long p1), .second, .val (.int p2), .val (.int (0 : Int32)), .val (.ref A_TOPICS), .val (.long (10000 : Int64)), .second, .val (.int (1 : Int32)), .val (.long ((10000 : Int64) + (((p2 &&& (3 : Int32)) - (2 : Int32)).toInt64))), .second, .unset] [(.int (0 : Int32)), (.int (0 : Int32))]))
        refine gv (fun tQ kQ => XS.icmpNo X7.here hx rfl (hb hby at_231) rfl (teq (by decide : (0 : Int32) = (0 : Int32))).2 kQ) ?_
        show G (T7.setTop (mkF me_ 234 #[.val (.int p0), .val (.long p1), .second, .val (.int p2), .val (.int (0 : Int32)), .val (.ref A_TOPICS), .val (.long (10000 : Int64)), .second, .val (.int (1 : Int32)), .val (.long ((10000 : Int64) + (((p2 &&& (3 : Int32)) - (2 : Int32)).toInt64))), .second, .unset] []))
        refine gv (fun tQ kQ => XS.iconst X7.here hx rfl (hb hby at_234) kQ) ?_
        show G (T7.setTop (mkF me_ 235 #[.val (.int p0), .val (.long p1), .second, .val (.int p2), .val (.int (0 : Int32)), .val (.ref A_TOPICS), .val (.long (10000 : Int64)), .second, .val (.int (1 : Int32)), .val (.long ((10000 : Int64) + (((p2 &&& (3 : Int32)) - (2 : Int32)).toInt64))), .second, .unset] [(.int (1 : Int32))]))
        refine gv (fun tQ kQ => XS.goto X7.here hx rfl (pc0 := 235) (pc' := 239) rfl (hb hby at_235) (by decide) (by decide) kQ) ?_
        show G (T7.setTop (mkF me_ 239 #[.val (.int p0), .val (.long p1), .second, .val (.int p2), .val (.int (0 : Int32)), .val (.ref A_TOPICS), .val (.long (10000 : Int64)), .second, .val (.int (1 : Int32)), .val (.long ((10000 : Int64) + (((p2 &&& (3 : Int32)) - (2 : Int32)).toInt64))), .second, .unset] [(.int (1 : Int32))]))
        refine gv (fun tQ kQ => XS.istore X7.here hx rfl (hb hby at_239) rfl (l' := #[.val (.int p0), .val (.long p1), .second, .val (.int p2), .val (.int (0 : Int32)), .val (.ref A_TOPICS), .val (.long (10000 : Int64)), .second, .val (.int (1 : Int32)), .val (.long ((10000 : Int64) + (((p2 &&& (3 : Int32)) - (2 : Int32)).toInt64))), .second, .val (.int (1 : Int32))]) rfl kQ) ?_
        show G (T7.setTop (mkF me_ 241 #[.val (.int p0), .val (.long p1), .second, .val (.int p2), .val (.int (0 : Int32)), .val (.ref A_TOPICS), .val (.long (10000 : Int64)), .second, .val (.int (1 : Int32)), .val (.long ((10000 : Int64) + (((p2 &&& (3 : Int32)) - (2 : Int32)).toInt64))), .second, .val (.int (1 : Int32))] []))
        refine gv (fun tQ kQ => XS.iload X7.here hx rfl (hb hby at_241) rfl kQ) ?_
        show G (T7.setTop (mkF me_ 243 #[.val (.int p0), .val (.long p1), .second, .val (.int p2), .val (.int (0 : Int32)), .val (.ref A_TOPICS), .val (.long (10000 : Int64)), .second, .val (.int (1 : Int32)), .val (.long ((10000 : Int64) + (((p2 &&& (3 : Int32)) - (2 : Int32)).toInt64))), .second, .val (.int (1 : Int32))] [(.int (1 : Int32))]))
        refine gv (fun tQ kQ => XS.ifNo X7.here hx rfl (hb hby at_243) rfl ((if0 _ _).trans (feq (by decide : ¬ ((1 : Int32) = (0 : Int32)))).1) kQ) ?_
        show G (T7.setTop (mkF me_ 246 #[.val (.int p0), .val (.long p1), .second, .val (.int p2), .val (.int (0 : Int32)), .val (.ref A_TOPICS), .val (.long (10000 : Int64)), .second, .val (.int (1 : Int32)), .val (.long ((10000 : Int64) + (((p2 &&& (3 : Int32)) - (2 : Int32)).toInt64))), .second, .val (.int (1 : Int32))] []))
        refine gv (fun tQ kQ => XS.iload X7.here hx rfl (hb hby at_246) rfl kQ) ?_
        show G (T7.setTop (mkF me_ 248 #[.val (.int p0), .val (.long p1), .second, .val (.int p2), .val (.int (0 : Int32)), .val (.ref A_TOPICS), .val (.long (10000 : Int64)), .second, .val (.int (1 : Int32)), .val (.long ((10000 : Int64) + (((p2 &&& (3 : Int32)) - (2 : Int32)).toInt64))), .second, .val (.int (1 : Int32))] [(.int (1 : Int32))]))
        refine gv (fun tQ kQ => XS.ifNo X7.here hx rfl (hb hby at_248) rfl ((if0 _ _).trans (feq (by decide : ¬ ((1 : Int32) = (0 : Int32)))).1) kQ) ?_
        show G (T7.setTop (mkF me_ 251 #[.val (.int p0), .val (.long p1), .second, .val (.int p2), .val (.int (0 : Int32)), .val (.ref A_TOPICS), .val (.long (10000 : Int64)), .second, .val (.int (1 : Int32)), .val (.long ((10000 : Int64) + (((p2 &&& (3 : Int32)) - (2 : Int32)).toInt64))), .second, .val (.int (1 : Int32))] []))
        refine gv (fun tQ kQ => XS.iconst X7.here hx rfl (hb hby at_251) kQ) ?_
        show G (T7.setTop (mkF me_ 252 #[.val (.int p0), .val (.long p1), .second, .val (.int p2), .val (.int (0 : Int32)), .val (.ref A_TOPICS), .val (.long (10000 : Int64)), .second, .val (.int (1 : Int32)), .val (.long ((10000 : Int64) + (((p2 &&& (3 : Int32)) - (2 : Int32)).toInt64))), .second, .val (.int (1 : Int32))] [(.int (1 : Int32))]))
        refine gv (fun tQ kQ => XS.goto X7.here hx rfl (pc0 := 252) (pc' := 256) rfl (hb hby at_252) (by decide) (by decide) kQ) ?_
        show G (T7.setTop (mkF me_ 256 #[.val (.int p0), .val (.long p1), .second, .val (.int p2), .val (.int (0 : Int32)), .val (.ref A_TOPICS), .val (.long (10000 : Int64)), .second, .val (.int (1 : Int32)), .val (.long ((10000 : Int64) + (((p2 &&& (3 : Int32)) - (2 : Int32)).toInt64))), .second, .val (.int (1 : Int32))] [(.int (1 : Int32))]))
        refine gf _ (own_ret X7 Bd.notSynchronized (v := some (.int (1 : Int32))) (fun h => by rw [Bd.returns] at h; cases h) ?_ (by decide) (by decide) (fun fs hr => retN X7 hx (t := .boolean) Bd.returns (by simp) (hb hby at_256) hr))
        show Q0 Z p0 p1 p2 A_TOPICS A_ROUTE_QUEUES A_GROUPS A_MEMBERS A_GROUP_MEMBERS A_MEMBER_TOPICS A_QUEUES A_OFFSETS A_OPTIONS_BYTES h0 n0 _ T7.heap _
        rw [eq7]
        exact ⟨rfl, N8⟩
      · skip
        rw [if_neg hb9] at st7
        refine gv (fun tQ kQ => st7.trans kQ) ?_
        show G (T7.setTop (mkF me_ 218 #[.val (.int p0), .val (.long p1), .second, .val (.int p2), .val (.int (0 : Int32)), .val (.ref A_TOPICS), .val (.long (10000 : Int64)), .second, .val (.int (1 : Int32)), .val (.long ((10000 : Int64) + (((p2 &&& (3 : Int32)) - (2 : Int32)).toInt64))), .second, .unset] [(.int (1 : Int32))]))
        refine gv (fun tQ kQ => XS.lload X7.here hx rfl (hb hby at_218) rfl kQ) ?_
        show G (T7.setTop (mkF me_ 220 #[.val (.int p0), .val (.long p1), .second, .val (.int p2), .val (.int (0 : Int32)), .val (.ref A_TOPICS), .val (.long (10000 : Int64)), .second, .val (.int (1 : Int32)), .val (.long ((10000 : Int64) + (((p2 &&& (3 : Int32)) - (2 : Int32)).toInt64))), .second, .unset] [(.long ((10000 : Int64) + (((p2 &&& (3 : Int32)) - (2 : Int32)).toInt64))), (.int (1 : Int32))]))
        refine gv (fun tQ kQ => XS.lload X7.here hx rfl (hb hby at_220) rfl kQ) ?_
        show G (T7.setTop (mkF me_ 222 #[.val (.int p0), .val (.long p1), .second, .val (.int p2), .val (.int (0 : Int32)), .val (.ref A_TOPICS), .val (.long (10000 : Int64)), .second, .val (.int (1 : Int32)), .val (.long ((10000 : Int64) + (((p2 &&& (3 : Int32)) - (2 : Int32)).toInt64))), .second, .unset] [(.long (10000 : Int64)), (.long ((10000 : Int64) + (((p2 &&& (3 : Int32)) - (2 : Int32)).toInt64))), (.int (1 : Int32))]))
        refine gv (fun tQ kQ => XS.lcmp X7.here hx rfl (hb hby at_222) rfl kQ) ?_
        show G (T7.setTop (mkF me_ 223 #[.val (.int p0), .val (.long p1), .second, .val (.int p2), .val (.int (0 : Int32)), .val (.ref A_TOPICS), .val (.long (10000 : Int64)), .second, .val (.int (1 : Int32)), .val (.long ((10000 : Int64) + (((p2 &&& (3 : Int32)) - (2 : Int32)).toInt64))), .second, .unset] [(.int (lcmpW ((10000 : Int64) + (((p2 &&& (3 : Int32)) - (2 : Int32)).toInt64)) (10000 : Int64))), (.int (1 : Int32))]))
        refine gv (fun tQ kQ => XS.ifNo X7.here hx rfl (hb hby at_223) rfl ((if0 _ _).trans (flt (mt (lw_gt _ _).mp hb9)).2.2.1) kQ) ?_
        show G (T7.setTop (mkF me_ 226 #[.val (.int p0), .val (.long p1), .second, .val (.int p2), .val (.int (0 : Int32)), .val (.ref A_TOPICS), .val (.long (10000 : Int64)), .second, .val (.int (1 : Int32)), .val (.long ((10000 : Int64) + (((p2 &&& (3 : Int32)) - (2 : Int32)).toInt64))), .second, .unset] [(.int (1 : Int32))]))
        refine gv (fun tQ kQ => XS.iconst X7.here hx rfl (hb hby at_226) kQ) ?_
        show G (T7.setTop (mkF me_ 227 #[.val (.int p0), .val (.long p1), .second, .val (.int p2), .val (.int (0 : Int32)), .val (.ref A_TOPICS), .val (.long (10000 : Int64)), .second, .val (.int (1 : Int32)), .val (.long ((10000 : Int64) + (((p2 &&& (3 : Int32)) - (2 : Int32)).toInt64))), .second, .unset] [(.int (1 : Int32)), (.int (1 : Int32))]))
        refine gv (fun tQ kQ => XS.goto X7.here hx rfl (pc0 := 227) (pc' := 231) rfl (hb hby at_227) (by decide) (by decide) kQ) ?_
        show G (T7.setTop (mkF me_ 231 #[.val (.int p0), .val (.long p1), .second, .val (.int p2), .val (.int (0 : Int32)), .val (.ref A_TOPICS), .val (.long (10000 : Int64)), .second, .val (.int (1 : Int32)), .val (.long ((10000 : Int64) + (((p2 &&& (3 : Int32)) - (2 : Int32)).toInt64))), .second, .unset] [(.int (1 : Int32)), (.int (1 : Int32))]))
        refine gv (fun tQ kQ => XS.icmpNo X7.here hx rfl (hb hby at_231) rfl (teq (by decide : (1 : Int32) = (1 : Int32))).2 kQ) ?_
        show G (T7.setTop (mkF me_ 234 #[.val (.int p0), .val (.long p1), .second, .val (.int p2), .val (.int (0 : Int32)), .val (.ref A_TOPICS), .val (.long (10000 : Int64)), .second, .val (.int (1 : Int32)), .val (.long ((10000 : Int64) + (((p2 &&& (3 : Int32)) - (2 : Int32)).toInt64))), .second, .unset] []))
        refine gv (fun tQ kQ => XS.iconst X7.here hx rfl (hb hby at_234) kQ) ?_
        show G (T7.setTop (mkF me_ 235 #[.val (.int p0), .val (.long p1), .second, .val (.int p2), .val (.int (0 : Int32)), .val (.ref A_TOPICS), .val (.long (10000 : Int64)), .second, .val (.int (1 : Int32)), .val (.long ((10000 : Int64) + (((p2 &&& (3 : Int32)) - (2 : Int32)).toInt64))), .second, .unset] [(.int (1 : Int32))]))
        refine gv (fun tQ kQ => XS.goto X7.here hx rfl (pc0 := 235) (pc' := 239) rfl (hb hby at_235) (by decide) (by decide) kQ) ?_
        show G (T7.setTop (mkF me_ 239 #[.val (.int p0), .val (.long p1), .second, .val (.int p2), .val (.int (0 : Int32)), .val (.ref A_TOPICS), .val (.long (10000 : Int64)), .second, .val (.int (1 : Int32)), .val (.long ((10000 : Int64) + (((p2 &&& (3 : Int32)) - (2 : Int32)).toInt64))), .second, .unset] [(.int (1 : Int32))]))
        refine gv (fun tQ kQ => XS.istore X7.here hx rfl (hb hby at_239) rfl (l' := #[.val (.int p0), .val (.long p1), .second, .val (.int p2), .val (.int (0 : Int32)), .val (.ref A_TOPICS), .val (.long (10000 : Int64)), .second, .val (.int (1 : Int32)), .val (.long ((10000 : Int64) + (((p2 &&& (3 : Int32)) - (2 : Int32)).toInt64))), .second, .val (.int (1 : Int32))]) rfl kQ) ?_
        show G (T7.setTop (mkF me_ 241 #[.val (.int p0), .val (.long p1), .second, .val (.int p2), .val (.int (0 : Int32)), .val (.ref A_TOPICS), .val (.long (10000 : Int64)), .second, .val (.int (1 : Int32)), .val (.long ((10000 : Int64) + (((p2 &&& (3 : Int32)) - (2 : Int32)).toInt64))), .second, .val (.int (1 : Int32))] []))
        refine gv (fun tQ kQ => XS.iload X7.here hx rfl (hb hby at_241) rfl kQ) ?_
        show G (T7.setTop (mkF me_ 243 #[.val (.int p0), .val (.long p1), .second, .val (.int p2), .val (.int (0 : Int32)), .val (.ref A_TOPICS), .val (.long (10000 : Int64)), .second, .val (.int (1 : Int32)), .val (.long ((10000 : Int64) + (((p2 &&& (3 : Int32)) - (2 : Int32)).toInt64))), .second, .val (.int (1 : Int32))] [(.int (1 : Int32))]))
        refine gv (fun tQ kQ => XS.ifNo X7.here hx rfl (hb hby at_243) rfl ((if0 _ _).trans (feq (by decide : ¬ ((1 : Int32) = (0 : Int32)))).1) kQ) ?_
        show G (T7.setTop (mkF me_ 246 #[.val (.int p0), .val (.long p1), .second, .val (.int p2), .val (.int (0 : Int32)), .val (.ref A_TOPICS), .val (.long (10000 : Int64)), .second, .val (.int (1 : Int32)), .val (.long ((10000 : Int64) + (((p2 &&& (3 : Int32)) - (2 : Int32)).toInt64))), .second, .val (.int (1 : Int32))] []))
        refine gv (fun tQ kQ => XS.iload X7.here hx rfl (hb hby at_246) rfl kQ) ?_
        show G (T7.setTop (mkF me_ 248 #[.val (.int p0), .val (.long p1), .second, .val (.int p2), .val (.int (0 : Int32)), .val (.ref A_TOPICS), .val (.long (10000 : Int64)), .second, .val (.int (1 : Int32)), .val (.long ((10000 : Int64) + (((p2 &&& (3 : Int32)) - (2 : Int32)).toInt64))), .second, .val (.int (1 : Int32))] [(.int (1 : Int32))]))
        refine gv (fun tQ kQ => XS.ifNo X7.here hx rfl (hb hby at_248) rfl ((if0 _ _).trans (feq (by decide : ¬ ((1 : Int32) = (0 : Int32)))).1) kQ) ?_
        show G (T7.setTop (mkF me_ 251 #[.val (.int p0), .val (.long p1), .second, .val (.int p2), .val (.int (0 : Int32)), .val (.ref A_TOPICS), .val (.long (10000 : Int64)), .second, .val (.int (1 : Int32)), .val (.long ((10000 : Int64) + (((p2 &&& (3 : Int32)) - (2 : Int32)).toInt64))), .second, .val (.int (1 : Int32))] []))
        refine gv (fun tQ kQ => XS.iconst X7.here hx rfl (hb hby at_251) kQ) ?_
        show G (T7.setTop (mkF me_ 252 #[.val (.int p0), .val (.long p1), .second, .val (.int p2), .val (.int (0 : Int32)), .val (.ref A_TOPICS), .val (.long (10000 : Int64)), .second, .val (.int (1 : Int32)), .val (.long ((10000 : Int64) + (((p2 &&& (3 : Int32)) - (2 : Int32)).toInt64))), .second, .val (.int (1 : Int32))] [(.int (1 : Int32))]))
        refine gv (fun tQ kQ => XS.goto X7.here hx rfl (pc0 := 252) (pc' := 256) rfl (hb hby at_252) (by decide) (by decide) kQ) ?_
        show G (T7.setTop (mkF me_ 256 #[.val (.int p0), .val (.long p1), .second, .val (.int p2), .val (.int (0 : Int32)), .val (.ref A_TOPICS), .val (.long (10000 : Int64)), .second, .val (.int (1 : Int32)), .val (.long ((10000 : Int64) + (((p2 &&& (3 : Int32)) - (2 : Int32)).toInt64))), .second, .val (.int (1 : Int32))] [(.int (1 : Int32))]))
        refine gf _ (own_ret X7 Bd.notSynchronized (v := some (.int (1 : Int32))) (fun h => by rw [Bd.returns] at h; cases h) ?_ (by decide) (by decide) (fun fs hr => retN X7 hx (t := .boolean) Bd.returns (by simp) (hb hby at_256) hr))
        show Q0 Z p0 p1 p2 A_TOPICS A_ROUTE_QUEUES A_GROUPS A_MEMBERS A_GROUP_MEMBERS A_MEMBER_TOPICS A_QUEUES A_OFFSETS A_OPTIONS_BYTES h0 n0 _ T7.heap _
        rw [eq7]
        exact ⟨rfl, N8⟩
    · skip
      rw [if_neg hb6] at st4
      refine gv (fun tQ kQ => st4.trans kQ) ?_
      show G (T4.setTop (mkF me_ 178 #[.val (.int p0), .val (.long p1), .second, .val (.int p2), .val (.int (0 : Int32)), .val (.ref A_TOPICS), .val (.long (10000 : Int64)), .second, .unset, .unset, .unset, .unset] [(.int (1 : Int32))]))
      refine gv (fun tQ kQ => XS.lloadN X4.here hx rfl (hb hby at_178) rfl kQ) ?_
      show G (T4.setTop (mkF me_ 179 #[.val (.int p0), .val (.long p1), .second, .val (.int p2), .val (.int (0 : Int32)), .val (.ref A_TOPICS), .val (.long (10000 : Int64)), .second, .unset, .unset, .unset, .unset] [(.long p1), (.int (1 : Int32))]))
      refine gv (fun tQ kQ => XS.lload X4.here hx rfl (hb hby at_179) rfl kQ) ?_
      show G (T4.setTop (mkF me_ 181 #[.val (.int p0), .val (.long p1), .second, .val (.int p2), .val (.int (0 : Int32)), .val (.ref A_TOPICS), .val (.long (10000 : Int64)), .second, .unset, .unset, .unset, .unset] [(.long (10000 : Int64)), (.long p1), (.int (1 : Int32))]))
      refine gv (fun tQ kQ => XS.lcmp X4.here hx rfl (hb hby at_181) rfl kQ) ?_
      show G (T4.setTop (mkF me_ 182 #[.val (.int p0), .val (.long p1), .second, .val (.int p2), .val (.int (0 : Int32)), .val (.ref A_TOPICS), .val (.long (10000 : Int64)), .second, .unset, .unset, .unset, .unset] [(.int (lcmpW p1 (10000 : Int64))), (.int (1 : Int32))]))
      refine gv (fun tQ kQ => XS.ifNo X4.here hx rfl (hb hby at_182) rfl ((if0 _ _).trans (flt (mt (lw_gt _ _).mp hb6)).2.2.1) kQ) ?_
      show G (T4.setTop (mkF me_ 185 #[.val (.int p0), .val (.long p1), .second, .val (.int p2), .val (.int (0 : Int32)), .val (.ref A_TOPICS), .val (.long (10000 : Int64)), .second, .unset, .unset, .unset, .unset] [(.int (1 : Int32))]))
      refine gv (fun tQ kQ => XS.iconst X4.here hx rfl (hb hby at_185) kQ) ?_
      show G (T4.setTop (mkF me_ 186 #[.val (.int p0), .val (.long p1), .second, .val (.int p2), .val (.int (0 : Int32)), .val (.ref A_TOPICS), .val (.long (10000 : Int64)), .second, .unset, .unset, .unset, .unset] [(.int (1 : Int32)), (.int (1 : Int32))]))
      refine gv (fun tQ kQ => XS.goto X4.here hx rfl (pc0 := 186) (pc' := 190) rfl (hb hby at_186) (by decide) (by decide) kQ) ?_
      show G (T4.setTop (mkF me_ 190 #[.val (.int p0), .val (.long p1), .second, .val (.int p2), .val (.int (0 : Int32)), .val (.ref A_TOPICS), .val (.long (10000 : Int64)), .second, .unset, .unset, .unset, .unset] [(.int (1 : Int32)), (.int (1 : Int32))]))
      refine gv (fun tQ kQ => XS.icmpNo X4.here hx rfl (hb hby at_190) rfl (teq (by decide : (1 : Int32) = (1 : Int32))).2 kQ) ?_
      show G (T4.setTop (mkF me_ 193 #[.val (.int p0), .val (.long p1), .second, .val (.int p2), .val (.int (0 : Int32)), .val (.ref A_TOPICS), .val (.long (10000 : Int64)), .second, .unset, .unset, .unset, .unset] []))
      refine gv (fun tQ kQ => XS.iconst X4.here hx rfl (hb hby at_193) kQ) ?_
      show G (T4.setTop (mkF me_ 194 #[.val (.int p0), .val (.long p1), .second, .val (.int p2), .val (.int (0 : Int32)), .val (.ref A_TOPICS), .val (.long (10000 : Int64)), .second, .unset, .unset, .unset, .unset] [(.int (1 : Int32))]))
      refine gv (fun tQ kQ => XS.goto X4.here hx rfl (pc0 := 194) (pc' := 198) rfl (hb hby at_194) (by decide) (by decide) kQ) ?_
      show G (T4.setTop (mkF me_ 198 #[.val (.int p0), .val (.long p1), .second, .val (.int p2), .val (.int (0 : Int32)), .val (.ref A_TOPICS), .val (.long (10000 : Int64)), .second, .unset, .unset, .unset, .unset] [(.int (1 : Int32))]))
      refine gv (fun tQ kQ => XS.istore X4.here hx rfl (hb hby at_198) rfl (l' := #[.val (.int p0), .val (.long p1), .second, .val (.int p2), .val (.int (0 : Int32)), .val (.ref A_TOPICS), .val (.long (10000 : Int64)), .second, .val (.int (1 : Int32)), .unset, .unset, .unset]) rfl kQ) ?_
      show G (T4.setTop (mkF me_ 200 #[.val (.int p0), .val (.long p1), .second, .val (.int p2), .val (.int (0 : Int32)), .val (.ref A_TOPICS), .val (.long (10000 : Int64)), .second, .val (.int (1 : Int32)), .unset, .unset, .unset] []))
      refine gv (fun tQ kQ => XS.lload X4.here hx rfl (hb hby at_200) rfl kQ) ?_
      show G (T4.setTop (mkF me_ 202 #[.val (.int p0), .val (.long p1), .second, .val (.int p2), .val (.int (0 : Int32)), .val (.ref A_TOPICS), .val (.long (10000 : Int64)), .second, .val (.int (1 : Int32)), .unset, .unset, .unset] [(.long (10000 : Int64))]))
      refine gv (fun tQ kQ => XS.iloadN X4.here hx rfl (hb hby at_202) rfl kQ) ?_
      show G (T4.setTop (mkF me_ 203 #[.val (.int p0), .val (.long p1), .second, .val (.int p2), .val (.int (0 : Int32)), .val (.ref A_TOPICS), .val (.long (10000 : Int64)), .second, .val (.int (1 : Int32)), .unset, .unset, .unset] [(.int p2), (.long (10000 : Int64))]))
      refine gv (fun tQ kQ => XS.iconst X4.here hx rfl (hb hby at_203) kQ) ?_
      show G (T4.setTop (mkF me_ 204 #[.val (.int p0), .val (.long p1), .second, .val (.int p2), .val (.int (0 : Int32)), .val (.ref A_TOPICS), .val (.long (10000 : Int64)), .second, .val (.int (1 : Int32)), .unset, .unset, .unset] [(.int (3 : Int32)), (.int p2), (.long (10000 : Int64))]))
      refine gv (fun tQ kQ => XS.iand X4.here hx rfl (hb hby at_204) rfl kQ) ?_
      show G (T4.setTop (mkF me_ 205 #[.val (.int p0), .val (.long p1), .second, .val (.int p2), .val (.int (0 : Int32)), .val (.ref A_TOPICS), .val (.long (10000 : Int64)), .second, .val (.int (1 : Int32)), .unset, .unset, .unset] [(.int (p2 &&& (3 : Int32))), (.long (10000 : Int64))]))
      refine gv (fun tQ kQ => XS.iconst X4.here hx rfl (hb hby at_205) kQ) ?_
      show G (T4.setTop (mkF me_ 206 #[.val (.int p0), .val (.long p1), .second, .val (.int p2), .val (.int (0 : Int32)), .val (.ref A_TOPICS), .val (.long (10000 : Int64)), .second, .val (.int (1 : Int32)), .unset, .unset, .unset] [(.int (2 : Int32)), (.int (p2 &&& (3 : Int32))), (.long (10000 : Int64))]))
      refine gv (fun tQ kQ => XS.isub X4.here hx rfl (hb hby at_206) rfl kQ) ?_
      show G (T4.setTop (mkF me_ 207 #[.val (.int p0), .val (.long p1), .second, .val (.int p2), .val (.int (0 : Int32)), .val (.ref A_TOPICS), .val (.long (10000 : Int64)), .second, .val (.int (1 : Int32)), .unset, .unset, .unset] [(.int ((p2 &&& (3 : Int32)) - (2 : Int32))), (.long (10000 : Int64))]))
      refine gv (fun tQ kQ => XS.i2l X4.here hx rfl (hb hby at_207) rfl kQ) ?_
      show G (T4.setTop (mkF me_ 208 #[.val (.int p0), .val (.long p1), .second, .val (.int p2), .val (.int (0 : Int32)), .val (.ref A_TOPICS), .val (.long (10000 : Int64)), .second, .val (.int (1 : Int32)), .unset, .unset, .unset] [(.long (((p2 &&& (3 : Int32)) - (2 : Int32)).toInt64)), (.long (10000 : Int64))]))
      refine gv (fun tQ kQ => XS.ladd X4.here hx rfl (hb hby at_208) rfl kQ) ?_
      show G (T4.setTop (mkF me_ 209 #[.val (.int p0), .val (.long p1), .second, .val (.int p2), .val (.int (0 : Int32)), .val (.ref A_TOPICS), .val (.long (10000 : Int64)), .second, .val (.int (1 : Int32)), .unset, .unset, .unset] [(.long ((10000 : Int64) + (((p2 &&& (3 : Int32)) - (2 : Int32)).toInt64)))]))
      refine gv (fun tQ kQ => XS.lstore X4.here hx rfl (hb hby at_209) rfl (l' := #[.val (.int p0), .val (.long p1), .second, .val (.int p2), .val (.int (0 : Int32)), .val (.ref A_TOPICS), .val (.long (10000 : Int64)), .second, .val (.int (1 : Int32)), .val (.long ((10000 : Int64) + (((p2 &&& (3 : Int32)) - (2 : Int32)).toInt64))), .second, .unset]) rfl kQ) ?_
      show G (T4.setTop (mkF me_ 211 #[.val (.int p0), .val (.long p1), .second, .val (.int p2), .val (.int (0 : Int32)), .val (.ref A_TOPICS), .val (.long (10000 : Int64)), .second, .val (.int (1 : Int32)), .val (.long ((10000 : Int64) + (((p2 &&& (3 : Int32)) - (2 : Int32)).toInt64))), .second, .unset] []))
      refine gv (fun tQ kQ => XS.aload X4.here hx rfl (hb hby at_211) rfl rfl kQ) ?_
      show G (T4.setTop (mkF me_ 213 #[.val (.int p0), .val (.long p1), .second, .val (.int p2), .val (.int (0 : Int32)), .val (.ref A_TOPICS), .val (.long (10000 : Int64)), .second, .val (.int (1 : Int32)), .val (.long ((10000 : Int64) + (((p2 &&& (3 : Int32)) - (2 : Int32)).toInt64))), .second, .unset] [(.ref A_TOPICS)]))
      refine gv (fun tQ kQ => XS.lload X4.here hx rfl (hb hby at_213) rfl kQ) ?_
      show G (T4.setTop (mkF me_ 215 #[.val (.int p0), .val (.long p1), .second, .val (.int p2), .val (.int (0 : Int32)), .val (.ref A_TOPICS), .val (.long (10000 : Int64)), .second, .val (.int (1 : Int32)), .val (.long ((10000 : Int64) + (((p2 &&& (3 : Int32)) - (2 : Int32)).toInt64))), .second, .unset] [(.long ((10000 : Int64) + (((p2 &&& (3 : Int32)) - (2 : Int32)).toInt64))), (.ref A_TOPICS)]))
      obtain ⟨cq10, kq10, q10a, q10b, q10c⟩ := isOf hZ eq4 (u9.ext O0.2)
      obtain ⟨_, _, ⟨T10, L10, k10, n10⟩, -, X10, ⟨Lc10, hQ10, l10, y10, z10⟩, st10⟩ := X4.virtualBack hx (y := (⟨"com/example/slot1/slot1/server/Limit", "allows", "(J)Z"⟩ : MethodName)) (z := (⟨"com/example/slot1/slot1/server/Limit", "allows", "(J)Z"⟩ : MethodName)) hown (mvT hZ (hw _ (List.mem_of_getElem? (i := 5) rfl))) (mvT hZ (hw _ (List.mem_of_getElem? (i := 6) rfl))) (notFace_of_selects (args := #[]) (mvT hZ (hw _ (List.mem_of_getElem? (i := 8) rfl)))) (mvT hZ (hw _ (List.mem_of_getElem? (i := 8) rfl))) (mvT hZ (hw _ (List.mem_of_getElem? (i := 7) rfl))) (by decide) (backOf (W := 0) (rm_allows l Z a0 hw [] A_TOPICS ((10000 : Int64) + (((p2 &&& (3 : Int32)) - (2 : Int32)).toInt64)) (10000 : Int64) h0 n0 O0 (u18.ext O0.2)) hZ (hw _ (List.mem_of_getElem? (i := 9) rfl)) (hw _ (List.mem_of_getElem? (i := 2) rfl)) (by decide) (by decide)) q10a q10c (g := (mkF me_ 215 #[.val (.int p0), .val (.long p1), .second, .val (.int p2), .val (.int (0 : Int32)), .val (.ref A_TOPICS), .val (.long (10000 : Int64)), .second, .val (.int (1 : Int32)), .val (.long ((10000 : Int64) + (((p2 &&& (3 : Int32)) - (2 : Int32)).toInt64))), .second, .unset] [(.long ((10000 : Int64) + (((p2 &&& (3 : Int32)) - (2 : Int32)).toInt64))), (.ref A_TOPICS)])) rfl (by rw [hml]; rfl) (Steps.refl _) (argsL := [(.long ((10000 : Int64) + (((p2 &&& (3 : Int32)) - (2 : Int32)).toInt64)))]) (rest := []) (lenOf pd_0 rfl) rfl (by show 2 * 0 + _ ≤ _; exact Nat.le_of_eq rfl) (hb hby at_215) (fun _ _ => ⟨rfl, eq4, (by decide : 0 + 0 ≤ _), (by decide : 0 + 0 ≤ _)⟩)
      dsimp only [Pt.U, Pt.locs, Pt.cells, Pt.slots] at X10 l10 y10 z10 st10 hQ10
      subst l10 y10 z10
      obtain ⟨rfl, Nq10, eq10⟩ := hQ10
      have N11 := Fr.app N5 Nq10
      by_cases hb12 : (10000 : Int64) < ((10000 : Int64) + (((p2 &&& (3 : Int32)) - (2 : Int32)).toInt64))
      · rw [if_pos hb12] at st10
        refine gv (fun tQ kQ => st10.trans kQ) ?_
        show G (T10.setTop (mkF me_ 218 #[.val (.int p0), .val (.long p1), .second, .val (.int p2), .val (.int (0 : Int32)), .val (.ref A_TOPICS), .val (.long (10000 : Int64)), .second, .val (.int (1 : Int32)), .val (.long ((10000 : Int64) + (((p2 &&& (3 : Int32)) - (2 : Int32)).toInt64))), .second, .unset] [(.int (0 : Int32))]))
        refine gv (fun tQ kQ => XS.lload X10.here hx rfl (hb hby at_218) rfl kQ) ?_
        show G (T10.setTop (mkF me_ 220 #[.val (.int p0), .val (.long p1), .second, .val (.int p2), .val (.int (0 : Int32)), .val (.ref A_TOPICS), .val (.long (10000 : Int64)), .second, .val (.int (1 : Int32)), .val (.long ((10000 : Int64) + (((p2 &&& (3 : Int32)) - (2 : Int32)).toInt64))), .second, .unset] [(.long ((10000 : Int64) + (((p2 &&& (3 : Int32)) - (2 : Int32)).toInt64))), (.int (0 : Int32))]))
        refine gv (fun tQ kQ => XS.lload X10.here hx rfl (hb hby at_220) rfl kQ) ?_
        show G (T10.setTop (mkF me_ 222 #[.val (.int p0), .val (.long p1), .second, .val (.int p2), .val (.int (0 : Int32)), .val (.ref A_TOPICS), .val (.long (10000 : Int64)), .second, .val (.int (1 : Int32)), .val (.long ((10000 : Int64) + (((p2 &&& (3 : Int32)) - (2 : Int32)).toInt64))), .second, .unset] [(.long (10000 : Int64)), (.long ((10000 : Int64) + (((p2 &&& (3 : Int32)) - (2 : Int32)).toInt64))), (.int (0 : Int32))]))
        refine gv (fun tQ kQ => XS.lcmp X10.here hx rfl (hb hby at_222) rfl kQ) ?_
        show G (T10.setTop (mkF me_ 223 #[.val (.int p0), .val (.long p1), .second, .val (.int p2), .val (.int (0 : Int32)), .val (.ref A_TOPICS), .val (.long (10000 : Int64)), .second, .val (.int (1 : Int32)), .val (.long ((10000 : Int64) + (((p2 &&& (3 : Int32)) - (2 : Int32)).toInt64))), .second, .unset] [(.int (lcmpW ((10000 : Int64) + (((p2 &&& (3 : Int32)) - (2 : Int32)).toInt64)) (10000 : Int64))), (.int (0 : Int32))]))
        refine gv (fun tQ kQ => XS.ifYes X10.here hx rfl (pc0 := 223) (pc' := 230) rfl (hb hby at_223) rfl ((if0 _ _).trans (tlt ((lw_gt _ _).mpr hb12)).2.2.1) (by decide) (by decide) kQ) ?_
        show G (T10.setTop (mkF me_ 230 #[.val (.int p0), .val (.long p1), .second, .val (.int p2), .val (.int (0 : Int32)), .val (.ref A_TOPICS), .val (.long (10000 : Int64)), .second, .val (.int (1 : Int32)), .val (.long ((10000 : Int64) + (((p2 &&& (3 : Int32)) - (2 : Int32)).toInt64))), .second, .unset] [(.int (0 : Int32))]))
        refine gv (fun tQ kQ => XS.iconst X10.here hx rfl (hb hby at_230) kQ) ?_
        show G (T10.setTop (mkF me_ 231 #[.val (.int p0), .val (.long p1), .second, .val (.int p2), .val (.int (0 : Int32)), .val (.ref A_TOPICS), .val (.long (10000 : Int64)), .second, .val (.int (1 : Int32)), .val (.long ((10000 : Int64) + (((p2 &&& (3 : Int32)) - (2 : Int32)).toInt64))), .second, .unset] [(.int (0 : Int32)), (.int (0 : Int32))]))
        refine gv (fun tQ kQ => XS.icmpNo X10.here hx rfl (hb hby at_231) rfl (teq (by decide : (0 : Int32) = (0 : Int32))).2 kQ) ?_
        show G (T10.setTop (mkF me_ 234 #[.val (.int p0), .val (.long p1), .second, .val (.int p2), .val (.int (0 : Int32)), .val (.ref A_TOPICS), .val (.long (10000 : Int64)), .second, .val (.int (1 : Int32)), .val (.long ((10000 : Int64) + (((p2 &&& (3 : Int32)) - (2 : Int32)).toInt64))), .second, .unset] []))
        refine gv (fun tQ kQ => XS.iconst X10.here hx rfl (hb hby at_234) kQ) ?_
        show G (T10.setTop (mkF me_ 235 #[.val (.int p0), .val (.long p1), .second, .val (.int p2), .val (.int (0 : Int32)), .val (.ref A_TOPICS), .val (.long (10000 : Int64)), .second, .val (.int (1 : Int32)), .val (.long ((10000 : Int64) + (((p2 &&& (3 : Int32)) - (2 : Int32)).toInt64))), .second, .unset] [(.int (1 : Int32))]))
        refine gv (fun tQ kQ => XS.goto X10.here hx rfl (pc0 := 235) (pc' := 239) rfl (hb hby at_235) (by decide) (by decide) kQ) ?_
        show G (T10.setTop (mkF me_ 239 #[.val (.int p0), .val (.long p1), .second, .val (.int p2), .val (.int (0 : Int32)), .val (.ref A_TOPICS), .val (.long (10000 : Int64)), .second, .val (.int (1 : Int32)), .val (.long ((10000 : Int64) + (((p2 &&& (3 : Int32)) - (2 : Int32)).toInt64))), .second, .unset] [(.int (1 : Int32))]))
        refine gv (fun tQ kQ => XS.istore X10.here hx rfl (hb hby at_239) rfl (l' := #[.val (.int p0), .val (.long p1), .second, .val (.int p2), .val (.int (0 : Int32)), .val (.ref A_TOPICS), .val (.long (10000 : Int64)), .second, .val (.int (1 : Int32)), .val (.long ((10000 : Int64) + (((p2 &&& (3 : Int32)) - (2 : Int32)).toInt64))), .second, .val (.int (1 : Int32))]) rfl kQ) ?_
        show G (T10.setTop (mkF me_ 241 #[.val (.int p0), .val (.long p1), .second, .val (.int p2), .val (.int (0 : Int32)), .val (.ref A_TOPICS), .val (.long (10000 : Int64)), .second, .val (.int (1 : Int32)), .val (.long ((10000 : Int64) + (((p2 &&& (3 : Int32)) - (2 : Int32)).toInt64))), .second, .val (.int (1 : Int32))] []))
        refine gv (fun tQ kQ => XS.iload X10.here hx rfl (hb hby at_241) rfl kQ) ?_
        show G (T10.setTop (mkF me_ 243 #[.val (.int p0), .val (.long p1), .second, .val (.int p2), .val (.int (0 : Int32)), .val (.ref A_TOPICS), .val (.long (10000 : Int64)), .second, .val (.int (1 : Int32)), .val (.long ((10000 : Int64) + (((p2 &&& (3 : Int32)) - (2 : Int32)).toInt64))), .second, .val (.int (1 : Int32))] [(.int (1 : Int32))]))
        refine gv (fun tQ kQ => XS.ifNo X10.here hx rfl (hb hby at_243) rfl ((if0 _ _).trans (feq (by decide : ¬ ((1 : Int32) = (0 : Int32)))).1) kQ) ?_
        show G (T10.setTop (mkF me_ 246 #[.val (.int p0), .val (.long p1), .second, .val (.int p2), .val (.int (0 : Int32)), .val (.ref A_TOPICS), .val (.long (10000 : Int64)), .second, .val (.int (1 : Int32)), .val (.long ((10000 : Int64) + (((p2 &&& (3 : Int32)) - (2 : Int32)).toInt64))), .second, .val (.int (1 : Int32))] []))
        refine gv (fun tQ kQ => XS.iload X10.here hx rfl (hb hby at_246) rfl kQ) ?_
        show G (T10.setTop (mkF me_ 248 #[.val (.int p0), .val (.long p1), .second, .val (.int p2), .val (.int (0 : Int32)), .val (.ref A_TOPICS), .val (.long (10000 : Int64)), .second, .val (.int (1 : Int32)), .val (.long ((10000 : Int64) + (((p2 &&& (3 : Int32)) - (2 : Int32)).toInt64))), .second, .val (.int (1 : Int32))] [(.int (1 : Int32))]))
        refine gv (fun tQ kQ => XS.ifNo X10.here hx rfl (hb hby at_248) rfl ((if0 _ _).trans (feq (by decide : ¬ ((1 : Int32) = (0 : Int32)))).1) kQ) ?_
        show G (T10.setTop (mkF me_ 251 #[.val (.int p0), .val (.long p1), .second, .val (.int p2), .val (.int (0 : Int32)), .val (.ref A_TOPICS), .val (.long (10000 : Int64)), .second, .val (.int (1 : Int32)), .val (.long ((10000 : Int64) + (((p2 &&& (3 : Int32)) - (2 : Int32)).toInt64))), .second, .val (.int (1 : Int32))] []))
        refine gv (fun tQ kQ => XS.iconst X10.here hx rfl (hb hby at_251) kQ) ?_
        show G (T10.setTop (mkF me_ 252 #[.val (.int p0), .val (.long p1), .second, .val (.int p2), .val (.int (0 : Int32)), .val (.ref A_TOPICS), .val (.long (10000 : Int64)), .second, .val (.int (1 : Int32)), .val (.long ((10000 : Int64) + (((p2 &&& (3 : Int32)) - (2 : Int32)).toInt64))), .second, .val (.int (1 : Int32))] [(.int (1 : Int32))]))
        refine gv (fun tQ kQ => XS.goto X10.here hx rfl (pc0 := 252) (pc' := 256) rfl (hb hby at_252) (by decide) (by decide) kQ) ?_
        show G (T10.setTop (mkF me_ 256 #[.val (.int p0), .val (.long p1), .second, .val (.int p2), .val (.int (0 : Int32)), .val (.ref A_TOPICS), .val (.long (10000 : Int64)), .second, .val (.int (1 : Int32)), .val (.long ((10000 : Int64) + (((p2 &&& (3 : Int32)) - (2 : Int32)).toInt64))), .second, .val (.int (1 : Int32))] [(.int (1 : Int32))]))
        refine gf _ (own_ret X10 Bd.notSynchronized (v := some (.int (1 : Int32))) (fun h => by rw [Bd.returns] at h; cases h) ?_ (by decide) (by decide) (fun fs hr => retN X10 hx (t := .boolean) Bd.returns (by simp) (hb hby at_256) hr))
        show Q0 Z p0 p1 p2 A_TOPICS A_ROUTE_QUEUES A_GROUPS A_MEMBERS A_GROUP_MEMBERS A_MEMBER_TOPICS A_QUEUES A_OFFSETS A_OPTIONS_BYTES h0 n0 _ T10.heap _
        rw [eq10]
        exact ⟨rfl, N11⟩
      · skip
        rw [if_neg hb12] at st10
        refine gv (fun tQ kQ => st10.trans kQ) ?_
        show G (T10.setTop (mkF me_ 218 #[.val (.int p0), .val (.long p1), .second, .val (.int p2), .val (.int (0 : Int32)), .val (.ref A_TOPICS), .val (.long (10000 : Int64)), .second, .val (.int (1 : Int32)), .val (.long ((10000 : Int64) + (((p2 &&& (3 : Int32)) - (2 : Int32)).toInt64))), .second, .unset] [(.int (1 : Int32))]))
        refine gv (fun tQ kQ => XS.lload X10.here hx rfl (hb hby at_218) rfl kQ) ?_
        show G (T10.setTop (mkF me_ 220 #[.val (.int p0), .val (.long p1), .second, .val (.int p2), .val (.int (0 : Int32)), .val (.ref A_TOPICS), .val (.long (10000 : Int64)), .second, .val (.int (1 : Int32)), .val (.long ((10000 : Int64) + (((p2 &&& (3 : Int32)) - (2 : Int32)).toInt64))), .second, .unset] [(.long ((10000 : Int64) + (((p2 &&& (3 : Int32)) - (2 : Int32)).toInt64))), (.int (1 : Int32))]))
        refine gv (fun tQ kQ => XS.lload X10.here hx rfl (hb hby at_220) rfl kQ) ?_
        show G (T10.setTop (mkF me_ 222 #[.val (.int p0), .val (.long p1), .second, .val (.int p2), .val (.int (0 : Int32)), .val (.ref A_TOPICS), .val (.long (10000 : Int64)), .second, .val (.int (1 : Int32)), .val (.long ((10000 : Int64) + (((p2 &&& (3 : Int32)) - (2 : Int32)).toInt64))), .second, .unset] [(.long (10000 : Int64)), (.long ((10000 : Int64) + (((p2 &&& (3 : Int32)) - (2 : Int32)).toInt64))), (.int (1 : Int32))]))
        refine gv (fun tQ kQ => XS.lcmp X10.here hx rfl (hb hby at_222) rfl kQ) ?_
        show G (T10.setTop (mkF me_ 223 #[.val (.int p0), .val (.long p1), .second, .val (.int p2), .val (.int (0 : Int32)), .val (.ref A_TOPICS), .val (.long (10000 : Int64)), .second, .val (.int (1 : Int32)), .val (.long ((10000 : Int64) + (((p2 &&& (3 : Int32)) - (2 : Int32)).toInt64))), .second, .unset] [(.int (lcmpW ((10000 : Int64) + (((p2 &&& (3 : Int32)) - (2 : Int32)).toInt64)) (10000 : Int64))), (.int (1 : Int32))]))
        refine gv (fun tQ kQ => XS.ifNo X10.here hx rfl (hb hby at_223) rfl ((if0 _ _).trans (flt (mt (lw_gt _ _).mp hb12)).2.2.1) kQ) ?_
        show G (T10.setTop (mkF me_ 226 #[.val (.int p0), .val (.long p1), .second, .val (.int p2), .val (.int (0 : Int32)), .val (.ref A_TOPICS), .val (.long (10000 : Int64)), .second, .val (.int (1 : Int32)), .val (.long ((10000 : Int64) + (((p2 &&& (3 : Int32)) - (2 : Int32)).toInt64))), .second, .unset] [(.int (1 : Int32))]))
        refine gv (fun tQ kQ => XS.iconst X10.here hx rfl (hb hby at_226) kQ) ?_
        show G (T10.setTop (mkF me_ 227 #[.val (.int p0), .val (.long p1), .second, .val (.int p2), .val (.int (0 : Int32)), .val (.ref A_TOPICS), .val (.long (10000 : Int64)), .second, .val (.int (1 : Int32)), .val (.long ((10000 : Int64) + (((p2 &&& (3 : Int32)) - (2 : Int32)).toInt64))), .second, .unset] [(.int (1 : Int32)), (.int (1 : Int32))]))
        refine gv (fun tQ kQ => XS.goto X10.here hx rfl (pc0 := 227) (pc' := 231) rfl (hb hby at_227) (by decide) (by decide) kQ) ?_
        show G (T10.setTop (mkF me_ 231 #[.val (.int p0), .val (.long p1), .second, .val (.int p2), .val (.int (0 : Int32)), .val (.ref A_TOPICS), .val (.long (10000 : Int64)), .second, .val (.int (1 : Int32)), .val (.long ((10000 : Int64) + (((p2 &&& (3 : Int32)) - (2 : Int32)).toInt64))), .second, .unset] [(.int (1 : Int32)), (.int (1 : Int32))]))
        refine gv (fun tQ kQ => XS.icmpNo X10.here hx rfl (hb hby at_231) rfl (teq (by decide : (1 : Int32) = (1 : Int32))).2 kQ) ?_
        show G (T10.setTop (mkF me_ 234 #[.val (.int p0), .val (.long p1), .second, .val (.int p2), .val (.int (0 : Int32)), .val (.ref A_TOPICS), .val (.long (10000 : Int64)), .second, .val (.int (1 : Int32)), .val (.long ((10000 : Int64) + (((p2 &&& (3 : Int32)) - (2 : Int32)).toInt64))), .second, .unset] []))
        refine gv (fun tQ kQ => XS.iconst X10.here hx rfl (hb hby at_234) kQ) ?_
        show G (T10.setTop (mkF me_ 235 #[.val (.int p0), .val (.long p1), .second, .val (.int p2), .val (.int (0 : Int32)), .val (.ref A_TOPICS), .val (.long (10000 : Int64)), .second, .val (.int (1 : Int32)), .val (.long ((10000 : Int64) + (((p2 &&& (3 : Int32)) - (2 : Int32)).toInt64))), .second, .unset] [(.int (1 : Int32))]))
        refine gv (fun tQ kQ => XS.goto X10.here hx rfl (pc0 := 235) (pc' := 239) rfl (hb hby at_235) (by decide) (by decide) kQ) ?_
        show G (T10.setTop (mkF me_ 239 #[.val (.int p0), .val (.long p1), .second, .val (.int p2), .val (.int (0 : Int32)), .val (.ref A_TOPICS), .val (.long (10000 : Int64)), .second, .val (.int (1 : Int32)), .val (.long ((10000 : Int64) + (((p2 &&& (3 : Int32)) - (2 : Int32)).toInt64))), .second, .unset] [(.int (1 : Int32))]))
        refine gv (fun tQ kQ => XS.istore X10.here hx rfl (hb hby at_239) rfl (l' := #[.val (.int p0), .val (.long p1), .second, .val (.int p2), .val (.int (0 : Int32)), .val (.ref A_TOPICS), .val (.long (10000 : Int64)), .second, .val (.int (1 : Int32)), .val (.long ((10000 : Int64) + (((p2 &&& (3 : Int32)) - (2 : Int32)).toInt64))), .second, .val (.int (1 : Int32))]) rfl kQ) ?_
        show G (T10.setTop (mkF me_ 241 #[.val (.int p0), .val (.long p1), .second, .val (.int p2), .val (.int (0 : Int32)), .val (.ref A_TOPICS), .val (.long (10000 : Int64)), .second, .val (.int (1 : Int32)), .val (.long ((10000 : Int64) + (((p2 &&& (3 : Int32)) - (2 : Int32)).toInt64))), .second, .val (.int (1 : Int32))] []))
        refine gv (fun tQ kQ => XS.iload X10.here hx rfl (hb hby at_241) rfl kQ) ?_
        show G (T10.setTop (mkF me_ 243 #[.val (.int p0), .val (.long p1), .second, .val (.int p2), .val (.int (0 : Int32)), .val (.ref A_TOPICS), .val (.long (10000 : Int64)), .second, .val (.int (1 : Int32)), .val (.long ((10000 : Int64) + (((p2 &&& (3 : Int32)) - (2 : Int32)).toInt64))), .second, .val (.int (1 : Int32))] [(.int (1 : Int32))]))
        refine gv (fun tQ kQ => XS.ifNo X10.here hx rfl (hb hby at_243) rfl ((if0 _ _).trans (feq (by decide : ¬ ((1 : Int32) = (0 : Int32)))).1) kQ) ?_
        show G (T10.setTop (mkF me_ 246 #[.val (.int p0), .val (.long p1), .second, .val (.int p2), .val (.int (0 : Int32)), .val (.ref A_TOPICS), .val (.long (10000 : Int64)), .second, .val (.int (1 : Int32)), .val (.long ((10000 : Int64) + (((p2 &&& (3 : Int32)) - (2 : Int32)).toInt64))), .second, .val (.int (1 : Int32))] []))
        refine gv (fun tQ kQ => XS.iload X10.here hx rfl (hb hby at_246) rfl kQ) ?_
        show G (T10.setTop (mkF me_ 248 #[.val (.int p0), .val (.long p1), .second, .val (.int p2), .val (.int (0 : Int32)), .val (.ref A_TOPICS), .val (.long (10000 : Int64)), .second, .val (.int (1 : Int32)), .val (.long ((10000 : Int64) + (((p2 &&& (3 : Int32)) - (2 : Int32)).toInt64))), .second, .val (.int (1 : Int32))] [(.int (1 : Int32))]))
        refine gv (fun tQ kQ => XS.ifNo X10.here hx rfl (hb hby at_248) rfl ((if0 _ _).trans (feq (by decide : ¬ ((1 : Int32) = (0 : Int32)))).1) kQ) ?_
        show G (T10.setTop (mkF me_ 251 #[.val (.int p0), .val (.long p1), .second, .val (.int p2), .val (.int (0 : Int32)), .val (.ref A_TOPICS), .val (.long (10000 : Int64)), .second, .val (.int (1 : Int32)), .val (.long ((10000 : Int64) + (((p2 &&& (3 : Int32)) - (2 : Int32)).toInt64))), .second, .val (.int (1 : Int32))] []))
        refine gv (fun tQ kQ => XS.iconst X10.here hx rfl (hb hby at_251) kQ) ?_
        show G (T10.setTop (mkF me_ 252 #[.val (.int p0), .val (.long p1), .second, .val (.int p2), .val (.int (0 : Int32)), .val (.ref A_TOPICS), .val (.long (10000 : Int64)), .second, .val (.int (1 : Int32)), .val (.long ((10000 : Int64) + (((p2 &&& (3 : Int32)) - (2 : Int32)).toInt64))), .second, .val (.int (1 : Int32))] [(.int (1 : Int32))]))
        refine gv (fun tQ kQ => XS.goto X10.here hx rfl (pc0 := 252) (pc' := 256) rfl (hb hby at_252) (by decide) (by decide) kQ) ?_
        show G (T10.setTop (mkF me_ 256 #[.val (.int p0), .val (.long p1), .second, .val (.int p2), .val (.int (0 : Int32)), .val (.ref A_TOPICS), .val (.long (10000 : Int64)), .second, .val (.int (1 : Int32)), .val (.long ((10000 : Int64) + (((p2 &&& (3 : Int32)) - (2 : Int32)).toInt64))), .second, .val (.int (1 : Int32))] [(.int (1 : Int32))]))
        refine gf _ (own_ret X10 Bd.notSynchronized (v := some (.int (1 : Int32))) (fun h => by rw [Bd.returns] at h; cases h) ?_ (by decide) (by decide) (fun fs hr => retN X10 hx (t := .boolean) Bd.returns (by simp) (hb hby at_256) hr))
        show Q0 Z p0 p1 p2 A_TOPICS A_ROUTE_QUEUES A_GROUPS A_MEMBERS A_GROUP_MEMBERS A_MEMBER_TOPICS A_QUEUES A_OFFSETS A_OPTIONS_BYTES h0 n0 _ T10.heap _
        rw [eq10]
        exact ⟨rfl, N11⟩
  · rw [q]
    show G (s₁.setTop (mkF me_ 9 #[.val (.int p0), .val (.long p1), .second, .val (.int p2), .val (.int (1 : Int32)), .unset, .unset, .unset, .unset, .unset, .unset, .unset] []))
    refine gv (fun tQ kQ => XS.iload X0.here hx rfl (hb hby at_9) rfl kQ) ?_
    show G (s₁.setTop (mkF me_ 11 #[.val (.int p0), .val (.long p1), .second, .val (.int p2), .val (.int (1 : Int32)), .unset, .unset, .unset, .unset, .unset, .unset, .unset] [(.int (1 : Int32))]))
    refine gv (fun tQ kQ => XS.ifYes X0.here hx rfl (pc0 := 11) (pc' := 27) rfl (hb hby at_11) rfl ((if0 _ _).trans (feq (by decide : ¬ ((1 : Int32) = (0 : Int32)))).2) (by decide) (by decide) kQ) ?_
    show G (s₁.setTop (mkF me_ 27 #[.val (.int p0), .val (.long p1), .second, .val (.int p2), .val (.int (1 : Int32)), .unset, .unset, .unset, .unset, .unset, .unset, .unset] []))
    refine gv (fun tQ kQ => XS.iload X0.here hx rfl (hb hby at_27) rfl kQ) ?_
    show G (s₁.setTop (mkF me_ 29 #[.val (.int p0), .val (.long p1), .second, .val (.int p2), .val (.int (1 : Int32)), .unset, .unset, .unset, .unset, .unset, .unset, .unset] [(.int (1 : Int32))]))
    refine gv (fun tQ kQ => XS.iconst X0.here hx rfl (hb hby at_29) kQ) ?_
    show G (s₁.setTop (mkF me_ 30 #[.val (.int p0), .val (.long p1), .second, .val (.int p2), .val (.int (1 : Int32)), .unset, .unset, .unset, .unset, .unset, .unset, .unset] [(.int (1 : Int32)), (.int (1 : Int32))]))
    refine gv (fun tQ kQ => XS.icmpNo X0.here hx rfl (hb hby at_30) rfl (teq (by decide : (1 : Int32) = (1 : Int32))).2 kQ) ?_
    show G (s₁.setTop (mkF me_ 33 #[.val (.int p0), .val (.long p1), .second, .val (.int p2), .val (.int (1 : Int32)), .unset, .unset, .unset, .unset, .unset, .unset, .unset] []))
    obtain ⟨T13, X13, e13, st13⟩ := getS2 X0 hx hZ hown (host := "") (Or.inl (hw _ (List.mem_of_getElem? (i := 17) rfl))) Via.refl e0 (u1.ext O0.2) (g := (mkF me_ 33 #[.val (.int p0), .val (.long p1), .second, .val (.int p2), .val (.int (1 : Int32)), .unset, .unset, .unset, .unset, .unset, .unset, .unset] [])) rfl (hb hby at_33)
    refine gv st13 ?_
    show G (T13.setTop (mkF me_ 36 #[.val (.int p0), .val (.long p1), .second, .val (.int p2), .val (.int (1 : Int32)), .unset, .unset, .unset, .unset, .unset, .unset, .unset] [(.ref A_ROUTE_QUEUES)]))
    refine gv (fun tQ kQ => XS.astore X13.here hx rfl (hb hby at_36) rfl rfl (l' := #[.val (.int p0), .val (.long p1), .second, .val (.int p2), .val (.int (1 : Int32)), .val (.ref A_ROUTE_QUEUES), .unset, .unset, .unset, .unset, .unset, .unset]) rfl kQ) ?_
    show G (T13.setTop (mkF me_ 38 #[.val (.int p0), .val (.long p1), .second, .val (.int p2), .val (.int (1 : Int32)), .val (.ref A_ROUTE_QUEUES), .unset, .unset, .unset, .unset, .unset, .unset] []))
    refine gv (X13.ldc2Long hx hown (mvT hZ (hw _ (List.mem_of_getElem? (i := 19) rfl))) (g := (mkF me_ 38 #[.val (.int p0), .val (.long p1), .second, .val (.int p2), .val (.int (1 : Int32)), .val (.ref A_ROUTE_QUEUES), .unset, .unset, .unset, .unset, .unset, .unset] [])) rfl (hb hby at_38)) ?_
    show G (T13.setTop (mkF me_ 41 #[.val (.int p0), .val (.long p1), .second, .val (.int p2), .val (.int (1 : Int32)), .val (.ref A_ROUTE_QUEUES), .unset, .unset, .unset, .unset, .unset, .unset] [(.long (100000 : Int64))]))
    refine gv (fun tQ kQ => XS.lstore X13.here hx rfl (hb hby at_41) rfl (l' := #[.val (.int p0), .val (.long p1), .second, .val (.int p2), .val (.int (1 : Int32)), .val (.ref A_ROUTE_QUEUES), .val (.long (100000 : Int64)), .second, .unset, .unset, .unset, .unset]) rfl kQ) ?_
    show G (T13.setTop (mkF me_ 43 #[.val (.int p0), .val (.long p1), .second, .val (.int p2), .val (.int (1 : Int32)), .val (.ref A_ROUTE_QUEUES), .val (.long (100000 : Int64)), .second, .unset, .unset, .unset, .unset] []))
    refine gv (fun tQ kQ => XS.goto X13.here hx rfl (pc0 := 43) (pc' := 172) rfl (hb hby at_43) (by decide) (by decide) kQ) ?_
    show G (T13.setTop (mkF me_ 172 #[.val (.int p0), .val (.long p1), .second, .val (.int p2), .val (.int (1 : Int32)), .val (.ref A_ROUTE_QUEUES), .val (.long (100000 : Int64)), .second, .unset, .unset, .unset, .unset] []))
    refine gv (fun tQ kQ => XS.aload X13.here hx rfl (hb hby at_172) rfl rfl kQ) ?_
    show G (T13.setTop (mkF me_ 174 #[.val (.int p0), .val (.long p1), .second, .val (.int p2), .val (.int (1 : Int32)), .val (.ref A_ROUTE_QUEUES), .val (.long (100000 : Int64)), .second, .unset, .unset, .unset, .unset] [(.ref A_ROUTE_QUEUES)]))
    refine gv (fun tQ kQ => XS.lloadN X13.here hx rfl (hb hby at_174) rfl kQ) ?_
    show G (T13.setTop (mkF me_ 175 #[.val (.int p0), .val (.long p1), .second, .val (.int p2), .val (.int (1 : Int32)), .val (.ref A_ROUTE_QUEUES), .val (.long (100000 : Int64)), .second, .unset, .unset, .unset, .unset] [(.long p1), (.ref A_ROUTE_QUEUES)]))
    obtain ⟨cq14, kq14, q14a, q14b, q14c⟩ := isOf hZ e13 (u10.ext O0.2)
    obtain ⟨_, _, ⟨T14, L14, k14, n14⟩, -, X14, ⟨Lc14, hQ14, l14, y14, z14⟩, st14⟩ := X13.virtualBack hx (y := (⟨"com/example/slot1/slot1/server/Limit", "allows", "(J)Z"⟩ : MethodName)) (z := (⟨"com/example/slot1/slot1/server/Limit", "allows", "(J)Z"⟩ : MethodName)) hown (mvT hZ (hw _ (List.mem_of_getElem? (i := 5) rfl))) (mvT hZ (hw _ (List.mem_of_getElem? (i := 6) rfl))) (notFace_of_selects (args := #[]) (mvT hZ (hw _ (List.mem_of_getElem? (i := 8) rfl)))) (mvT hZ (hw _ (List.mem_of_getElem? (i := 8) rfl))) (mvT hZ (hw _ (List.mem_of_getElem? (i := 7) rfl))) (by decide) (backOf (W := 0) (rm_allows l Z a0 hw [] A_ROUTE_QUEUES p1 (100000 : Int64) h0 n0 O0 (u19.ext O0.2)) hZ (hw _ (List.mem_of_getElem? (i := 9) rfl)) (hw _ (List.mem_of_getElem? (i := 2) rfl)) (by decide) (by decide)) q14a q14c (g := (mkF me_ 175 #[.val (.int p0), .val (.long p1), .second, .val (.int p2), .val (.int (1 : Int32)), .val (.ref A_ROUTE_QUEUES), .val (.long (100000 : Int64)), .second, .unset, .unset, .unset, .unset] [(.long p1), (.ref A_ROUTE_QUEUES)])) rfl (by rw [hml]; rfl) (Steps.refl _) (argsL := [(.long p1)]) (rest := []) (lenOf pd_0 rfl) rfl (by show 2 * 0 + _ ≤ _; exact Nat.le_of_eq rfl) (hb hby at_175) (fun _ _ => ⟨rfl, e13, (by decide : 0 + 0 ≤ _), (by decide : 0 + 0 ≤ _)⟩)
    dsimp only [Pt.U, Pt.locs, Pt.cells, Pt.slots] at X14 l14 y14 z14 st14 hQ14
    subst l14 y14 z14
    obtain ⟨rfl, Nq14, eq14⟩ := hQ14
    have N15 := Fr.app N0 Nq14
    by_cases hb16 : (100000 : Int64) < p1
    · rw [if_pos hb16] at st14
      refine gv (fun tQ kQ => st14.trans kQ) ?_
      show G (T14.setTop (mkF me_ 178 #[.val (.int p0), .val (.long p1), .second, .val (.int p2), .val (.int (1 : Int32)), .val (.ref A_ROUTE_QUEUES), .val (.long (100000 : Int64)), .second, .unset, .unset, .unset, .unset] [(.int (0 : Int32))]))
      refine gv (fun tQ kQ => XS.lloadN X14.here hx rfl (hb hby at_178) rfl kQ) ?_
      show G (T14.setTop (mkF me_ 179 #[.val (.int p0), .val (.long p1), .second, .val (.int p2), .val (.int (1 : Int32)), .val (.ref A_ROUTE_QUEUES), .val (.long (100000 : Int64)), .second, .unset, .unset, .unset, .unset] [(.long p1), (.int (0 : Int32))]))
      refine gv (fun tQ kQ => XS.lload X14.here hx rfl (hb hby at_179) rfl kQ) ?_
      show G (T14.setTop (mkF me_ 181 #[.val (.int p0), .val (.long p1), .second, .val (.int p2), .val (.int (1 : Int32)), .val (.ref A_ROUTE_QUEUES), .val (.long (100000 : Int64)), .second, .unset, .unset, .unset, .unset] [(.long (100000 : Int64)), (.long p1), (.int (0 : Int32))]))
      refine gv (fun tQ kQ => XS.lcmp X14.here hx rfl (hb hby at_181) rfl kQ) ?_
      show G (T14.setTop (mkF me_ 182 #[.val (.int p0), .val (.long p1), .second, .val (.int p2), .val (.int (1 : Int32)), .val (.ref A_ROUTE_QUEUES), .val (.long (100000 : Int64)), .second, .unset, .unset, .unset, .unset] [(.int (lcmpW p1 (100000 : Int64))), (.int (0 : Int32))]))
      refine gv (fun tQ kQ => XS.ifYes X14.here hx rfl (pc0 := 182) (pc' := 189) rfl (hb hby at_182) rfl ((if0 _ _).trans (tlt ((lw_gt _ _).mpr hb16)).2.2.1) (by decide) (by decide) kQ) ?_
      show G (T14.setTop (mkF me_ 189 #[.val (.int p0), .val (.long p1), .second, .val (.int p2), .val (.int (1 : Int32)), .val (.ref A_ROUTE_QUEUES), .val (.long (100000 : Int64)), .second, .unset, .unset, .unset, .unset] [(.int (0 : Int32))]))
      refine gv (fun tQ kQ => XS.iconst X14.here hx rfl (hb hby at_189) kQ) ?_
      show G (T14.setTop (mkF me_ 190 #[.val (.int p0), .val (.long p1), .second, .val (.int p2), .val (.int (1 : Int32)), .val (.ref A_ROUTE_QUEUES), .val (.long (100000 : Int64)), .second, .unset, .unset, .unset, .unset] [(.int (0 : Int32)), (.int (0 : Int32))]))
      refine gv (fun tQ kQ => XS.icmpNo X14.here hx rfl (hb hby at_190) rfl (teq (by decide : (0 : Int32) = (0 : Int32))).2 kQ) ?_
      show G (T14.setTop (mkF me_ 193 #[.val (.int p0), .val (.long p1), .second, .val (.int p2), .val (.int (1 : Int32)), .val (.ref A_ROUTE_QUEUES), .val (.long (100000 : Int64)), .second, .unset, .unset, .unset, .unset] []))
      refine gv (fun tQ kQ => XS.iconst X14.here hx rfl (hb hby at_193) kQ) ?_
      show G (T14.setTop (mkF me_ 194 #[.val (.int p0), .val (.long p1), .second, .val (.int p2), .val (.int (1 : Int32)), .val (.ref A_ROUTE_QUEUES), .val (.long (100000 : Int64)), .second, .unset, .unset, .unset, .unset] [(.int (1 : Int32))]))
      refine gv (fun tQ kQ => XS.goto X14.here hx rfl (pc0 := 194) (pc' := 198) rfl (hb hby at_194) (by decide) (by decide) kQ) ?_
      show G (T14.setTop (mkF me_ 198 #[.val (.int p0), .val (.long p1), .second, .val (.int p2), .val (.int (1 : Int32)), .val (.ref A_ROUTE_QUEUES), .val (.long (100000 : Int64)), .second, .unset, .unset, .unset, .unset] [(.int (1 : Int32))]))
      refine gv (fun tQ kQ => XS.istore X14.here hx rfl (hb hby at_198) rfl (l' := #[.val (.int p0), .val (.long p1), .second, .val (.int p2), .val (.int (1 : Int32)), .val (.ref A_ROUTE_QUEUES), .val (.long (100000 : Int64)), .second, .val (.int (1 : Int32)), .unset, .unset, .unset]) rfl kQ) ?_
      show G (T14.setTop (mkF me_ 200 #[.val (.int p0), .val (.long p1), .second, .val (.int p2), .val (.int (1 : Int32)), .val (.ref A_ROUTE_QUEUES), .val (.long (100000 : Int64)), .second, .val (.int (1 : Int32)), .unset, .unset, .unset] []))
      refine gv (fun tQ kQ => XS.lload X14.here hx rfl (hb hby at_200) rfl kQ) ?_
      show G (T14.setTop (mkF me_ 202 #[.val (.int p0), .val (.long p1), .second, .val (.int p2), .val (.int (1 : Int32)), .val (.ref A_ROUTE_QUEUES), .val (.long (100000 : Int64)), .second, .val (.int (1 : Int32)), .unset, .unset, .unset] [(.long (100000 : Int64))]))
      refine gv (fun tQ kQ => XS.iloadN X14.here hx rfl (hb hby at_202) rfl kQ) ?_
      show G (T14.setTop (mkF me_ 203 #[.val (.int p0), .val (.long p1), .second, .val (.int p2), .val (.int (1 : Int32)), .val (.ref A_ROUTE_QUEUES), .val (.long (100000 : Int64)), .second, .val (.int (1 : Int32)), .unset, .unset, .unset] [(.int p2), (.long (100000 : Int64))]))
      refine gv (fun tQ kQ => XS.iconst X14.here hx rfl (hb hby at_203) kQ) ?_
      show G (T14.setTop (mkF me_ 204 #[.val (.int p0), .val (.long p1), .second, .val (.int p2), .val (.int (1 : Int32)), .val (.ref A_ROUTE_QUEUES), .val (.long (100000 : Int64)), .second, .val (.int (1 : Int32)), .unset, .unset, .unset] [(.int (3 : Int32)), (.int p2), (.long (100000 : Int64))]))
      refine gv (fun tQ kQ => XS.iand X14.here hx rfl (hb hby at_204) rfl kQ) ?_
      show G (T14.setTop (mkF me_ 205 #[.val (.int p0), .val (.long p1), .second, .val (.int p2), .val (.int (1 : Int32)), .val (.ref A_ROUTE_QUEUES), .val (.long (100000 : Int64)), .second, .val (.int (1 : Int32)), .unset, .unset, .unset] [(.int (p2 &&& (3 : Int32))), (.long (100000 : Int64))]))
      refine gv (fun tQ kQ => XS.iconst X14.here hx rfl (hb hby at_205) kQ) ?_
      show G (T14.setTop (mkF me_ 206 #[.val (.int p0), .val (.long p1), .second, .val (.int p2), .val (.int (1 : Int32)), .val (.ref A_ROUTE_QUEUES), .val (.long (100000 : Int64)), .second, .val (.int (1 : Int32)), .unset, .unset, .unset] [(.int (2 : Int32)), (.int (p2 &&& (3 : Int32))), (.long (100000 : Int64))]))
      refine gv (fun tQ kQ => XS.isub X14.here hx rfl (hb hby at_206) rfl kQ) ?_
      show G (T14.setTop (mkF me_ 207 #[.val (.int p0), .val (.long p1), .second, .val (.int p2), .val (.int (1 : Int32)), .val (.ref A_ROUTE_QUEUES), .val (.long (100000 : Int64)), .second, .val (.int (1 : Int32)), .unset, .unset, .unset] [(.int ((p2 &&& (3 : Int32)) - (2 : Int32))), (.long (100000 : Int64))]))
      refine gv (fun tQ kQ => XS.i2l X14.here hx rfl (hb hby at_207) rfl kQ) ?_
      show G (T14.setTop (mkF me_ 208 #[.val (.int p0), .val (.long p1), .second, .val (.int p2), .val (.int (1 : Int32)), .val (.ref A_ROUTE_QUEUES), .val (.long (100000 : Int64)), .second, .val (.int (1 : Int32)), .unset, .unset, .unset] [(.long (((p2 &&& (3 : Int32)) - (2 : Int32)).toInt64)), (.long (100000 : Int64))]))
      refine gv (fun tQ kQ => XS.ladd X14.here hx rfl (hb hby at_208) rfl kQ) ?_
      show G (T14.setTop (mkF me_ 209 #[.val (.int p0), .val (.long p1), .second, .val (.int p2), .val (.int (1 : Int32)), .val (.ref A_ROUTE_QUEUES), .val (.long (100000 : Int64)), .second, .val (.int (1 : Int32)), .unset, .unset, .unset] [(.long ((100000 : Int64) + (((p2 &&& (3 : Int32)) - (2 : Int32)).toInt64)))]))
      refine gv (fun tQ kQ => XS.lstore X14.here hx rfl (hb hby at_209) rfl (l' := #[.val (.int p0), .val (.long p1), .second, .val (.int p2), .val (.int (1 : Int32)), .val (.ref A_ROUTE_QUEUES), .val (.long (100000 : Int64)), .second, .val (.int (1 : Int32)), .val (.long ((100000 : Int64) + (((p2 &&& (3 : Int32)) - (2 : Int32)).toInt64))), .second, .unset]) rfl kQ) ?_
      show G (T14.setTop (mkF me_ 211 #[.val (.int p0), .val (.long p1), .second, .val (.int p2), .val (.int (1 : Int32)), .val (.ref A_ROUTE_QUEUES), .val (.long (100000 : Int64)), .second, .val (.int (1 : Int32)), .val (.long ((100000 : Int64) + (((p2 &&& (3 : Int32)) - (2 : Int32)).toInt64))), .second, .unset] []))
      refine gv (fun tQ kQ => XS.aload X14.here hx rfl (hb hby at_211) rfl rfl kQ) ?_
      show G (T14.setTop (mkF me_ 213 #[.val (.int p0), .val (.long p1), .second, .val (.int p2), .val (.int (1 : Int32)), .val (.ref A_ROUTE_QUEUES), .val (.long (100000 : Int64)), .second, .val (.int (1 : Int32)), .val (.long ((100000 : Int64) + (((p2 &&& (3 : Int32)) - (2 : Int32)).toInt64))), .second, .unset] [(.ref A_ROUTE_QUEUES)]))
      refine gv (fun tQ kQ => XS.lload X14.here hx rfl (hb hby at_213) rfl kQ) ?_
      show G (T14.setTop (mkF me_ 215 #[.val (.int p0), .val (.long p1), .second, .val (.int p2), .val (.int (1 : Int32)), .val (.ref A_ROUTE_QUEUES), .val (.long (100000 : Int64)), .second, .val (.int (1 : Int32)), .val (.long ((100000 : Int64) + (((p2 &&& (3 : Int32)) - (2 : Int32)).toInt64))), .second, .unset] [(.long ((100000 : Int64) + (((p2 &&& (3 : Int32)) - (2 : Int32)).toInt64))), (.ref A_ROUTE_QUEUES)]))
      obtain ⟨cq17, kq17, q17a, q17b, q17c⟩ := isOf hZ eq14 (u10.ext O0.2)
      obtain ⟨_, _, ⟨T17, L17, k17, n17⟩, -, X17, ⟨Lc17, hQ17, l17, y17, z17⟩, st17⟩ := X14.virtualBack hx (y := (⟨"com/example/slot1/slot1/server/Limit", "allows", "(J)Z"⟩ : MethodName)) (z := (⟨"com/example/slot1/slot1/server/Limit", "allows", "(J)Z"⟩ : MethodName)) hown (mvT hZ (hw _ (List.mem_of_getElem? (i := 5) rfl))) (mvT hZ (hw _ (List.mem_of_getElem? (i := 6) rfl))) (notFace_of_selects (args := #[]) (mvT hZ (hw _ (List.mem_of_getElem? (i := 8) rfl)))) (mvT hZ (hw _ (List.mem_of_getElem? (i := 8) rfl))) (mvT hZ (hw _ (List.mem_of_getElem? (i := 7) rfl))) (by decide) (backOf (W := 0) (rm_allows l Z a0 hw [] A_ROUTE_QUEUES ((100000 : Int64) + (((p2 &&& (3 : Int32)) - (2 : Int32)).toInt64)) (100000 : Int64) h0 n0 O0 (u19.ext O0.2)) hZ (hw _ (List.mem_of_getElem? (i := 9) rfl)) (hw _ (List.mem_of_getElem? (i := 2) rfl)) (by decide) (by decide)) q17a q17c (g := (mkF me_ 215 #[.val (.int p0), .val (.long p1), .second, .val (.int p2), .val (.int (1 : Int32)), .val (.ref A_ROUTE_QUEUES), .val (.long (100000 : Int64)), .second, .val (.int (1 : Int32)), .val (.long ((100000 : Int64) + (((p2 &&& (3 : Int32)) - (2 : Int32)).toInt64))), .second, .unset] [(.long ((100000 : Int64) + (((p2 &&& (3 : Int32)) - (2 : Int32)).toInt64))), (.ref A_ROUTE_QUEUES)])) rfl (by rw [hml]; rfl) (Steps.refl _) (argsL := [(.long ((100000 : Int64) + (((p2 &&& (3 : Int32)) - (2 : Int32)).toInt64)))]) (rest := []) (lenOf pd_0 rfl) rfl (by show 2 * 0 + _ ≤ _; exact Nat.le_of_eq rfl) (hb hby at_215) (fun _ _ => ⟨rfl, eq14, (by decide : 0 + 0 ≤ _), (by decide : 0 + 0 ≤ _)⟩)
      dsimp only [Pt.U, Pt.locs, Pt.cells, Pt.slots] at X17 l17 y17 z17 st17 hQ17
      subst l17 y17 z17
      obtain ⟨rfl, Nq17, eq17⟩ := hQ17
      have N18 := Fr.app N15 Nq17
      by_cases hb19 : (100000 : Int64) < ((100000 : Int64) + (((p2 &&& (3 : Int32)) - (2 : Int32)).toInt64))
      · rw [if_pos hb19] at st17
        refine gv (fun tQ kQ => st17.trans kQ) ?_
        show G (T17.setTop (mkF me_ 218 #[.val (.int p0), .val (.long p1), .second, .val (.int p2), .val (.int (1 : Int32)), .val (.ref A_ROUTE_QUEUES), .val (.long (100000 : Int64)), .second, .val (.int (1 : Int32)), .val (.long ((100000 : Int64) + (((p2 &&& (3 : Int32)) - (2 : Int32)).toInt64))), .second, .unset] [(.int (0 : Int32))]))
        refine gv (fun tQ kQ => XS.lload X17.here hx rfl (hb hby at_218) rfl kQ) ?_
        show G (T17.setTop (mkF me_ 220 #[.val (.int p0), .val (.long p1), .second, .val (.int p2), .val (.int (1 : Int32)), .val (.ref A_ROUTE_QUEUES), .val (.long (100000 : Int64)), .second, .val (.int (1 : Int32)), .val (.long ((100000 : Int64) + (((p2 &&& (3 : Int32)) - (2 : Int32)).toInt64))), .second, .unset] [(.long ((100000 : Int64) + (((p2 &&& (3 : Int32)) - (2 : Int32)).toInt64))), (.int (0 : Int32))]))
        refine gv (fun tQ kQ => XS.lload X17.here hx rfl (hb hby at_220) rfl kQ) ?_
        show G (T17.setTop (mkF me_ 222 #[.val (.int p0), .val (.long p1), .second, .val (.int p2), .val (.int (1 : Int32)), .val (.ref A_ROUTE_QUEUES), .val (.long (100000 : Int64)), .second, .val (.int (1 : Int32)), .val (.long ((100000 : Int64) + (((p2 &&& (3 : Int32)) - (2 : Int32)).toInt64))), .second, .unset] [(.long (100000 : Int64)), (.long ((100000 : Int64) + (((p2 &&& (3 : Int32)) - (2 : Int32)).toInt64))), (.int (0 : Int32))]))
        refine gv (fun tQ kQ => XS.lcmp X17.here hx rfl (hb hby at_222) rfl kQ) ?_
        show G (T17.setTop (mkF me_ 223 #[.val (.int p0), .val (.long p1), .second, .val (.int p2), .val (.int (1 : Int32)), .val (.ref A_ROUTE_QUEUES), .val (.long (100000 : Int64)), .second, .val (.int (1 : Int32)), .val (.long ((100000 : Int64) + (((p2 &&& (3 : Int32)) - (2 : Int32)).toInt64))), .second, .unset] [(.int (lcmpW ((100000 : Int64) + (((p2 &&& (3 : Int32)) - (2 : Int32)).toInt64)) (100000 : Int64))), (.int (0 : Int32))]))
        refine gv (fun tQ kQ => XS.ifYes X17.here hx rfl (pc0 := 223) (pc' := 230) rfl (hb hby at_223) rfl ((if0 _ _).trans (tlt ((lw_gt _ _).mpr hb19)).2.2.1) (by decide) (by decide) kQ) ?_
        show G (T17.setTop (mkF me_ 230 #[.val (.int p0), .val (.long p1), .second, .val (.int p2), .val (.int (1 : Int32)), .val (.ref A_ROUTE_QUEUES), .val (.long (100000 : Int64)), .second, .val (.int (1 : Int32)), .val (.long ((100000 : Int64) + (((p2 &&& (3 : Int32)) - (2 : Int32)).toInt64))), .second, .unset] [(.int (0 : Int32))]))
        refine gv (fun tQ kQ => XS.iconst X17.here hx rfl (hb hby at_230) kQ) ?_
        show G (T17.setTop (mkF me_ 231 #[.val (.int p0), .val (.long p1), .second, .val (.int p2), .val (.int (1 : Int32)), .val (.ref A_ROUTE_QUEUES), .val (.long (100000 : Int64)), .second, .val (.int (1 : Int32)), .val (.long ((100000 : Int64) + (((p2 &&& (3 : Int32)) - (2 : Int32)).toInt64))), .second, .unset] [(.int (0 : Int32)), (.int (0 : Int32))]))
        refine gv (fun tQ kQ => XS.icmpNo X17.here hx rfl (hb hby at_231) rfl (teq (by decide : (0 : Int32) = (0 : Int32))).2 kQ) ?_
        show G (T17.setTop (mkF me_ 234 #[.val (.int p0), .val (.long p1), .second, .val (.int p2), .val (.int (1 : Int32)), .val (.ref A_ROUTE_QUEUES), .val (.long (100000 : Int64)), .second, .val (.int (1 : Int32)), .val (.long ((100000 : Int64) + (((p2 &&& (3 : Int32)) - (2 : Int32)).toInt64))), .second, .unset] []))
        refine gv (fun tQ kQ => XS.iconst X17.here hx rfl (hb hby at_234) kQ) ?_
        show G (T17.setTop (mkF me_ 235 #[.val (.int p0), .val (.long p1), .second, .val (.int p2), .val (.int (1 : Int32)), .val (.ref A_ROUTE_QUEUES), .val (.long (100000 : Int64)), .second, .val (.int (1 : Int32)), .val (.long ((100000 : Int64) + (((p2 &&& (3 : Int32)) - (2 : Int32)).toInt64))), .second, .unset] [(.int (1 : Int32))]))
        refine gv (fun tQ kQ => XS.goto X17.here hx rfl (pc0 := 235) (pc' := 239) rfl (hb hby at_235) (by decide) (by decide) kQ) ?_
        show G (T17.setTop (mkF me_ 239 #[.val (.int p0), .val (.long p1), .second, .val (.int p2), .val (.int (1 : Int32)), .val (.ref A_ROUTE_QUEUES), .val (.long (100000 : Int64)), .second, .val (.int (1 : Int32)), .val (.long ((100000 : Int64) + (((p2 &&& (3 : Int32)) - (2 : Int32)).toInt64))), .second, .unset] [(.int (1 : Int32))]))
        refine gv (fun tQ kQ => XS.istore X17.here hx rfl (hb hby at_239) rfl (l' := #[.val (.int p0), .val (.long p1), .second, .val (.int p2), .val (.int (1 : Int32)), .val (.ref A_ROUTE_QUEUES), .val (.long (100000 : Int64)), .second, .val (.int (1 : Int32)), .val (.long ((100000 : Int64) + (((p2 &&& (3 : Int32)) - (2 : Int32)).toInt64))), .second, .val (.int (1 : Int32))]) rfl kQ) ?_
        show G (T17.setTop (mkF me_ 241 #[.val (.int p0), .val (.long p1), .second, .val (.int p2), .val (.int (1 : Int32)), .val (.ref A_ROUTE_QUEUES), .val (.long (100000 : Int64)), .second, .val (.int (1 : Int32)), .val (.long ((100000 : Int64) + (((p2 &&& (3 : Int32)) - (2 : Int32)).toInt64))), .second, .val (.int (1 : Int32))] []))
        refine gv (fun tQ kQ => XS.iload X17.here hx rfl (hb hby at_241) rfl kQ) ?_
        show G (T17.setTop (mkF me_ 243 #[.val (.int p0), .val (.long p1), .second, .val (.int p2), .val (.int (1 : Int32)), .val (.ref A_ROUTE_QUEUES), .val (.long (100000 : Int64)), .second, .val (.int (1 : Int32)), .val (.long ((100000 : Int64) + (((p2 &&& (3 : Int32)) - (2 : Int32)).toInt64))), .second, .val (.int (1 : Int32))] [(.int (1 : Int32))]))
        refine gv (fun tQ kQ => XS.ifNo X17.here hx rfl (hb hby at_243) rfl ((if0 _ _).trans (feq (by decide : ¬ ((1 : Int32) = (0 : Int32)))).1) kQ) ?_
        show G (T17.setTop (mkF me_ 246 #[.val (.int p0), .val (.long p1), .second, .val (.int p2), .val (.int (1 : Int32)), .val (.ref A_ROUTE_QUEUES), .val (.long (100000 : Int64)), .second, .val (.int (1 : Int32)), .val (.long ((100000 : Int64) + (((p2 &&& (3 : Int32)) - (2 : Int32)).toInt64))), .second, .val (.int (1 : Int32))] []))
        refine gv (fun tQ kQ => XS.iload X17.here hx rfl (hb hby at_246) rfl kQ) ?_
        show G (T17.setTop (mkF me_ 248 #[.val (.int p0), .val (.long p1), .second, .val (.int p2), .val (.int (1 : Int32)), .val (.ref A_ROUTE_QUEUES), .val (.long (100000 : Int64)), .second, .val (.int (1 : Int32)), .val (.long ((100000 : Int64) + (((p2 &&& (3 : Int32)) - (2 : Int32)).toInt64))), .second, .val (.int (1 : Int32))] [(.int (1 : Int32))]))
        refine gv (fun tQ kQ => XS.ifNo X17.here hx rfl (hb hby at_248) rfl ((if0 _ _).trans (feq (by decide : ¬ ((1 : Int32) = (0 : Int32)))).1) kQ) ?_
        show G (T17.setTop (mkF me_ 251 #[.val (.int p0), .val (.long p1), .second, .val (.int p2), .val (.int (1 : Int32)), .val (.ref A_ROUTE_QUEUES), .val (.long (100000 : Int64)), .second, .val (.int (1 : Int32)), .val (.long ((100000 : Int64) + (((p2 &&& (3 : Int32)) - (2 : Int32)).toInt64))), .second, .val (.int (1 : Int32))] []))
        refine gv (fun tQ kQ => XS.iconst X17.here hx rfl (hb hby at_251) kQ) ?_
        show G (T17.setTop (mkF me_ 252 #[.val (.int p0), .val (.long p1), .second, .val (.int p2), .val (.int (1 : Int32)), .val (.ref A_ROUTE_QUEUES), .val (.long (100000 : Int64)), .second, .val (.int (1 : Int32)), .val (.long ((100000 : Int64) + (((p2 &&& (3 : Int32)) - (2 : Int32)).toInt64))), .second, .val (.int (1 : Int32))] [(.int (1 : Int32))]))
        refine gv (fun tQ kQ => XS.goto X17.here hx rfl (pc0 := 252) (pc' := 256) rfl (hb hby at_252) (by decide) (by decide) kQ) ?_
        show G (T17.setTop (mkF me_ 256 #[.val (.int p0), .val (.long p1), .second, .val (.int p2), .val (.int (1 : Int32)), .val (.ref A_ROUTE_QUEUES), .val (.long (100000 : Int64)), .second, .val (.int (1 : Int32)), .val (.long ((100000 : Int64) + (((p2 &&& (3 : Int32)) - (2 : Int32)).toInt64))), .second, .val (.int (1 : Int32))] [(.int (1 : Int32))]))
        refine gf _ (own_ret X17 Bd.notSynchronized (v := some (.int (1 : Int32))) (fun h => by rw [Bd.returns] at h; cases h) ?_ (by decide) (by decide) (fun fs hr => retN X17 hx (t := .boolean) Bd.returns (by simp) (hb hby at_256) hr))
        show Q0 Z p0 p1 p2 A_TOPICS A_ROUTE_QUEUES A_GROUPS A_MEMBERS A_GROUP_MEMBERS A_MEMBER_TOPICS A_QUEUES A_OFFSETS A_OPTIONS_BYTES h0 n0 _ T17.heap _
        rw [eq17]
        exact ⟨rfl, N18⟩
      · skip
        rw [if_neg hb19] at st17
        refine gv (fun tQ kQ => st17.trans kQ) ?_
        show G (T17.setTop (mkF me_ 218 #[.val (.int p0), .val (.long p1), .second, .val (.int p2), .val (.int (1 : Int32)), .val (.ref A_ROUTE_QUEUES), .val (.long (100000 : Int64)), .second, .val (.int (1 : Int32)), .val (.long ((100000 : Int64) + (((p2 &&& (3 : Int32)) - (2 : Int32)).toInt64))), .second, .unset] [(.int (1 : Int32))]))
        refine gv (fun tQ kQ => XS.lload X17.here hx rfl (hb hby at_218) rfl kQ) ?_
        show G (T17.setTop (mkF me_ 220 #[.val (.int p0), .val (.long p1), .second, .val (.int p2), .val (.int (1 : Int32)), .val (.ref A_ROUTE_QUEUES), .val (.long (100000 : Int64)), .second, .val (.int (1 : Int32)), .val (.long ((100000 : Int64) + (((p2 &&& (3 : Int32)) - (2 : Int32)).toInt64))), .second, .unset] [(.long ((100000 : Int64) + (((p2 &&& (3 : Int32)) - (2 : Int32)).toInt64))), (.int (1 : Int32))]))
        refine gv (fun tQ kQ => XS.lload X17.here hx rfl (hb hby at_220) rfl kQ) ?_
        show G (T17.setTop (mkF me_ 222 #[.val (.int p0), .val (.long p1), .second, .val (.int p2), .val (.int (1 : Int32)), .val (.ref A_ROUTE_QUEUES), .val (.long (100000 : Int64)), .second, .val (.int (1 : Int32)), .val (.long ((100000 : Int64) + (((p2 &&& (3 : Int32)) - (2 : Int32)).toInt64))), .second, .unset] [(.long (100000 : Int64)), (.long ((100000 : Int64) + (((p2 &&& (3 : Int32)) - (2 : Int32)).toInt64))), (.int (1 : Int32))]))
        refine gv (fun tQ kQ => XS.lcmp X17.here hx rfl (hb hby at_222) rfl kQ) ?_
        show G (T17.setTop (mkF me_ 223 #[.val (.int p0), .val (.long p1), .second, .val (.int p2), .val (.int (1 : Int32)), .val (.ref A_ROUTE_QUEUES), .val (.long (100000 : Int64)), .second, .val (.int (1 : Int32)), .val (.long ((100000 : Int64) + (((p2 &&& (3 : Int32)) - (2 : Int32)).toInt64))), .second, .unset] [(.int (lcmpW ((100000 : Int64) + (((p2 &&& (3 : Int32)) - (2 : Int32)).toInt64)) (100000 : Int64))), (.int (1 : Int32))]))
        refine gv (fun tQ kQ => XS.ifNo X17.here hx rfl (hb hby at_223) rfl ((if0 _ _).trans (flt (mt (lw_gt _ _).mp hb19)).2.2.1) kQ) ?_
        show G (T17.setTop (mkF me_ 226 #[.val (.int p0), .val (.long p1), .second, .val (.int p2), .val (.int (1 : Int32)), .val (.ref A_ROUTE_QUEUES), .val (.long (100000 : Int64)), .second, .val (.int (1 : Int32)), .val (.long ((100000 : Int64) + (((p2 &&& (3 : Int32)) - (2 : Int32)).toInt64))), .second, .unset] [(.int (1 : Int32))]))
        refine gv (fun tQ kQ => XS.iconst X17.here hx rfl (hb hby at_226) kQ) ?_
        show G (T17.setTop (mkF me_ 227 #[.val (.int p0), .val (.long p1), .second, .val (.int p2), .val (.int (1 : Int32)), .val (.ref A_ROUTE_QUEUES), .val (.long (100000 : Int64)), .second, .val (.int (1 : Int32)), .val (.long ((100000 : Int64) + (((p2 &&& (3 : Int32)) - (2 : Int32)).toInt64))), .second, .unset] [(.int (1 : Int32)), (.int (1 : Int32))]))
        refine gv (fun tQ kQ => XS.goto X17.here hx rfl (pc0 := 227) (pc' := 231) rfl (hb hby at_227) (by decide) (by decide) kQ) ?_
        show G (T17.setTop (mkF me_ 231 #[.val (.int p0), .val (.long p1), .second, .val (.int p2), .val (.int (1 : Int32)), .val (.ref A_ROUTE_QUEUES), .val (.long (100000 : Int64)), .second, .val (.int (1 : Int32)), .val (.long ((100000 : Int64) + (((p2 &&& (3 : Int32)) - (2 : Int32)).toInt64))), .second, .unset] [(.int (1 : Int32)), (.int (1 : Int32))]))
        refine gv (fun tQ kQ => XS.icmpNo X17.here hx rfl (hb hby at_231) rfl (teq (by decide : (1 : Int32) = (1 : Int32))).2 kQ) ?_
        show G (T17.setTop (mkF me_ 234 #[.val (.int p0), .val (.long p1), .second, .val (.int p2), .val (.int (1 : Int32)), .val (.ref A_ROUTE_QUEUES), .val (.long (100000 : Int64)), .second, .val (.int (1 : Int32)), .val (.long ((100000 : Int64) + (((p2 &&& (3 : Int32)) - (2 : Int32)).toInt64))), .second, .unset] []))
        refine gv (fun tQ kQ => XS.iconst X17.here hx rfl (hb hby at_234) kQ) ?_
        show G (T17.setTop (mkF me_ 235 #[.val (.int p0), .val (.long p1), .second, .val (.int p2), .val (.int (1 : Int32)), .val (.ref A_ROUTE_QUEUES), .val (.long (100000 : Int64)), .second, .val (.int (1 : Int32)), .val (.long ((100000 : Int64) + (((p2 &&& (3 : Int32)) - (2 : Int32)).toInt64))), .second, .unset] [(.int (1 : Int32))]))
        refine gv (fun tQ kQ => XS.goto X17.here hx rfl (pc0 := 235) (pc' := 239) rfl (hb hby at_235) (by decide) (by decide) kQ) ?_
        show G (T17.setTop (mkF me_ 239 #[.val (.int p0), .val (.long p1), .second, .val (.int p2), .val (.int (1 : Int32)), .val (.ref A_ROUTE_QUEUES), .val (.long (100000 : Int64)), .second, .val (.int (1 : Int32)), .val (.long ((100000 : Int64) + (((p2 &&& (3 : Int32)) - (2 : Int32)).toInt64))), .second, .unset] [(.int (1 : Int32))]))
        refine gv (fun tQ kQ => XS.istore X17.here hx rfl (hb hby at_239) rfl (l' := #[.val (.int p0), .val (.long p1), .second, .val (.int p2), .val (.int (1 : Int32)), .val (.ref A_ROUTE_QUEUES), .val (.long (100000 : Int64)), .second, .val (.int (1 : Int32)), .val (.long ((100000 : Int64) + (((p2 &&& (3 : Int32)) - (2 : Int32)).toInt64))), .second, .val (.int (1 : Int32))]) rfl kQ) ?_
        show G (T17.setTop (mkF me_ 241 #[.val (.int p0), .val (.long p1), .second, .val (.int p2), .val (.int (1 : Int32)), .val (.ref A_ROUTE_QUEUES), .val (.long (100000 : Int64)), .second, .val (.int (1 : Int32)), .val (.long ((100000 : Int64) + (((p2 &&& (3 : Int32)) - (2 : Int32)).toInt64))), .second, .val (.int (1 : Int32))] []))
        refine gv (fun tQ kQ => XS.iload X17.here hx rfl (hb hby at_241) rfl kQ) ?_
        show G (T17.setTop (mkF me_ 243 #[.val (.int p0), .val (.long p1), .second, .val (.int p2), .val (.int (1 : Int32)), .val (.ref A_ROUTE_QUEUES), .val (.long (100000 : Int64)), .second, .val (.int (1 : Int32)), .val (.long ((100000 : Int64) + (((p2 &&& (3 : Int32)) - (2 : Int32)).toInt64))), .second, .val (.int (1 : Int32))] [(.int (1 : Int32))]))
        refine gv (fun tQ kQ => XS.ifNo X17.here hx rfl (hb hby at_243) rfl ((if0 _ _).trans (feq (by decide : ¬ ((1 : Int32) = (0 : Int32)))).1) kQ) ?_
        show G (T17.setTop (mkF me_ 246 #[.val (.int p0), .val (.long p1), .second, .val (.int p2), .val (.int (1 : Int32)), .val (.ref A_ROUTE_QUEUES), .val (.long (100000 : Int64)), .second, .val (.int (1 : Int32)), .val (.long ((100000 : Int64) + (((p2 &&& (3 : Int32)) - (2 : Int32)).toInt64))), .second, .val (.int (1 : Int32))] []))
        refine gv (fun tQ kQ => XS.iload X17.here hx rfl (hb hby at_246) rfl kQ) ?_
        show G (T17.setTop (mkF me_ 248 #[.val (.int p0), .val (.long p1), .second, .val (.int p2), .val (.int (1 : Int32)), .val (.ref A_ROUTE_QUEUES), .val (.long (100000 : Int64)), .second, .val (.int (1 : Int32)), .val (.long ((100000 : Int64) + (((p2 &&& (3 : Int32)) - (2 : Int32)).toInt64))), .second, .val (.int (1 : Int32))] [(.int (1 : Int32))]))
        refine gv (fun tQ kQ => XS.ifNo X17.here hx rfl (hb hby at_248) rfl ((if0 _ _).trans (feq (by decide : ¬ ((1 : Int32) = (0 : Int32)))).1) kQ) ?_
        show G (T17.setTop (mkF me_ 251 #[.val (.int p0), .val (.long p1), .second, .val (.int p2), .val (.int (1 : Int32)), .val (.ref A_ROUTE_QUEUES), .val (.long (100000 : Int64)), .second, .val (.int (1 : Int32)), .val (.long ((100000 : Int64) + (((p2 &&& (3 : Int32)) - (2 : Int32)).toInt64))), .second, .val (.int (1 : Int32))] []))
        refine gv (fun tQ kQ => XS.iconst X17.here hx rfl (hb hby at_251) kQ) ?_
        show G (T17.setTop (mkF me_ 252 #[.val (.int p0), .val (.long p1), .second, .val (.int p2), .val (.int (1 : Int32)), .val (.ref A_ROUTE_QUEUES), .val (.long (100000 : Int64)), .second, .val (.int (1 : Int32)), .val (.long ((100000 : Int64) + (((p2 &&& (3 : Int32)) - (2 : Int32)).toInt64))), .second, .val (.int (1 : Int32))] [(.int (1 : Int32))]))
        refine gv (fun tQ kQ => XS.goto X17.here hx rfl (pc0 := 252) (pc' := 256) rfl (hb hby at_252) (by decide) (by decide) kQ) ?_
        show G (T17.setTop (mkF me_ 256 #[.val (.int p0), .val (.long p1), .second, .val (.int p2), .val (.int (1 : Int32)), .val (.ref A_ROUTE_QUEUES), .val (.long (100000 : Int64)), .second, .val (.int (1 : Int32)), .val (.long ((100000 : Int64) + (((p2 &&& (3 : Int32)) - (2 : Int32)).toInt64))), .second, .val (.int (1 : Int32))] [(.int (1 : Int32))]))
        refine gf _ (own_ret X17 Bd.notSynchronized (v := some (.int (1 : Int32))) (fun h => by rw [Bd.returns] at h; cases h) ?_ (by decide) (by decide) (fun fs hr => retN X17 hx (t := .boolean) Bd.returns (by simp) (hb hby at_256) hr))
        show Q0 Z p0 p1 p2 A_TOPICS A_ROUTE_QUEUES A_GROUPS A_MEMBERS A_GROUP_MEMBERS A_MEMBER_TOPICS A_QUEUES A_OFFSETS A_OPTIONS_BYTES h0 n0 _ T17.heap _
        rw [eq17]
        exact ⟨rfl, N18⟩
    · skip
      rw [if_neg hb16] at st14
      refine gv (fun tQ kQ => st14.trans kQ) ?_
      show G (T14.setTop (mkF me_ 178 #[.val (.int p0), .val (.long p1), .second, .val (.int p2), .val (.int (1 : Int32)), .val (.ref A_ROUTE_QUEUES), .val (.long (100000 : Int64)), .second, .unset, .unset, .unset, .unset] [(.int (1 : Int32))]))
      refine gv (fun tQ kQ => XS.lloadN X14.here hx rfl (hb hby at_178) rfl kQ) ?_
      show G (T14.setTop (mkF me_ 179 #[.val (.int p0), .val (.long p1), .second, .val (.int p2), .val (.int (1 : Int32)), .val (.ref A_ROUTE_QUEUES), .val (.long (100000 : Int64)), .second, .unset, .unset, .unset, .unset] [(.long p1), (.int (1 : Int32))]))
      refine gv (fun tQ kQ => XS.lload X14.here hx rfl (hb hby at_179) rfl kQ) ?_
      show G (T14.setTop (mkF me_ 181 #[.val (.int p0), .val (.long p1), .second, .val (.int p2), .val (.int (1 : Int32)), .val (.ref A_ROUTE_QUEUES), .val (.long (100000 : Int64)), .second, .unset, .unset, .unset, .unset] [(.long (100000 : Int64)), (.long p1), (.int (1 : Int32))]))
      refine gv (fun tQ kQ => XS.lcmp X14.here hx rfl (hb hby at_181) rfl kQ) ?_
      show G (T14.setTop (mkF me_ 182 #[.val (.int p0), .val (.long p1), .second, .val (.int p2), .val (.int (1 : Int32)), .val (.ref A_ROUTE_QUEUES), .val (.long (100000 : Int64)), .second, .unset, .unset, .unset, .unset] [(.int (lcmpW p1 (100000 : Int64))), (.int (1 : Int32))]))
      refine gv (fun tQ kQ => XS.ifNo X14.here hx rfl (hb hby at_182) rfl ((if0 _ _).trans (flt (mt (lw_gt _ _).mp hb16)).2.2.1) kQ) ?_
      show G (T14.setTop (mkF me_ 185 #[.val (.int p0), .val (.long p1), .second, .val (.int p2), .val (.int (1 : Int32)), .val (.ref A_ROUTE_QUEUES), .val (.long (100000 : Int64)), .second, .unset, .unset, .unset, .unset] [(.int (1 : Int32))]))
      refine gv (fun tQ kQ => XS.iconst X14.here hx rfl (hb hby at_185) kQ) ?_
      show G (T14.setTop (mkF me_ 186 #[.val (.int p0), .val (.long p1), .second, .val (.int p2), .val (.int (1 : Int32)), .val (.ref A_ROUTE_QUEUES), .val (.long (100000 : Int64)), .second, .unset, .unset, .unset, .unset] [(.int (1 : Int32)), (.int (1 : Int32))]))
      refine gv (fun tQ kQ => XS.goto X14.here hx rfl (pc0 := 186) (pc' := 190) rfl (hb hby at_186) (by decide) (by decide) kQ) ?_
      show G (T14.setTop (mkF me_ 190 #[.val (.int p0), .val (.long p1), .second, .val (.int p2), .val (.int (1 : Int32)), .val (.ref A_ROUTE_QUEUES), .val (.long (100000 : Int64)), .second, .unset, .unset, .unset, .unset] [(.int (1 : Int32)), (.int (1 : Int32))]))
      refine gv (fun tQ kQ => XS.icmpNo X14.here hx rfl (hb hby at_190) rfl (teq (by decide : (1 : Int32) = (1 : Int32))).2 kQ) ?_
      show G (T14.setTop (mkF me_ 193 #[.val (.int p0), .val (.long p1), .second, .val (.int p2), .val (.int (1 : Int32)), .val (.ref A_ROUTE_QUEUES), .val (.long (100000 : Int64)), .second, .unset, .unset, .unset, .unset] []))
      refine gv (fun tQ kQ => XS.iconst X14.here hx rfl (hb hby at_193) kQ) ?_
      show G (T14.setTop (mkF me_ 194 #[.val (.int p0), .val (.long p1), .second, .val (.int p2), .val (.int (1 : Int32)), .val (.ref A_ROUTE_QUEUES), .val (.long (100000 : Int64)), .second, .unset, .unset, .unset, .unset] [(.int (1 : Int32))]))
      refine gv (fun tQ kQ => XS.goto X14.here hx rfl (pc0 := 194) (pc' := 198) rfl (hb hby at_194) (by decide) (by decide) kQ) ?_
      show G (T14.setTop (mkF me_ 198 #[.val (.int p0), .val (.long p1), .second, .val (.int p2), .val (.int (1 : Int32)), .val (.ref A_ROUTE_QUEUES), .val (.long (100000 : Int64)), .second, .unset, .unset, .unset, .unset] [(.int (1 : Int32))]))
      refine gv (fun tQ kQ => XS.istore X14.here hx rfl (hb hby at_198) rfl (l' := #[.val (.int p0), .val (.long p1), .second, .val (.int p2), .val (.int (1 : Int32)), .val (.ref A_ROUTE_QUEUES), .val (.long (100000 : Int64)), .second, .val (.int (1 : Int32)), .unset, .unset, .unset]) rfl kQ) ?_
      show G (T14.setTop (mkF me_ 200 #[.val (.int p0), .val (.long p1), .second, .val (.int p2), .val (.int (1 : Int32)), .val (.ref A_ROUTE_QUEUES), .val (.long (100000 : Int64)), .second, .val (.int (1 : Int32)), .unset, .unset, .unset] []))
      refine gv (fun tQ kQ => XS.lload X14.here hx rfl (hb hby at_200) rfl kQ) ?_
      show G (T14.setTop (mkF me_ 202 #[.val (.int p0), .val (.long p1), .second, .val (.int p2), .val (.int (1 : Int32)), .val (.ref A_ROUTE_QUEUES), .val (.long (100000 : Int64)), .second, .val (.int (1 : Int32)), .unset, .unset, .unset] [(.long (100000 : Int64))]))
      refine gv (fun tQ kQ => XS.iloadN X14.here hx rfl (hb hby at_202) rfl kQ) ?_
      show G (T14.setTop (mkF me_ 203 #[.val (.int p0), .val (.long p1), .second, .val (.int p2), .val (.int (1 : Int32)), .val (.ref A_ROUTE_QUEUES), .val (.long (100000 : Int64)), .second, .val (.int (1 : Int32)), .unset, .unset, .unset] [(.int p2), (.long (100000 : Int64))]))
      refine gv (fun tQ kQ => XS.iconst X14.here hx rfl (hb hby at_203) kQ) ?_
      show G (T14.setTop (mkF me_ 204 #[.val (.int p0), .val (.long p1), .second, .val (.int p2), .val (.int (1 : Int32)), .val (.ref A_ROUTE_QUEUES), .val (.long (100000 : Int64)), .second, .val (.int (1 : Int32)), .unset, .unset, .unset] [(.int (3 : Int32)), (.int p2), (.long (100000 : Int64))]))
      refine gv (fun tQ kQ => XS.iand X14.here hx rfl (hb hby at_204) rfl kQ) ?_
      show G (T14.setTop (mkF me_ 205 #[.val (.int p0), .val (.long p1), .second, .val (.int p2), .val (.int (1 : Int32)), .val (.ref A_ROUTE_QUEUES), .val (.long (100000 : Int64)), .second, .val (.int (1 : Int32)), .unset, .unset, .unset] [(.int (p2 &&& (3 : Int32))), (.long (100000 : Int64))]))
      refine gv (fun tQ kQ => XS.iconst X14.here hx rfl (hb hby at_205) kQ) ?_
      show G (T14.setTop (mkF me_ 206 #[.val (.int p0), .val (.long p1), .second, .val (.int p2), .val (.int (1 : Int32)), .val (.ref A_ROUTE_QUEUES), .val (.long (100000 : Int64)), .second, .val (.int (1 : Int32)), .unset, .unset, .unset] [(.int (2 : Int32)), (.int (p2 &&& (3 : Int32))), (.long (100000 : Int64))]))
      refine gv (fun tQ kQ => XS.isub X14.here hx rfl (hb hby at_206) rfl kQ) ?_
      show G (T14.setTop (mkF me_ 207 #[.val (.int p0), .val (.long p1), .second, .val (.int p2), .val (.int (1 : Int32)), .val (.ref A_ROUTE_QUEUES), .val (.long (100000 : Int64)), .second, .val (.int (1 : Int32)), .unset, .unset, .unset] [(.int ((p2 &&& (3 : Int32)) - (2 : Int32))), (.long (100000 : Int64))]))
      refine gv (fun tQ kQ => XS.i2l X14.here hx rfl (hb hby at_207) rfl kQ) ?_
      show G (T14.setTop (mkF me_ 208 #[.val (.int p0), .val (.long p1), .second, .val (.int p2), .val (.int (1 : Int32)), .val (.ref A_ROUTE_QUEUES), .val (.long (100000 : Int64)), .second, .val (.int (1 : Int32)), .unset, .unset, .unset] [(.long (((p2 &&& (3 : Int32)) - (2 : Int32)).toInt64)), (.long (100000 : Int64))]))
      refine gv (fun tQ kQ => XS.ladd X14.here hx rfl (hb hby at_208) rfl kQ) ?_
      show G (T14.setTop (mkF me_ 209 #[.val (.int p0), .val (.long p1), .second, .val (.int p2), .val (.int (1 : Int32)), .val (.ref A_ROUTE_QUEUES), .val (.long (100000 : Int64)), .second, .val (.int (1 : Int32)), .unset, .unset, .unset] [(.long ((100000 : Int64) + (((p2 &&& (3 : Int32)) - (2 : Int32)).toInt64)))]))
      refine gv (fun tQ kQ => XS.lstore X14.here hx rfl (hb hby at_209) rfl (l' := #[.val (.int p0), .val (.long p1), .second, .val (.int p2), .val (.int (1 : Int32)), .val (.ref A_ROUTE_QUEUES), .val (.long (100000 : Int64)), .second, .val (.int (1 : Int32)), .val (.long ((100000 : Int64) + (((p2 &&& (3 : Int32)) - (2 : Int32)).toInt64))), .second, .unset]) rfl kQ) ?_
      show G (T14.setTop (mkF me_ 211 #[.val (.int p0), .val (.long p1), .second, .val (.int p2), .val (.int (1 : Int32)), .val (.ref A_ROUTE_QUEUES), .val (.long (100000 : Int64)), .second, .val (.int (1 : Int32)), .val (.long ((100000 : Int64) + (((p2 &&& (3 : Int32)) - (2 : Int32)).toInt64))), .second, .unset] []))
      refine gv (fun tQ kQ => XS.aload X14.here hx rfl (hb hby at_211) rfl rfl kQ) ?_
      show G (T14.setTop (mkF me_ 213 #[.val (.int p0), .val (.long p1), .second, .val (.int p2), .val (.int (1 : Int32)), .val (.ref A_ROUTE_QUEUES), .val (.long (100000 : Int64)), .second, .val (.int (1 : Int32)), .val (.long ((100000 : Int64) + (((p2 &&& (3 : Int32)) - (2 : Int32)).toInt64))), .second, .unset] [(.ref A_ROUTE_QUEUES)]))
      refine gv (fun tQ kQ => XS.lload X14.here hx rfl (hb hby at_213) rfl kQ) ?_
      show G (T14.setTop (mkF me_ 215 #[.val (.int p0), .val (.long p1), .second, .val (.int p2), .val (.int (1 : Int32)), .val (.ref A_ROUTE_QUEUES), .val (.long (100000 : Int64)), .second, .val (.int (1 : Int32)), .val (.long ((100000 : Int64) + (((p2 &&& (3 : Int32)) - (2 : Int32)).toInt64))), .second, .unset] [(.long ((100000 : Int64) + (((p2 &&& (3 : Int32)) - (2 : Int32)).toInt64))), (.ref A_ROUTE_QUEUES)]))
      obtain ⟨cq20, kq20, q20a, q20b, q20c⟩ := isOf hZ eq14 (u10.ext O0.2)
      obtain ⟨_, _, ⟨T20, L20, k20, n20⟩, -, X20, ⟨Lc20, hQ20, l20, y20, z20⟩, st20⟩ := X14.virtualBack hx (y := (⟨"com/example/slot1/slot1/server/Limit", "allows", "(J)Z"⟩ : MethodName)) (z := (⟨"com/example/slot1/slot1/server/Limit", "allows", "(J)Z"⟩ : MethodName)) hown (mvT hZ (hw _ (List.mem_of_getElem? (i := 5) rfl))) (mvT hZ (hw _ (List.mem_of_getElem? (i := 6) rfl))) (notFace_of_selects (args := #[]) (mvT hZ (hw _ (List.mem_of_getElem? (i := 8) rfl)))) (mvT hZ (hw _ (List.mem_of_getElem? (i := 8) rfl))) (mvT hZ (hw _ (List.mem_of_getElem? (i := 7) rfl))) (by decide) (backOf (W := 0) (rm_allows l Z a0 hw [] A_ROUTE_QUEUES ((100000 : Int64) + (((p2 &&& (3 : Int32)) - (2 : Int32)).toInt64)) (100000 : Int64) h0 n0 O0 (u19.ext O0.2)) hZ (hw _ (List.mem_of_getElem? (i := 9) rfl)) (hw _ (List.mem_of_getElem? (i := 2) rfl)) (by decide) (by decide)) q20a q20c (g := (mkF me_ 215 #[.val (.int p0), .val (.long p1), .second, .val (.int p2), .val (.int (1 : Int32)), .val (.ref A_ROUTE_QUEUES), .val (.long (100000 : Int64)), .second, .val (.int (1 : Int32)), .val (.long ((100000 : Int64) + (((p2 &&& (3 : Int32)) - (2 : Int32)).toInt64))), .second, .unset] [(.long ((100000 : Int64) + (((p2 &&& (3 : Int32)) - (2 : Int32)).toInt64))), (.ref A_ROUTE_QUEUES)])) rfl (by rw [hml]; rfl) (Steps.refl _) (argsL := [(.long ((100000 : Int64) + (((p2 &&& (3 : Int32)) - (2 : Int32)).toInt64)))]) (rest := []) (lenOf pd_0 rfl) rfl (by show 2 * 0 + _ ≤ _; exact Nat.le_of_eq rfl) (hb hby at_215) (fun _ _ => ⟨rfl, eq14, (by decide : 0 + 0 ≤ _), (by decide : 0 + 0 ≤ _)⟩)
      dsimp only [Pt.U, Pt.locs, Pt.cells, Pt.slots] at X20 l20 y20 z20 st20 hQ20
      subst l20 y20 z20
      obtain ⟨rfl, Nq20, eq20⟩ := hQ20
      have N21 := Fr.app N15 Nq20
      by_cases hb22 : (100000 : Int64) < ((100000 : Int64) + (((p2 &&& (3 : Int32)) - (2 : Int32)).toInt64))
      · rw [if_pos hb22] at st20
        refine gv (fun tQ kQ => st20.trans kQ) ?_
        show G (T20.setTop (mkF me_ 218 #[.val (.int p0), .val (.long p1), .second, .val (.int p2), .val (.int (1 : Int32)), .val (.ref A_ROUTE_QUEUES), .val (.long (100000 : Int64)), .second, .val (.int (1 : Int32)), .val (.long ((100000 : Int64) + (((p2 &&& (3 : Int32)) - (2 : Int32)).toInt64))), .second, .unset] [(.int (0 : Int32))]))
        refine gv (fun tQ kQ => XS.lload X20.here hx rfl (hb hby at_218) rfl kQ) ?_
        show G (T20.setTop (mkF me_ 220 #[.val (.int p0), .val (.long p1), .second, .val (.int p2), .val (.int (1 : Int32)), .val (.ref A_ROUTE_QUEUES), .val (.long (100000 : Int64)), .second, .val (.int (1 : Int32)), .val (.long ((100000 : Int64) + (((p2 &&& (3 : Int32)) - (2 : Int32)).toInt64))), .second, .unset] [(.long ((100000 : Int64) + (((p2 &&& (3 : Int32)) - (2 : Int32)).toInt64))), (.int (0 : Int32))]))
        refine gv (fun tQ kQ => XS.lload X20.here hx rfl (hb hby at_220) rfl kQ) ?_
        show G (T20.setTop (mkF me_ 222 #[.val (.int p0), .val (.long p1), .second, .val (.int p2), .val (.int (1 : Int32)), .val (.ref A_ROUTE_QUEUES), .val (.long (100000 : Int64)), .second, .val (.int (1 : Int32)), .val (.long ((100000 : Int64) + (((p2 &&& (3 : Int32)) - (2 : Int32)).toInt64))), .second, .unset] [(.long (100000 : Int64)), (.long ((100000 : Int64) + (((p2 &&& (3 : Int32)) - (2 : Int32)).toInt64))), (.int (0 : Int32))]))
        refine gv (fun tQ kQ => XS.lcmp X20.here hx rfl (hb hby at_222) rfl kQ) ?_
        show G (T20.setTop (mkF me_ 223 #[.val (.int p0), .val (.long p1), .second, .val (.int p2), .val (.int (1 : Int32)), .val (.ref A_ROUTE_QUEUES), .val (.long (100000 : Int64)), .second, .val (.int (1 : Int32)), .val (.long ((100000 : Int64) + (((p2 &&& (3 : Int32)) - (2 : Int32)).toInt64))), .second, .unset] [(.int (lcmpW ((100000 : Int64) + (((p2 &&& (3 : Int32)) - (2 : Int32)).toInt64)) (100000 : Int64))), (.int (0 : Int32))]))
        refine gv (fun tQ kQ => XS.ifYes X20.here hx rfl (pc0 := 223) (pc' := 230) rfl (hb hby at_223) rfl ((if0 _ _).trans (tlt ((lw_gt _ _).mpr hb22)).2.2.1) (by decide) (by decide) kQ) ?_
        show G (T20.setTop (mkF me_ 230 #[.val (.int p0), .val (.long p1), .second, .val (.int p2), .val (.int (1 : Int32)), .val (.ref A_ROUTE_QUEUES), .val (.long (100000 : Int64)), .second, .val (.int (1 : Int32)), .val (.long ((100000 : Int64) + (((p2 &&& (3 : Int32)) - (2 : Int32)).toInt64))), .second, .unset] [(.int (0 : Int32))]))
        refine gv (fun tQ kQ => XS.iconst X20.here hx rfl (hb hby at_230) kQ) ?_
        show G (T20.setTop (mkF me_ 231 #[.val (.int p0), .val (.long p1), .second, .val (.int p2), .val (.int (1 : Int32)), .val (.ref A_ROUTE_QUEUES), .val (.long (100000 : Int64)), .second, .val (.int (1 : Int32)), .val (.long ((100000 : Int64) + (((p2 &&& (3 : Int32)) - (2 : Int32)).toInt64))), .second, .unset] [(.int (0 : Int32)), (.int (0 : Int32))]))
        refine gv (fun tQ kQ => XS.icmpNo X20.here hx rfl (hb hby at_231) rfl (teq (by decide : (0 : Int32) = (0 : Int32))).2 kQ) ?_
        show G (T20.setTop (mkF me_ 234 #[.val (.int p0), .val (.long p1), .second, .val (.int p2), .val (.int (1 : Int32)), .val (.ref A_ROUTE_QUEUES), .val (.long (100000 : Int64)), .second, .val (.int (1 : Int32)), .val (.long ((100000 : Int64) + (((p2 &&& (3 : Int32)) - (2 : Int32)).toInt64))), .second, .unset] []))
        refine gv (fun tQ kQ => XS.iconst X20.here hx rfl (hb hby at_234) kQ) ?_
        show G (T20.setTop (mkF me_ 235 #[.val (.int p0), .val (.long p1), .second, .val (.int p2), .val (.int (1 : Int32)), .val (.ref A_ROUTE_QUEUES), .val (.long (100000 : Int64)), .second, .val (.int (1 : Int32)), .val (.long ((100000 : Int64) + (((p2 &&& (3 : Int32)) - (2 : Int32)).toInt64))), .second, .unset] [(.int (1 : Int32))]))
        refine gv (fun tQ kQ => XS.goto X20.here hx rfl (pc0 := 235) (pc' := 239) rfl (hb hby at_235) (by decide) (by decide) kQ) ?_
        show G (T20.setTop (mkF me_ 239 #[.val (.int p0), .val (.long p1), .second, .val (.int p2), .val (.int (1 : Int32)), .val (.ref A_ROUTE_QUEUES), .val (.long (100000 : Int64)), .second, .val (.int (1 : Int32)), .val (.long ((100000 : Int64) + (((p2 &&& (3 : Int32)) - (2 : Int32)).toInt64))), .second, .unset] [(.int (1 : Int32))]))
        refine gv (fun tQ kQ => XS.istore X20.here hx rfl (hb hby at_239) rfl (l' := #[.val (.int p0), .val (.long p1), .second, .val (.int p2), .val (.int (1 : Int32)), .val (.ref A_ROUTE_QUEUES), .val (.long (100000 : Int64)), .second, .val (.int (1 : Int32)), .val (.long ((100000 : Int64) + (((p2 &&& (3 : Int32)) - (2 : Int32)).toInt64))), .second, .val (.int (1 : Int32))]) rfl kQ) ?_
        show G (T20.setTop (mkF me_ 241 #[.val (.int p0), .val (.long p1), .second, .val (.int p2), .val (.int (1 : Int32)), .val (.ref A_ROUTE_QUEUES), .val (.long (100000 : Int64)), .second, .val (.int (1 : Int32)), .val (.long ((100000 : Int64) + (((p2 &&& (3 : Int32)) - (2 : Int32)).toInt64))), .second, .val (.int (1 : Int32))] []))
        refine gv (fun tQ kQ => XS.iload X20.here hx rfl (hb hby at_241) rfl kQ) ?_
        show G (T20.setTop (mkF me_ 243 #[.val (.int p0), .val (.long p1), .second, .val (.int p2), .val (.int (1 : Int32)), .val (.ref A_ROUTE_QUEUES), .val (.long (100000 : Int64)), .second, .val (.int (1 : Int32)), .val (.long ((100000 : Int64) + (((p2 &&& (3 : Int32)) - (2 : Int32)).toInt64))), .second, .val (.int (1 : Int32))] [(.int (1 : Int32))]))
        refine gv (fun tQ kQ => XS.ifNo X20.here hx rfl (hb hby at_243) rfl ((if0 _ _).trans (feq (by decide : ¬ ((1 : Int32) = (0 : Int32)))).1) kQ) ?_
        show G (T20.setTop (mkF me_ 246 #[.val (.int p0), .val (.long p1), .second, .val (.int p2), .val (.int (1 : Int32)), .val (.ref A_ROUTE_QUEUES), .val (.long (100000 : Int64)), .second, .val (.int (1 : Int32)), .val (.long ((100000 : Int64) + (((p2 &&& (3 : Int32)) - (2 : Int32)).toInt64))), .second, .val (.int (1 : Int32))] []))
        refine gv (fun tQ kQ => XS.iload X20.here hx rfl (hb hby at_246) rfl kQ) ?_
        show G (T20.setTop (mkF me_ 248 #[.val (.int p0), .val (.long p1), .second, .val (.int p2), .val (.int (1 : Int32)), .val (.ref A_ROUTE_QUEUES), .val (.long (100000 : Int64)), .second, .val (.int (1 : Int32)), .val (.long ((100000 : Int64) + (((p2 &&& (3 : Int32)) - (2 : Int32)).toInt64))), .second, .val (.int (1 : Int32))] [(.int (1 : Int32))]))
        refine gv (fun tQ kQ => XS.ifNo X20.here hx rfl (hb hby at_248) rfl ((if0 _ _).trans (feq (by decide : ¬ ((1 : Int32) = (0 : Int32)))).1) kQ) ?_
        show G (T20.setTop (mkF me_ 251 #[.val (.int p0), .val (.long p1), .second, .val (.int p2), .val (.int (1 : Int32)), .val (.ref A_ROUTE_QUEUES), .val (.long (100000 : Int64)), .second, .val (.int (1 : Int32)), .val (.long ((100000 : Int64) + (((p2 &&& (3 : Int32)) - (2 : Int32)).toInt64))), .second, .val (.int (1 : Int32))] []))
        refine gv (fun tQ kQ => XS.iconst X20.here hx rfl (hb hby at_251) kQ) ?_
        show G (T20.setTop (mkF me_ 252 #[.val (.int p0), .val (.long p1), .second, .val (.int p2), .val (.int (1 : Int32)), .val (.ref A_ROUTE_QUEUES), .val (.long (100000 : Int64)), .second, .val (.int (1 : Int32)), .val (.long ((100000 : Int64) + (((p2 &&& (3 : Int32)) - (2 : Int32)).toInt64))), .second, .val (.int (1 : Int32))] [(.int (1 : Int32))]))
        refine gv (fun tQ kQ => XS.goto X20.here hx rfl (pc0 := 252) (pc' := 256) rfl (hb hby at_252) (by decide) (by decide) kQ) ?_
        show G (T20.setTop (mkF me_ 256 #[.val (.int p0), .val (.long p1), .second, .val (.int p2), .val (.int (1 : Int32)), .val (.ref A_ROUTE_QUEUES), .val (.long (100000 : Int64)), .second, .val (.int (1 : Int32)), .val (.long ((100000 : Int64) + (((p2 &&& (3 : Int32)) - (2 : Int32)).toInt64))), .second, .val (.int (1 : Int32))] [(.int (1 : Int32))]))
        refine gf _ (own_ret X20 Bd.notSynchronized (v := some (.int (1 : Int32))) (fun h => by rw [Bd.returns] at h; cases h) ?_ (by decide) (by decide) (fun fs hr => retN X20 hx (t := .boolean) Bd.returns (by simp) (hb hby at_256) hr))
        show Q0 Z p0 p1 p2 A_TOPICS A_ROUTE_QUEUES A_GROUPS A_MEMBERS A_GROUP_MEMBERS A_MEMBER_TOPICS A_QUEUES A_OFFSETS A_OPTIONS_BYTES h0 n0 _ T20.heap _
        rw [eq20]
        exact ⟨rfl, N21⟩
      · skip
        rw [if_neg hb22] at st20
        refine gv (fun tQ kQ => st20.trans kQ) ?_
        show G (T20.setTop (mkF me_ 218 #[.val (.int p0), .val (.long p1), .second, .val (.int p2), .val (.int (1 : Int32)), .val (.ref A_ROUTE_QUEUES), .val (.long (100000 : Int64)), .second, .val (.int (1 : Int32)), .val (.long ((100000 : Int64) + (((p2 &&& (3 : Int32)) - (2 : Int32)).toInt64))), .second, .unset] [(.int (1 : Int32))]))
        refine gv (fun tQ kQ => XS.lload X20.here hx rfl (hb hby at_218) rfl kQ) ?_
        show G (T20.setTop (mkF me_ 220 #[.val (.int p0), .val (.long p1), .second, .val (.int p2), .val (.int (1 : Int32)), .val (.ref A_ROUTE_QUEUES), .val (.long (100000 : Int64)), .second, .val (.int (1 : Int32)), .val (.long ((100000 : Int64) + (((p2 &&& (3 : Int32)) - (2 : Int32)).toInt64))), .second, .unset] [(.long ((100000 : Int64) + (((p2 &&& (3 : Int32)) - (2 : Int32)).toInt64))), (.int (1 : Int32))]))
        refine gv (fun tQ kQ => XS.lload X20.here hx rfl (hb hby at_220) rfl kQ) ?_
        show G (T20.setTop (mkF me_ 222 #[.val (.int p0), .val (.long p1), .second, .val (.int p2), .val (.int (1 : Int32)), .val (.ref A_ROUTE_QUEUES), .val (.long (100000 : Int64)), .second, .val (.int (1 : Int32)), .val (.long ((100000 : Int64) + (((p2 &&& (3 : Int32)) - (2 : Int32)).toInt64))), .second, .unset] [(.long (100000 : Int64)), (.long ((100000 : Int64) + (((p2 &&& (3 : Int32)) - (2 : Int32)).toInt64))), (.int (1 : Int32))]))
        refine gv (fun tQ kQ => XS.lcmp X20.here hx rfl (hb hby at_222) rfl kQ) ?_
        show G (T20.setTop (mkF me_ 223 #[.val (.int p0), .val (.long p1), .second, .val (.int p2), .val (.int (1 : Int32)), .val (.ref A_ROUTE_QUEUES), .val (.long (100000 : Int64)), .second, .val (.int (1 : Int32)), .val (.long ((100000 : Int64) + (((p2 &&& (3 : Int32)) - (2 : Int32)).toInt64))), .second, .unset] [(.int (lcmpW ((100000 : Int64) + (((p2 &&& (3 : Int32)) - (2 : Int32)).toInt64)) (100000 : Int64))), (.int (1 : Int32))]))
        refine gv (fun tQ kQ => XS.ifNo X20.here hx rfl (hb hby at_223) rfl ((if0 _ _).trans (flt (mt (lw_gt _ _).mp hb22)).2.2.1) kQ) ?_
        show G (T20.setTop (mkF me_ 226 #[.val (.int p0), .val (.long p1), .second, .val (.int p2), .val (.int (1 : Int32)), .val (.ref A_ROUTE_QUEUES), .val (.long (100000 : Int64)), .second, .val (.int (1 : Int32)), .val (.long ((100000 : Int64) + (((p2 &&& (3 : Int32)) - (2 : Int32)).toInt64))), .second, .unset] [(.int (1 : Int32))]))
        refine gv (fun tQ kQ => XS.iconst X20.here hx rfl (hb hby at_226) kQ) ?_
        show G (T20.setTop (mkF me_ 227 #[.val (.int p0), .val (.long p1), .second, .val (.int p2), .val (.int (1 : Int32)), .val (.ref A_ROUTE_QUEUES), .val (.long (100000 : Int64)), .second, .val (.int (1 : Int32)), .val (.long ((100000 : Int64) + (((p2 &&& (3 : Int32)) - (2 : Int32)).toInt64))), .second, .unset] [(.int (1 : Int32)), (.int (1 : Int32))]))
        refine gv (fun tQ kQ => XS.goto X20.here hx rfl (pc0 := 227) (pc' := 231) rfl (hb hby at_227) (by decide) (by decide) kQ) ?_
        show G (T20.setTop (mkF me_ 231 #[.val (.int p0), .val (.long p1), .second, .val (.int p2), .val (.int (1 : Int32)), .val (.ref A_ROUTE_QUEUES), .val (.long (100000 : Int64)), .second, .val (.int (1 : Int32)), .val (.long ((100000 : Int64) + (((p2 &&& (3 : Int32)) - (2 : Int32)).toInt64))), .second, .unset] [(.int (1 : Int32)), (.int (1 : Int32))]))
        refine gv (fun tQ kQ => XS.icmpNo X20.here hx rfl (hb hby at_231) rfl (teq (by decide : (1 : Int32) = (1 : Int32))).2 kQ) ?_
        show G (T20.setTop (mkF me_ 234 #[.val (.int p0), .val (.long p1), .second, .val (.int p2), .val (.int (1 : Int32)), .val (.ref A_ROUTE_QUEUES), .val (.long (100000 : Int64)), .second, .val (.int (1 : Int32)), .val (.long ((100000 : Int64) + (((p2 &&& (3 : Int32)) - (2 : Int32)).toInt64))), .second, .unset] []))
        refine gv (fun tQ kQ => XS.iconst X20.here hx rfl (hb hby at_234) kQ) ?_
        show G (T20.setTop (mkF me_ 235 #[.val (.int p0), .val (.long p1), .second, .val (.int p2), .val (.int (1 : Int32)), .val (.ref A_ROUTE_QUEUES), .val (.long (100000 : Int64)), .second, .val (.int (1 : Int32)), .val (.long ((100000 : Int64) + (((p2 &&& (3 : Int32)) - (2 : Int32)).toInt64))), .second, .unset] [(.int (1 : Int32))]))
        refine gv (fun tQ kQ => XS.goto X20.here hx rfl (pc0 := 235) (pc' := 239) rfl (hb hby at_235) (by decide) (by decide) kQ) ?_
        show G (T20.setTop (mkF me_ 239 #[.val (.int p0), .val (.long p1), .second, .val (.int p2), .val (.int (1 : Int32)), .val (.ref A_ROUTE_QUEUES), .val (.long (100000 : Int64)), .second, .val (.int (1 : Int32)), .val (.long ((100000 : Int64) + (((p2 &&& (3 : Int32)) - (2 : Int32)).toInt64))), .second, .unset] [(.int (1 : Int32))]))
        refine gv (fun tQ kQ => XS.istore X20.here hx rfl (hb hby at_239) rfl (l' := #[.val (.int p0), .val (.long p1), .second, .val (.int p2), .val (.int (1 : Int32)), .val (.ref A_ROUTE_QUEUES), .val (.long (100000 : Int64)), .second, .val (.int (1 : Int32)), .val (.long ((100000 : Int64) + (((p2 &&& (3 : Int32)) - (2 : Int32)).toInt64))), .second, .val (.int (1 : Int32))]) rfl kQ) ?_
        show G (T20.setTop (mkF me_ 241 #[.val (.int p0), .val (.long p1), .second, .val (.int p2), .val (.int (1 : Int32)), .val (.ref A_ROUTE_QUEUES), .val (.long (100000 : Int64)), .second, .val (.int (1 : Int32)), .val (.long ((100000 : Int64) + (((p2 &&& (3 : Int32)) - (2 : Int32)).toInt64))), .second, .val (.int (1 : Int32))] []))
        refine gv (fun tQ kQ => XS.iload X20.here hx rfl (hb hby at_241) rfl kQ) ?_
        show G (T20.setTop (mkF me_ 243 #[.val (.int p0), .val (.long p1), .second, .val (.int p2), .val (.int (1 : Int32)), .val (.ref A_ROUTE_QUEUES), .val (.long (100000 : Int64)), .second, .val (.int (1 : Int32)), .val (.long ((100000 : Int64) + (((p2 &&& (3 : Int32)) - (2 : Int32)).toInt64))), .second, .val (.int (1 : Int32))] [(.int (1 : Int32))]))
        refine gv (fun tQ kQ => XS.ifNo X20.here hx rfl (hb hby at_243) rfl ((if0 _ _).trans (feq (by decide : ¬ ((1 : Int32) = (0 : Int32)))).1) kQ) ?_
        show G (T20.setTop (mkF me_ 246 #[.val (.int p0), .val (.long p1), .second, .val (.int p2), .val (.int (1 : Int32)), .val (.ref A_ROUTE_QUEUES), .val (.long (100000 : Int64)), .second, .val (.int (1 : Int32)), .val (.long ((100000 : Int64) + (((p2 &&& (3 : Int32)) - (2 : Int32)).toInt64))), .second, .val (.int (1 : Int32))] []))
        refine gv (fun tQ kQ => XS.iload X20.here hx rfl (hb hby at_246) rfl kQ) ?_
        show G (T20.setTop (mkF me_ 248 #[.val (.int p0), .val (.long p1), .second, .val (.int p2), .val (.int (1 : Int32)), .val (.ref A_ROUTE_QUEUES), .val (.long (100000 : Int64)), .second, .val (.int (1 : Int32)), .val (.long ((100000 : Int64) + (((p2 &&& (3 : Int32)) - (2 : Int32)).toInt64))), .second, .val (.int (1 : Int32))] [(.int (1 : Int32))]))
        refine gv (fun tQ kQ => XS.ifNo X20.here hx rfl (hb hby at_248) rfl ((if0 _ _).trans (feq (by decide : ¬ ((1 : Int32) = (0 : Int32)))).1) kQ) ?_
        show G (T20.setTop (mkF me_ 251 #[.val (.int p0), .val (.long p1), .second, .val (.int p2), .val (.int (1 : Int32)), .val (.ref A_ROUTE_QUEUES), .val (.long (100000 : Int64)), .second, .val (.int (1 : Int32)), .val (.long ((100000 : Int64) + (((p2 &&& (3 : Int32)) - (2 : Int32)).toInt64))), .second, .val (.int (1 : Int32))] []))
        refine gv (fun tQ kQ => XS.iconst X20.here hx rfl (hb hby at_251) kQ) ?_
        show G (T20.setTop (mkF me_ 252 #[.val (.int p0), .val (.long p1), .second, .val (.int p2), .val (.int (1 : Int32)), .val (.ref A_ROUTE_QUEUES), .val (.long (100000 : Int64)), .second, .val (.int (1 : Int32)), .val (.long ((100000 : Int64) + (((p2 &&& (3 : Int32)) - (2 : Int32)).toInt64))), .second, .val (.int (1 : Int32))] [(.int (1 : Int32))]))
        refine gv (fun tQ kQ => XS.goto X20.here hx rfl (pc0 := 252) (pc' := 256) rfl (hb hby at_252) (by decide) (by decide) kQ) ?_
        show G (T20.setTop (mkF me_ 256 #[.val (.int p0), .val (.long p1), .second, .val (.int p2), .val (.int (1 : Int32)), .val (.ref A_ROUTE_QUEUES), .val (.long (100000 : Int64)), .second, .val (.int (1 : Int32)), .val (.long ((100000 : Int64) + (((p2 &&& (3 : Int32)) - (2 : Int32)).toInt64))), .second, .val (.int (1 : Int32))] [(.int (1 : Int32))]))
        refine gf _ (own_ret X20 Bd.notSynchronized (v := some (.int (1 : Int32))) (fun h => by rw [Bd.returns] at h; cases h) ?_ (by decide) (by decide) (fun fs hr => retN X20 hx (t := .boolean) Bd.returns (by simp) (hb hby at_256) hr))
        show Q0 Z p0 p1 p2 A_TOPICS A_ROUTE_QUEUES A_GROUPS A_MEMBERS A_GROUP_MEMBERS A_MEMBER_TOPICS A_QUEUES A_OFFSETS A_OPTIONS_BYTES h0 n0 _ T20.heap _
        rw [eq20]
        exact ⟨rfl, N21⟩
  · rw [q]
    show G (s₁.setTop (mkF me_ 9 #[.val (.int p0), .val (.long p1), .second, .val (.int p2), .val (.int (2 : Int32)), .unset, .unset, .unset, .unset, .unset, .unset, .unset] []))
    refine gv (fun tQ kQ => XS.iload X0.here hx rfl (hb hby at_9) rfl kQ) ?_
    show G (s₁.setTop (mkF me_ 11 #[.val (.int p0), .val (.long p1), .second, .val (.int p2), .val (.int (2 : Int32)), .unset, .unset, .unset, .unset, .unset, .unset, .unset] [(.int (2 : Int32))]))
    refine gv (fun tQ kQ => XS.ifYes X0.here hx rfl (pc0 := 11) (pc' := 27) rfl (hb hby at_11) rfl ((if0 _ _).trans (feq (by decide : ¬ ((2 : Int32) = (0 : Int32)))).2) (by decide) (by decide) kQ) ?_
    show G (s₁.setTop (mkF me_ 27 #[.val (.int p0), .val (.long p1), .second, .val (.int p2), .val (.int (2 : Int32)), .unset, .unset, .unset, .unset, .unset, .unset, .unset] []))
    refine gv (fun tQ kQ => XS.iload X0.here hx rfl (hb hby at_27) rfl kQ) ?_
    show G (s₁.setTop (mkF me_ 29 #[.val (.int p0), .val (.long p1), .second, .val (.int p2), .val (.int (2 : Int32)), .unset, .unset, .unset, .unset, .unset, .unset, .unset] [(.int (2 : Int32))]))
    refine gv (fun tQ kQ => XS.iconst X0.here hx rfl (hb hby at_29) kQ) ?_
    show G (s₁.setTop (mkF me_ 30 #[.val (.int p0), .val (.long p1), .second, .val (.int p2), .val (.int (2 : Int32)), .unset, .unset, .unset, .unset, .unset, .unset, .unset] [(.int (1 : Int32)), (.int (2 : Int32))]))
    refine gv (fun tQ kQ => XS.icmpYes X0.here hx rfl (pc0 := 30) (pc' := 46) rfl (hb hby at_30) rfl (feq (by decide : ¬ ((2 : Int32) = (1 : Int32)))).2 (by decide) (by decide) kQ) ?_
    show G (s₁.setTop (mkF me_ 46 #[.val (.int p0), .val (.long p1), .second, .val (.int p2), .val (.int (2 : Int32)), .unset, .unset, .unset, .unset, .unset, .unset, .unset] []))
    refine gv (fun tQ kQ => XS.iload X0.here hx rfl (hb hby at_46) rfl kQ) ?_
    show G (s₁.setTop (mkF me_ 48 #[.val (.int p0), .val (.long p1), .second, .val (.int p2), .val (.int (2 : Int32)), .unset, .unset, .unset, .unset, .unset, .unset, .unset] [(.int (2 : Int32))]))
    refine gv (fun tQ kQ => XS.iconst X0.here hx rfl (hb hby at_48) kQ) ?_
    show G (s₁.setTop (mkF me_ 49 #[.val (.int p0), .val (.long p1), .second, .val (.int p2), .val (.int (2 : Int32)), .unset, .unset, .unset, .unset, .unset, .unset, .unset] [(.int (2 : Int32)), (.int (2 : Int32))]))
    refine gv (fun tQ kQ => XS.icmpNo X0.here hx rfl (hb hby at_49) rfl (teq (by decide : (2 : Int32) = (2 : Int32))).2 kQ) ?_
    show G (s₁.setTop (mkF me_ 52 #[.val (.int p0), .val (.long p1), .second, .val (.int p2), .val (.int (2 : Int32)), .unset, .unset, .unset, .unset, .unset, .unset, .unset] []))
    obtain ⟨T23, X23, e23, st23⟩ := getS2 X0 hx hZ hown (host := "") (Or.inl (hw _ (List.mem_of_getElem? (i := 22) rfl))) Via.refl e0 (u2.ext O0.2) (g := (mkF me_ 52 #[.val (.int p0), .val (.long p1), .second, .val (.int p2), .val (.int (2 : Int32)), .unset, .unset, .unset, .unset, .unset, .unset, .unset] [])) rfl (hb hby at_52)
    refine gv st23 ?_
    show G (T23.setTop (mkF me_ 55 #[.val (.int p0), .val (.long p1), .second, .val (.int p2), .val (.int (2 : Int32)), .unset, .unset, .unset, .unset, .unset, .unset, .unset] [(.ref A_GROUPS)]))
    refine gv (fun tQ kQ => XS.astore X23.here hx rfl (hb hby at_55) rfl rfl (l' := #[.val (.int p0), .val (.long p1), .second, .val (.int p2), .val (.int (2 : Int32)), .val (.ref A_GROUPS), .unset, .unset, .unset, .unset, .unset, .unset]) rfl kQ) ?_
    show G (T23.setTop (mkF me_ 57 #[.val (.int p0), .val (.long p1), .second, .val (.int p2), .val (.int (2 : Int32)), .val (.ref A_GROUPS), .unset, .unset, .unset, .unset, .unset, .unset] []))
    refine gv (X23.ldc2Long hx hown (mvT hZ (hw _ (List.mem_of_getElem? (i := 24) rfl))) (g := (mkF me_ 57 #[.val (.int p0), .val (.long p1), .second, .val (.int p2), .val (.int (2 : Int32)), .val (.ref A_GROUPS), .unset, .unset, .unset, .unset, .unset, .unset] [])) rfl (hb hby at_57)) ?_
    show G (T23.setTop (mkF me_ 60 #[.val (.int p0), .val (.long p1), .second, .val (.int p2), .val (.int (2 : Int32)), .val (.ref A_GROUPS), .unset, .unset, .unset, .unset, .unset, .unset] [(.long (1000 : Int64))]))
    refine gv (fun tQ kQ => XS.lstore X23.here hx rfl (hb hby at_60) rfl (l' := #[.val (.int p0), .val (.long p1), .second, .val (.int p2), .val (.int (2 : Int32)), .val (.ref A_GROUPS), .val (.long (1000 : Int64)), .second, .unset, .unset, .unset, .unset]) rfl kQ) ?_
    show G (T23.setTop (mkF me_ 62 #[.val (.int p0), .val (.long p1), .second, .val (.int p2), .val (.int (2 : Int32)), .val (.ref A_GROUPS), .val (.long (1000 : Int64)), .second, .unset, .unset, .unset, .unset] []))
    refine gv (fun tQ kQ => XS.goto X23.here hx rfl (pc0 := 62) (pc' := 172) rfl (hb hby at_62) (by decide) (by decide) kQ) ?_
    show G (T23.setTop (mkF me_ 172 #[.val (.int p0), .val (.long p1), .second, .val (.int p2), .val (.int (2 : Int32)), .val (.ref A_GROUPS), .val (.long (1000 : Int64)), .second, .unset, .unset, .unset, .unset] []))
    refine gv (fun tQ kQ => XS.aload X23.here hx rfl (hb hby at_172) rfl rfl kQ) ?_
    show G (T23.setTop (mkF me_ 174 #[.val (.int p0), .val (.long p1), .second, .val (.int p2), .val (.int (2 : Int32)), .val (.ref A_GROUPS), .val (.long (1000 : Int64)), .second, .unset, .unset, .unset, .unset] [(.ref A_GROUPS)]))
    refine gv (fun tQ kQ => XS.lloadN X23.here hx rfl (hb hby at_174) rfl kQ) ?_
    show G (T23.setTop (mkF me_ 175 #[.val (.int p0), .val (.long p1), .second, .val (.int p2), .val (.int (2 : Int32)), .val (.ref A_GROUPS), .val (.long (1000 : Int64)), .second, .unset, .unset, .unset, .unset] [(.long p1), (.ref A_GROUPS)]))
    obtain ⟨cq24, kq24, q24a, q24b, q24c⟩ := isOf hZ e23 (u11.ext O0.2)
    obtain ⟨_, _, ⟨T24, L24, k24, n24⟩, -, X24, ⟨Lc24, hQ24, l24, y24, z24⟩, st24⟩ := X23.virtualBack hx (y := (⟨"com/example/slot1/slot1/server/Limit", "allows", "(J)Z"⟩ : MethodName)) (z := (⟨"com/example/slot1/slot1/server/Limit", "allows", "(J)Z"⟩ : MethodName)) hown (mvT hZ (hw _ (List.mem_of_getElem? (i := 5) rfl))) (mvT hZ (hw _ (List.mem_of_getElem? (i := 6) rfl))) (notFace_of_selects (args := #[]) (mvT hZ (hw _ (List.mem_of_getElem? (i := 8) rfl)))) (mvT hZ (hw _ (List.mem_of_getElem? (i := 8) rfl))) (mvT hZ (hw _ (List.mem_of_getElem? (i := 7) rfl))) (by decide) (backOf (W := 0) (rm_allows l Z a0 hw [] A_GROUPS p1 (1000 : Int64) h0 n0 O0 (u20.ext O0.2)) hZ (hw _ (List.mem_of_getElem? (i := 9) rfl)) (hw _ (List.mem_of_getElem? (i := 2) rfl)) (by decide) (by decide)) q24a q24c (g := (mkF me_ 175 #[.val (.int p0), .val (.long p1), .second, .val (.int p2), .val (.int (2 : Int32)), .val (.ref A_GROUPS), .val (.long (1000 : Int64)), .second, .unset, .unset, .unset, .unset] [(.long p1), (.ref A_GROUPS)])) rfl (by rw [hml]; rfl) (Steps.refl _) (argsL := [(.long p1)]) (rest := []) (lenOf pd_0 rfl) rfl (by show 2 * 0 + _ ≤ _; exact Nat.le_of_eq rfl) (hb hby at_175) (fun _ _ => ⟨rfl, e23, (by decide : 0 + 0 ≤ _), (by decide : 0 + 0 ≤ _)⟩)
    dsimp only [Pt.U, Pt.locs, Pt.cells, Pt.slots] at X24 l24 y24 z24 st24 hQ24
    subst l24 y24 z24
    obtain ⟨rfl, Nq24, eq24⟩ := hQ24
    have N25 := Fr.app N0 Nq24
    by_cases hb26 : (1000 : Int64) < p1
    · rw [if_pos hb26] at st24
      refine gv (fun tQ kQ => st24.trans kQ) ?_
      show G (T24.setTop (mkF me_ 178 #[.val (.int p0), .val (.long p1), .second, .val (.int p2), .val (.int (2 : Int32)), .val (.ref A_GROUPS), .val (.long (1000 : Int64)), .second, .unset, .unset, .unset, .unset] [(.int (0 : Int32))]))
      refine gv (fun tQ kQ => XS.lloadN X24.here hx rfl (hb hby at_178) rfl kQ) ?_
      show G (T24.setTop (mkF me_ 179 #[.val (.int p0), .val (.long p1), .second, .val (.int p2), .val (.int (2 : Int32)), .val (.ref A_GROUPS), .val (.long (1000 : Int64)), .second, .unset, .unset, .unset, .unset] [(.long p1), (.int (0 : Int32))]))
      refine gv (fun tQ kQ => XS.lload X24.here hx rfl (hb hby at_179) rfl kQ) ?_
      show G (T24.setTop (mkF me_ 181 #[.val (.int p0), .val (.long p1), .second, .val (.int p2), .val (.int (2 : Int32)), .val (.ref A_GROUPS), .val (.long (1000 : Int64)), .second, .unset, .unset, .unset, .unset] [(.long (1000 : Int64)), (.long p1), (.int (0 : Int32))]))
      refine gv (fun tQ kQ => XS.lcmp X24.here hx rfl (hb hby at_181) rfl kQ) ?_
      show G (T24.setTop (mkF me_ 182 #[.val (.int p0), .val (.long p1), .second, .val (.int p2), .val (.int (2 : Int32)), .val (.ref A_GROUPS), .val (.long (1000 : Int64)), .second, .unset, .unset, .unset, .unset] [(.int (lcmpW p1 (1000 : Int64))), (.int (0 : Int32))]))
      refine gv (fun tQ kQ => XS.ifYes X24.here hx rfl (pc0 := 182) (pc' := 189) rfl (hb hby at_182) rfl ((if0 _ _).trans (tlt ((lw_gt _ _).mpr hb26)).2.2.1) (by decide) (by decide) kQ) ?_
      show G (T24.setTop (mkF me_ 189 #[.val (.int p0), .val (.long p1), .second, .val (.int p2), .val (.int (2 : Int32)), .val (.ref A_GROUPS), .val (.long (1000 : Int64)), .second, .unset, .unset, .unset, .unset] [(.int (0 : Int32))]))
      refine gv (fun tQ kQ => XS.iconst X24.here hx rfl (hb hby at_189) kQ) ?_
      show G (T24.setTop (mkF me_ 190 #[.val (.int p0), .val (.long p1), .second, .val (.int p2), .val (.int (2 : Int32)), .val (.ref A_GROUPS), .val (.long (1000 : Int64)), .second, .unset, .unset, .unset, .unset] [(.int (0 : Int32)), (.int (0 : Int32))]))
      refine gv (fun tQ kQ => XS.icmpNo X24.here hx rfl (hb hby at_190) rfl (teq (by decide : (0 : Int32) = (0 : Int32))).2 kQ) ?_
      show G (T24.setTop (mkF me_ 193 #[.val (.int p0), .val (.long p1), .second, .val (.int p2), .val (.int (2 : Int32)), .val (.ref A_GROUPS), .val (.long (1000 : Int64)), .second, .unset, .unset, .unset, .unset] []))
      refine gv (fun tQ kQ => XS.iconst X24.here hx rfl (hb hby at_193) kQ) ?_
      show G (T24.setTop (mkF me_ 194 #[.val (.int p0), .val (.long p1), .second, .val (.int p2), .val (.int (2 : Int32)), .val (.ref A_GROUPS), .val (.long (1000 : Int64)), .second, .unset, .unset, .unset, .unset] [(.int (1 : Int32))]))
      refine gv (fun tQ kQ => XS.goto X24.here hx rfl (pc0 := 194) (pc' := 198) rfl (hb hby at_194) (by decide) (by decide) kQ) ?_
      show G (T24.setTop (mkF me_ 198 #[.val (.int p0), .val (.long p1), .second, .val (.int p2), .val (.int (2 : Int32)), .val (.ref A_GROUPS), .val (.long (1000 : Int64)), .second, .unset, .unset, .unset, .unset] [(.int (1 : Int32))]))
      refine gv (fun tQ kQ => XS.istore X24.here hx rfl (hb hby at_198) rfl (l' := #[.val (.int p0), .val (.long p1), .second, .val (.int p2), .val (.int (2 : Int32)), .val (.ref A_GROUPS), .val (.long (1000 : Int64)), .second, .val (.int (1 : Int32)), .unset, .unset, .unset]) rfl kQ) ?_
      show G (T24.setTop (mkF me_ 200 #[.val (.int p0), .val (.long p1), .second, .val (.int p2), .val (.int (2 : Int32)), .val (.ref A_GROUPS), .val (.long (1000 : Int64)), .second, .val (.int (1 : Int32)), .unset, .unset, .unset] []))
      refine gv (fun tQ kQ => XS.lload X24.here hx rfl (hb hby at_200) rfl kQ) ?_
      show G (T24.setTop (mkF me_ 202 #[.val (.int p0), .val (.long p1), .second, .val (.int p2), .val (.int (2 : Int32)), .val (.ref A_GROUPS), .val (.long (1000 : Int64)), .second, .val (.int (1 : Int32)), .unset, .unset, .unset] [(.long (1000 : Int64))]))
      refine gv (fun tQ kQ => XS.iloadN X24.here hx rfl (hb hby at_202) rfl kQ) ?_
      show G (T24.setTop (mkF me_ 203 #[.val (.int p0), .val (.long p1), .second, .val (.int p2), .val (.int (2 : Int32)), .val (.ref A_GROUPS), .val (.long (1000 : Int64)), .second, .val (.int (1 : Int32)), .unset, .unset, .unset] [(.int p2), (.long (1000 : Int64))]))
      refine gv (fun tQ kQ => XS.iconst X24.here hx rfl (hb hby at_203) kQ) ?_
      show G (T24.setTop (mkF me_ 204 #[.val (.int p0), .val (.long p1), .second, .val (.int p2), .val (.int (2 : Int32)), .val (.ref A_GROUPS), .val (.long (1000 : Int64)), .second, .val (.int (1 : Int32)), .unset, .unset, .unset] [(.int (3 : Int32)), (.int p2), (.long (1000 : Int64))]))
      refine gv (fun tQ kQ => XS.iand X24.here hx rfl (hb hby at_204) rfl kQ) ?_
      show G (T24.setTop (mkF me_ 205 #[.val (.int p0), .val (.long p1), .second, .val (.int p2), .val (.int (2 : Int32)), .val (.ref A_GROUPS), .val (.long (1000 : Int64)), .second, .val (.int (1 : Int32)), .unset, .unset, .unset] [(.int (p2 &&& (3 : Int32))), (.long (1000 : Int64))]))
      refine gv (fun tQ kQ => XS.iconst X24.here hx rfl (hb hby at_205) kQ) ?_
      show G (T24.setTop (mkF me_ 206 #[.val (.int p0), .val (.long p1), .second, .val (.int p2), .val (.int (2 : Int32)), .val (.ref A_GROUPS), .val (.long (1000 : Int64)), .second, .val (.int (1 : Int32)), .unset, .unset, .unset] [(.int (2 : Int32)), (.int (p2 &&& (3 : Int32))), (.long (1000 : Int64))]))
      refine gv (fun tQ kQ => XS.isub X24.here hx rfl (hb hby at_206) rfl kQ) ?_
      show G (T24.setTop (mkF me_ 207 #[.val (.int p0), .val (.long p1), .second, .val (.int p2), .val (.int (2 : Int32)), .val (.ref A_GROUPS), .val (.long (1000 : Int64)), .second, .val (.int (1 : Int32)), .unset, .unset, .unset] [(.int ((p2 &&& (3 : Int32)) - (2 : Int32))), (.long (1000 : Int64))]))
      refine gv (fun tQ kQ => XS.i2l X24.here hx rfl (hb hby at_207) rfl kQ) ?_
      show G (T24.setTop (mkF me_ 208 #[.val (.int p0), .val (.long p1), .second, .val (.int p2), .val (.int (2 : Int32)), .val (.ref A_GROUPS), .val (.long (1000 : Int64)), .second, .val (.int (1 : Int32)), .unset, .unset, .unset] [(.long (((p2 &&& (3 : Int32)) - (2 : Int32)).toInt64)), (.long (1000 : Int64))]))
      refine gv (fun tQ kQ => XS.ladd X24.here hx rfl (hb hby at_208) rfl kQ) ?_
      show G (T24.setTop (mkF me_ 209 #[.val (.int p0), .val (.long p1), .second, .val (.int p2), .val (.int (2 : Int32)), .val (.ref A_GROUPS), .val (.long (1000 : Int64)), .second, .val (.int (1 : Int32)), .unset, .unset, .unset] [(.long ((1000 : Int64) + (((p2 &&& (3 : Int32)) - (2 : Int32)).toInt64)))]))
      refine gv (fun tQ kQ => XS.lstore X24.here hx rfl (hb hby at_209) rfl (l' := #[.val (.int p0), .val (.long p1), .second, .val (.int p2), .val (.int (2 : Int32)), .val (.ref A_GROUPS), .val (.long (1000 : Int64)), .second, .val (.int (1 : Int32)), .val (.long ((1000 : Int64) + (((p2 &&& (3 : Int32)) - (2 : Int32)).toInt64))), .second, .unset]) rfl kQ) ?_
      show G (T24.setTop (mkF me_ 211 #[.val (.int p0), .val (.long p1), .second, .val (.int p2), .val (.int (2 : Int32)), .val (.ref A_GROUPS), .val (.long (1000 : Int64)), .second, .val (.int (1 : Int32)), .val (.long ((1000 : Int64) + (((p2 &&& (3 : Int32)) - (2 : Int32)).toInt64))), .second, .unset] []))
      refine gv (fun tQ kQ => XS.aload X24.here hx rfl (hb hby at_211) rfl rfl kQ) ?_
      show G (T24.setTop (mkF me_ 213 #[.val (.int p0), .val (.long p1), .second, .val (.int p2), .val (.int (2 : Int32)), .val (.ref A_GROUPS), .val (.long (1000 : Int64)), .second, .val (.int (1 : Int32)), .val (.long ((1000 : Int64) + (((p2 &&& (3 : Int32)) - (2 : Int32)).toInt64))), .second, .unset] [(.ref A_GROUPS)]))
      refine gv (fun tQ kQ => XS.lload X24.here hx rfl (hb hby at_213) rfl kQ) ?_
      show G (T24.setTop (mkF me_ 215 #[.val (.int p0), .val (.long p1), .second, .val (.int p2), .val (.int (2 : Int32)), .val (.ref A_GROUPS), .val (.long (1000 : Int64)), .second, .val (.int (1 : Int32)), .val (.long ((1000 : Int64) + (((p2 &&& (3 : Int32)) - (2 : Int32)).toInt64))), .second, .unset] [(.long ((1000 : Int64) + (((p2 &&& (3 : Int32)) - (2 : Int32)).toInt64))), (.ref A_GROUPS)]))
      obtain ⟨cq27, kq27, q27a, q27b, q27c⟩ := isOf hZ eq24 (u11.ext O0.2)
      obtain ⟨_, _, ⟨T27, L27, k27, n27⟩, -, X27, ⟨Lc27, hQ27, l27, y27, z27⟩, st27⟩ := X24.virtualBack hx (y := (⟨"com/example/slot1/slot1/server/Limit", "allows", "(J)Z"⟩ : MethodName)) (z := (⟨"com/example/slot1/slot1/server/Limit", "allows", "(J)Z"⟩ : MethodName)) hown (mvT hZ (hw _ (List.mem_of_getElem? (i := 5) rfl))) (mvT hZ (hw _ (List.mem_of_getElem? (i := 6) rfl))) (notFace_of_selects (args := #[]) (mvT hZ (hw _ (List.mem_of_getElem? (i := 8) rfl)))) (mvT hZ (hw _ (List.mem_of_getElem? (i := 8) rfl))) (mvT hZ (hw _ (List.mem_of_getElem? (i := 7) rfl))) (by decide) (backOf (W := 0) (rm_allows l Z a0 hw [] A_GROUPS ((1000 : Int64) + (((p2 &&& (3 : Int32)) - (2 : Int32)).toInt64)) (1000 : Int64) h0 n0 O0 (u20.ext O0.2)) hZ (hw _ (List.mem_of_getElem? (i := 9) rfl)) (hw _ (List.mem_of_getElem? (i := 2) rfl)) (by decide) (by decide)) q27a q27c (g := (mkF me_ 215 #[.val (.int p0), .val (.long p1), .second, .val (.int p2), .val (.int (2 : Int32)), .val (.ref A_GROUPS), .val (.long (1000 : Int64)), .second, .val (.int (1 : Int32)), .val (.long ((1000 : Int64) + (((p2 &&& (3 : Int32)) - (2 : Int32)).toInt64))), .second, .unset] [(.long ((1000 : Int64) + (((p2 &&& (3 : Int32)) - (2 : Int32)).toInt64))), (.ref A_GROUPS)])) rfl (by rw [hml]; rfl) (Steps.refl _) (argsL := [(.long ((1000 : Int64) + (((p2 &&& (3 : Int32)) - (2 : Int32)).toInt64)))]) (rest := []) (lenOf pd_0 rfl) rfl (by show 2 * 0 + _ ≤ _; exact Nat.le_of_eq rfl) (hb hby at_215) (fun _ _ => ⟨rfl, eq24, (by decide : 0 + 0 ≤ _), (by decide : 0 + 0 ≤ _)⟩)
      dsimp only [Pt.U, Pt.locs, Pt.cells, Pt.slots] at X27 l27 y27 z27 st27 hQ27
      subst l27 y27 z27
      obtain ⟨rfl, Nq27, eq27⟩ := hQ27
      have N28 := Fr.app N25 Nq27
      by_cases hb29 : (1000 : Int64) < ((1000 : Int64) + (((p2 &&& (3 : Int32)) - (2 : Int32)).toInt64))
      · rw [if_pos hb29] at st27
        refine gv (fun tQ kQ => st27.trans kQ) ?_
        show G (T27.setTop (mkF me_ 218 #[.val (.int p0), .val (.long p1), .second, .val (.int p2), .val (.int (2 : Int32)), .val (.ref A_GROUPS), .val (.long (1000 : Int64)), .second, .val (.int (1 : Int32)), .val (.long ((1000 : Int64) + (((p2 &&& (3 : Int32)) - (2 : Int32)).toInt64))), .second, .unset] [(.int (0 : Int32))]))
        refine gv (fun tQ kQ => XS.lload X27.here hx rfl (hb hby at_218) rfl kQ) ?_
        show G (T27.setTop (mkF me_ 220 #[.val (.int p0), .val (.long p1), .second, .val (.int p2), .val (.int (2 : Int32)), .val (.ref A_GROUPS), .val (.long (1000 : Int64)), .second, .val (.int (1 : Int32)), .val (.long ((1000 : Int64) + (((p2 &&& (3 : Int32)) - (2 : Int32)).toInt64))), .second, .unset] [(.long ((1000 : Int64) + (((p2 &&& (3 : Int32)) - (2 : Int32)).toInt64))), (.int (0 : Int32))]))
        refine gv (fun tQ kQ => XS.lload X27.here hx rfl (hb hby at_220) rfl kQ) ?_
        show G (T27.setTop (mkF me_ 222 #[.val (.int p0), .val (.long p1), .second, .val (.int p2), .val (.int (2 : Int32)), .val (.ref A_GROUPS), .val (.long (1000 : Int64)), .second, .val (.int (1 : Int32)), .val (.long ((1000 : Int64) + (((p2 &&& (3 : Int32)) - (2 : Int32)).toInt64))), .second, .unset] [(.long (1000 : Int64)), (.long ((1000 : Int64) + (((p2 &&& (3 : Int32)) - (2 : Int32)).toInt64))), (.int (0 : Int32))]))
        refine gv (fun tQ kQ => XS.lcmp X27.here hx rfl (hb hby at_222) rfl kQ) ?_
        show G (T27.setTop (mkF me_ 223 #[.val (.int p0), .val (.long p1), .second, .val (.int p2), .val (.int (2 : Int32)), .val (.ref A_GROUPS), .val (.long (1000 : Int64)), .second, .val (.int (1 : Int32)), .val (.long ((1000 : Int64) + (((p2 &&& (3 : Int32)) - (2 : Int32)).toInt64))), .second, .unset] [(.int (lcmpW ((1000 : Int64) + (((p2 &&& (3 : Int32)) - (2 : Int32)).toInt64)) (1000 : Int64))), (.int (0 : Int32))]))
        refine gv (fun tQ kQ => XS.ifYes X27.here hx rfl (pc0 := 223) (pc' := 230) rfl (hb hby at_223) rfl ((if0 _ _).trans (tlt ((lw_gt _ _).mpr hb29)).2.2.1) (by decide) (by decide) kQ) ?_
        show G (T27.setTop (mkF me_ 230 #[.val (.int p0), .val (.long p1), .second, .val (.int p2), .val (.int (2 : Int32)), .val (.ref A_GROUPS), .val (.long (1000 : Int64)), .second, .val (.int (1 : Int32)), .val (.long ((1000 : Int64) + (((p2 &&& (3 : Int32)) - (2 : Int32)).toInt64))), .second, .unset] [(.int (0 : Int32))]))
        refine gv (fun tQ kQ => XS.iconst X27.here hx rfl (hb hby at_230) kQ) ?_
        show G (T27.setTop (mkF me_ 231 #[.val (.int p0), .val (.long p1), .second, .val (.int p2), .val (.int (2 : Int32)), .val (.ref A_GROUPS), .val (.long (1000 : Int64)), .second, .val (.int (1 : Int32)), .val (.long ((1000 : Int64) + (((p2 &&& (3 : Int32)) - (2 : Int32)).toInt64))), .second, .unset] [(.int (0 : Int32)), (.int (0 : Int32))]))
        refine gv (fun tQ kQ => XS.icmpNo X27.here hx rfl (hb hby at_231) rfl (teq (by decide : (0 : Int32) = (0 : Int32))).2 kQ) ?_
        show G (T27.setTop (mkF me_ 234 #[.val (.int p0), .val (.long p1), .second, .val (.int p2), .val (.int (2 : Int32)), .val (.ref A_GROUPS), .val (.long (1000 : Int64)), .second, .val (.int (1 : Int32)), .val (.long ((1000 : Int64) + (((p2 &&& (3 : Int32)) - (2 : Int32)).toInt64))), .second, .unset] []))
        refine gv (fun tQ kQ => XS.iconst X27.here hx rfl (hb hby at_234) kQ) ?_
        show G (T27.setTop (mkF me_ 235 #[.val (.int p0), .val (.long p1), .second, .val (.int p2), .val (.int (2 : Int32)), .val (.ref A_GROUPS), .val (.long (1000 : Int64)), .second, .val (.int (1 : Int32)), .val (.long ((1000 : Int64) + (((p2 &&& (3 : Int32)) - (2 : Int32)).toInt64))), .second, .unset] [(.int (1 : Int32))]))
        refine gv (fun tQ kQ => XS.goto X27.here hx rfl (pc0 := 235) (pc' := 239) rfl (hb hby at_235) (by decide) (by decide) kQ) ?_
        show G (T27.setTop (mkF me_ 239 #[.val (.int p0), .val (.long p1), .second, .val (.int p2), .val (.int (2 : Int32)), .val (.ref A_GROUPS), .val (.long (1000 : Int64)), .second, .val (.int (1 : Int32)), .val (.long ((1000 : Int64) + (((p2 &&& (3 : Int32)) - (2 : Int32)).toInt64))), .second, .unset] [(.int (1 : Int32))]))
        refine gv (fun tQ kQ => XS.istore X27.here hx rfl (hb hby at_239) rfl (l' := #[.val (.int p0), .val (.long p1), .second, .val (.int p2), .val (.int (2 : Int32)), .val (.ref A_GROUPS), .val (.long (1000 : Int64)), .second, .val (.int (1 : Int32)), .val (.long ((1000 : Int64) + (((p2 &&& (3 : Int32)) - (2 : Int32)).toInt64))), .second, .val (.int (1 : Int32))]) rfl kQ) ?_
        show G (T27.setTop (mkF me_ 241 #[.val (.int p0), .val (.long p1), .second, .val (.int p2), .val (.int (2 : Int32)), .val (.ref A_GROUPS), .val (.long (1000 : Int64)), .second, .val (.int (1 : Int32)), .val (.long ((1000 : Int64) + (((p2 &&& (3 : Int32)) - (2 : Int32)).toInt64))), .second, .val (.int (1 : Int32))] []))
        refine gv (fun tQ kQ => XS.iload X27.here hx rfl (hb hby at_241) rfl kQ) ?_
        show G (T27.setTop (mkF me_ 243 #[.val (.int p0), .val (.long p1), .second, .val (.int p2), .val (.int (2 : Int32)), .val (.ref A_GROUPS), .val (.long (1000 : Int64)), .second, .val (.int (1 : Int32)), .val (.long ((1000 : Int64) + (((p2 &&& (3 : Int32)) - (2 : Int32)).toInt64))), .second, .val (.int (1 : Int32))] [(.int (1 : Int32))]))
        refine gv (fun tQ kQ => XS.ifNo X27.here hx rfl (hb hby at_243) rfl ((if0 _ _).trans (feq (by decide : ¬ ((1 : Int32) = (0 : Int32)))).1) kQ) ?_
        show G (T27.setTop (mkF me_ 246 #[.val (.int p0), .val (.long p1), .second, .val (.int p2), .val (.int (2 : Int32)), .val (.ref A_GROUPS), .val (.long (1000 : Int64)), .second, .val (.int (1 : Int32)), .val (.long ((1000 : Int64) + (((p2 &&& (3 : Int32)) - (2 : Int32)).toInt64))), .second, .val (.int (1 : Int32))] []))
        refine gv (fun tQ kQ => XS.iload X27.here hx rfl (hb hby at_246) rfl kQ) ?_
        show G (T27.setTop (mkF me_ 248 #[.val (.int p0), .val (.long p1), .second, .val (.int p2), .val (.int (2 : Int32)), .val (.ref A_GROUPS), .val (.long (1000 : Int64)), .second, .val (.int (1 : Int32)), .val (.long ((1000 : Int64) + (((p2 &&& (3 : Int32)) - (2 : Int32)).toInt64))), .second, .val (.int (1 : Int32))] [(.int (1 : Int32))]))
        refine gv (fun tQ kQ => XS.ifNo X27.here hx rfl (hb hby at_248) rfl ((if0 _ _).trans (feq (by decide : ¬ ((1 : Int32) = (0 : Int32)))).1) kQ) ?_
        show G (T27.setTop (mkF me_ 251 #[.val (.int p0), .val (.long p1), .second, .val (.int p2), .val (.int (2 : Int32)), .val (.ref A_GROUPS), .val (.long (1000 : Int64)), .second, .val (.int (1 : Int32)), .val (.long ((1000 : Int64) + (((p2 &&& (3 : Int32)) - (2 : Int32)).toInt64))), .second, .val (.int (1 : Int32))] []))
        refine gv (fun tQ kQ => XS.iconst X27.here hx rfl (hb hby at_251) kQ) ?_
        show G (T27.setTop (mkF me_ 252 #[.val (.int p0), .val (.long p1), .second, .val (.int p2), .val (.int (2 : Int32)), .val (.ref A_GROUPS), .val (.long (1000 : Int64)), .second, .val (.int (1 : Int32)), .val (.long ((1000 : Int64) + (((p2 &&& (3 : Int32)) - (2 : Int32)).toInt64))), .second, .val (.int (1 : Int32))] [(.int (1 : Int32))]))
        refine gv (fun tQ kQ => XS.goto X27.here hx rfl (pc0 := 252) (pc' := 256) rfl (hb hby at_252) (by decide) (by decide) kQ) ?_
        show G (T27.setTop (mkF me_ 256 #[.val (.int p0), .val (.long p1), .second, .val (.int p2), .val (.int (2 : Int32)), .val (.ref A_GROUPS), .val (.long (1000 : Int64)), .second, .val (.int (1 : Int32)), .val (.long ((1000 : Int64) + (((p2 &&& (3 : Int32)) - (2 : Int32)).toInt64))), .second, .val (.int (1 : Int32))] [(.int (1 : Int32))]))
        refine gf _ (own_ret X27 Bd.notSynchronized (v := some (.int (1 : Int32))) (fun h => by rw [Bd.returns] at h; cases h) ?_ (by decide) (by decide) (fun fs hr => retN X27 hx (t := .boolean) Bd.returns (by simp) (hb hby at_256) hr))
        show Q0 Z p0 p1 p2 A_TOPICS A_ROUTE_QUEUES A_GROUPS A_MEMBERS A_GROUP_MEMBERS A_MEMBER_TOPICS A_QUEUES A_OFFSETS A_OPTIONS_BYTES h0 n0 _ T27.heap _
        rw [eq27]
        exact ⟨rfl, N28⟩
      · skip
        rw [if_neg hb29] at st27
        refine gv (fun tQ kQ => st27.trans kQ) ?_
        show G (T27.setTop (mkF me_ 218 #[.val (.int p0), .val (.long p1), .second, .val (.int p2), .val (.int (2 : Int32)), .val (.ref A_GROUPS), .val (.long (1000 : Int64)), .second, .val (.int (1 : Int32)), .val (.long ((1000 : Int64) + (((p2 &&& (3 : Int32)) - (2 : Int32)).toInt64))), .second, .unset] [(.int (1 : Int32))]))
        refine gv (fun tQ kQ => XS.lload X27.here hx rfl (hb hby at_218) rfl kQ) ?_
        show G (T27.setTop (mkF me_ 220 #[.val (.int p0), .val (.long p1), .second, .val (.int p2), .val (.int (2 : Int32)), .val (.ref A_GROUPS), .val (.long (1000 : Int64)), .second, .val (.int (1 : Int32)), .val (.long ((1000 : Int64) + (((p2 &&& (3 : Int32)) - (2 : Int32)).toInt64))), .second, .unset] [(.long ((1000 : Int64) + (((p2 &&& (3 : Int32)) - (2 : Int32)).toInt64))), (.int (1 : Int32))]))
        refine gv (fun tQ kQ => XS.lload X27.here hx rfl (hb hby at_220) rfl kQ) ?_
        show G (T27.setTop (mkF me_ 222 #[.val (.int p0), .val (.long p1), .second, .val (.int p2), .val (.int (2 : Int32)), .val (.ref A_GROUPS), .val (.long (1000 : Int64)), .second, .val (.int (1 : Int32)), .val (.long ((1000 : Int64) + (((p2 &&& (3 : Int32)) - (2 : Int32)).toInt64))), .second, .unset] [(.long (1000 : Int64)), (.long ((1000 : Int64) + (((p2 &&& (3 : Int32)) - (2 : Int32)).toInt64))), (.int (1 : Int32))]))
        refine gv (fun tQ kQ => XS.lcmp X27.here hx rfl (hb hby at_222) rfl kQ) ?_
        show G (T27.setTop (mkF me_ 223 #[.val (.int p0), .val (.long p1), .second, .val (.int p2), .val (.int (2 : Int32)), .val (.ref A_GROUPS), .val (.long (1000 : Int64)), .second, .val (.int (1 : Int32)), .val (.long ((1000 : Int64) + (((p2 &&& (3 : Int32)) - (2 : Int32)).toInt64))), .second, .unset] [(.int (lcmpW ((1000 : Int64) + (((p2 &&& (3 : Int32)) - (2 : Int32)).toInt64)) (1000 : Int64))), (.int (1 : Int32))]))
        refine gv (fun tQ kQ => XS.ifNo X27.here hx rfl (hb hby at_223) rfl ((if0 _ _).trans (flt (mt (lw_gt _ _).mp hb29)).2.2.1) kQ) ?_
        show G (T27.setTop (mkF me_ 226 #[.val (.int p0), .val (.long p1), .second, .val (.int p2), .val (.int (2 : Int32)), .val (.ref A_GROUPS), .val (.long (1000 : Int64)), .second, .val (.int (1 : Int32)), .val (.long ((1000 : Int64) + (((p2 &&& (3 : Int32)) - (2 : Int32)).toInt64))), .second, .unset] [(.int (1 : Int32))]))
        refine gv (fun tQ kQ => XS.iconst X27.here hx rfl (hb hby at_226) kQ) ?_
        show G (T27.setTop (mkF me_ 227 #[.val (.int p0), .val (.long p1), .second, .val (.int p2), .val (.int (2 : Int32)), .val (.ref A_GROUPS), .val (.long (1000 : Int64)), .second, .val (.int (1 : Int32)), .val (.long ((1000 : Int64) + (((p2 &&& (3 : Int32)) - (2 : Int32)).toInt64))), .second, .unset] [(.int (1 : Int32)), (.int (1 : Int32))]))
        refine gv (fun tQ kQ => XS.goto X27.here hx rfl (pc0 := 227) (pc' := 231) rfl (hb hby at_227) (by decide) (by decide) kQ) ?_
        show G (T27.setTop (mkF me_ 231 #[.val (.int p0), .val (.long p1), .second, .val (.int p2), .val (.int (2 : Int32)), .val (.ref A_GROUPS), .val (.long (1000 : Int64)), .second, .val (.int (1 : Int32)), .val (.long ((1000 : Int64) + (((p2 &&& (3 : Int32)) - (2 : Int32)).toInt64))), .second, .unset] [(.int (1 : Int32)), (.int (1 : Int32))]))
        refine gv (fun tQ kQ => XS.icmpNo X27.here hx rfl (hb hby at_231) rfl (teq (by decide : (1 : Int32) = (1 : Int32))).2 kQ) ?_
        show G (T27.setTop (mkF me_ 234 #[.val (.int p0), .val (.long p1), .second, .val (.int p2), .val (.int (2 : Int32)), .val (.ref A_GROUPS), .val (.long (1000 : Int64)), .second, .val (.int (1 : Int32)), .val (.long ((1000 : Int64) + (((p2 &&& (3 : Int32)) - (2 : Int32)).toInt64))), .second, .unset] []))
        refine gv (fun tQ kQ => XS.iconst X27.here hx rfl (hb hby at_234) kQ) ?_
        show G (T27.setTop (mkF me_ 235 #[.val (.int p0), .val (.long p1), .second, .val (.int p2), .val (.int (2 : Int32)), .val (.ref A_GROUPS), .val (.long (1000 : Int64)), .second, .val (.int (1 : Int32)), .val (.long ((1000 : Int64) + (((p2 &&& (3 : Int32)) - (2 : Int32)).toInt64))), .second, .unset] [(.int (1 : Int32))]))
        refine gv (fun tQ kQ => XS.goto X27.here hx rfl (pc0 := 235) (pc' := 239) rfl (hb hby at_235) (by decide) (by decide) kQ) ?_
        show G (T27.setTop (mkF me_ 239 #[.val (.int p0), .val (.long p1), .second, .val (.int p2), .val (.int (2 : Int32)), .val (.ref A_GROUPS), .val (.long (1000 : Int64)), .second, .val (.int (1 : Int32)), .val (.long ((1000 : Int64) + (((p2 &&& (3 : Int32)) - (2 : Int32)).toInt64))), .second, .unset] [(.int (1 : Int32))]))
        refine gv (fun tQ kQ => XS.istore X27.here hx rfl (hb hby at_239) rfl (l' := #[.val (.int p0), .val (.long p1), .second, .val (.int p2), .val (.int (2 : Int32)), .val (.ref A_GROUPS), .val (.long (1000 : Int64)), .second, .val (.int (1 : Int32)), .val (.long ((1000 : Int64) + (((p2 &&& (3 : Int32)) - (2 : Int32)).toInt64))), .second, .val (.int (1 : Int32))]) rfl kQ) ?_
        show G (T27.setTop (mkF me_ 241 #[.val (.int p0), .val (.long p1), .second, .val (.int p2), .val (.int (2 : Int32)), .val (.ref A_GROUPS), .val (.long (1000 : Int64)), .second, .val (.int (1 : Int32)), .val (.long ((1000 : Int64) + (((p2 &&& (3 : Int32)) - (2 : Int32)).toInt64))), .second, .val (.int (1 : Int32))] []))
        refine gv (fun tQ kQ => XS.iload X27.here hx rfl (hb hby at_241) rfl kQ) ?_
        show G (T27.setTop (mkF me_ 243 #[.val (.int p0), .val (.long p1), .second, .val (.int p2), .val (.int (2 : Int32)), .val (.ref A_GROUPS), .val (.long (1000 : Int64)), .second, .val (.int (1 : Int32)), .val (.long ((1000 : Int64) + (((p2 &&& (3 : Int32)) - (2 : Int32)).toInt64))), .second, .val (.int (1 : Int32))] [(.int (1 : Int32))]))
        refine gv (fun tQ kQ => XS.ifNo X27.here hx rfl (hb hby at_243) rfl ((if0 _ _).trans (feq (by decide : ¬ ((1 : Int32) = (0 : Int32)))).1) kQ) ?_
        show G (T27.setTop (mkF me_ 246 #[.val (.int p0), .val (.long p1), .second, .val (.int p2), .val (.int (2 : Int32)), .val (.ref A_GROUPS), .val (.long (1000 : Int64)), .second, .val (.int (1 : Int32)), .val (.long ((1000 : Int64) + (((p2 &&& (3 : Int32)) - (2 : Int32)).toInt64))), .second, .val (.int (1 : Int32))] []))
        refine gv (fun tQ kQ => XS.iload X27.here hx rfl (hb hby at_246) rfl kQ) ?_
        show G (T27.setTop (mkF me_ 248 #[.val (.int p0), .val (.long p1), .second, .val (.int p2), .val (.int (2 : Int32)), .val (.ref A_GROUPS), .val (.long (1000 : Int64)), .second, .val (.int (1 : Int32)), .val (.long ((1000 : Int64) + (((p2 &&& (3 : Int32)) - (2 : Int32)).toInt64))), .second, .val (.int (1 : Int32))] [(.int (1 : Int32))]))
        refine gv (fun tQ kQ => XS.ifNo X27.here hx rfl (hb hby at_248) rfl ((if0 _ _).trans (feq (by decide : ¬ ((1 : Int32) = (0 : Int32)))).1) kQ) ?_
        show G (T27.setTop (mkF me_ 251 #[.val (.int p0), .val (.long p1), .second, .val (.int p2), .val (.int (2 : Int32)), .val (.ref A_GROUPS), .val (.long (1000 : Int64)), .second, .val (.int (1 : Int32)), .val (.long ((1000 : Int64) + (((p2 &&& (3 : Int32)) - (2 : Int32)).toInt64))), .second, .val (.int (1 : Int32))] []))
        refine gv (fun tQ kQ => XS.iconst X27.here hx rfl (hb hby at_251) kQ) ?_
        show G (T27.setTop (mkF me_ 252 #[.val (.int p0), .val (.long p1), .second, .val (.int p2), .val (.int (2 : Int32)), .val (.ref A_GROUPS), .val (.long (1000 : Int64)), .second, .val (.int (1 : Int32)), .val (.long ((1000 : Int64) + (((p2 &&& (3 : Int32)) - (2 : Int32)).toInt64))), .second, .val (.int (1 : Int32))] [(.int (1 : Int32))]))
        refine gv (fun tQ kQ => XS.goto X27.here hx rfl (pc0 := 252) (pc' := 256) rfl (hb hby at_252) (by decide) (by decide) kQ) ?_
        show G (T27.setTop (mkF me_ 256 #[.val (.int p0), .val (.long p1), .second, .val (.int p2), .val (.int (2 : Int32)), .val (.ref A_GROUPS), .val (.long (1000 : Int64)), .second, .val (.int (1 : Int32)), .val (.long ((1000 : Int64) + (((p2 &&& (3 : Int32)) - (2 : Int32)).toInt64))), .second, .val (.int (1 : Int32))] [(.int (1 : Int32))]))
        refine gf _ (own_ret X27 Bd.notSynchronized (v := some (.int (1 : Int32))) (fun h => by rw [Bd.returns] at h; cases h) ?_ (by decide) (by decide) (fun fs hr => retN X27 hx (t := .boolean) Bd.returns (by simp) (hb hby at_256) hr))
        show Q0 Z p0 p1 p2 A_TOPICS A_ROUTE_QUEUES A_GROUPS A_MEMBERS A_GROUP_MEMBERS A_MEMBER_TOPICS A_QUEUES A_OFFSETS A_OPTIONS_BYTES h0 n0 _ T27.heap _
        rw [eq27]
        exact ⟨rfl, N28⟩
    · skip
      rw [if_neg hb26] at st24
      refine gv (fun tQ kQ => st24.trans kQ) ?_
      show G (T24.setTop (mkF me_ 178 #[.val (.int p0), .val (.long p1), .second, .val (.int p2), .val (.int (2 : Int32)), .val (.ref A_GROUPS), .val (.long (1000 : Int64)), .second, .unset, .unset, .unset, .unset] [(.int (1 : Int32))]))
      refine gv (fun tQ kQ => XS.lloadN X24.here hx rfl (hb hby at_178) rfl kQ) ?_
      show G (T24.setTop (mkF me_ 179 #[.val (.int p0), .val (.long p1), .second, .val (.int p2), .val (.int (2 : Int32)), .val (.ref A_GROUPS), .val (.long (1000 : Int64)), .second, .unset, .unset, .unset, .unset] [(.long p1), (.int (1 : Int32))]))
      refine gv (fun tQ kQ => XS.lload X24.here hx rfl (hb hby at_179) rfl kQ) ?_
      show G (T24.setTop (mkF me_ 181 #[.val (.int p0), .val (.long p1), .second, .val (.int p2), .val (.int (2 : Int32)), .val (.ref A_GROUPS), .val (.long (1000 : Int64)), .second, .unset, .unset, .unset, .unset] [(.long (1000 : Int64)), (.long p1), (.int (1 : Int32))]))
      refine gv (fun tQ kQ => XS.lcmp X24.here hx rfl (hb hby at_181) rfl kQ) ?_
      show G (T24.setTop (mkF me_ 182 #[.val (.int p0), .val (.long p1), .second, .val (.int p2), .val (.int (2 : Int32)), .val (.ref A_GROUPS), .val (.long (1000 : Int64)), .second, .unset, .unset, .unset, .unset] [(.int (lcmpW p1 (1000 : Int64))), (.int (1 : Int32))]))
      refine gv (fun tQ kQ => XS.ifNo X24.here hx rfl (hb hby at_182) rfl ((if0 _ _).trans (flt (mt (lw_gt _ _).mp hb26)).2.2.1) kQ) ?_
      show G (T24.setTop (mkF me_ 185 #[.val (.int p0), .val (.long p1), .second, .val (.int p2), .val (.int (2 : Int32)), .val (.ref A_GROUPS), .val (.long (1000 : Int64)), .second, .unset, .unset, .unset, .unset] [(.int (1 : Int32))]))
      refine gv (fun tQ kQ => XS.iconst X24.here hx rfl (hb hby at_185) kQ) ?_
      show G (T24.setTop (mkF me_ 186 #[.val (.int p0), .val (.long p1), .second, .val (.int p2), .val (.int (2 : Int32)), .val (.ref A_GROUPS), .val (.long (1000 : Int64)), .second, .unset, .unset, .unset, .unset] [(.int (1 : Int32)), (.int (1 : Int32))]))
      refine gv (fun tQ kQ => XS.goto X24.here hx rfl (pc0 := 186) (pc' := 190) rfl (hb hby at_186) (by decide) (by decide) kQ) ?_
      show G (T24.setTop (mkF me_ 190 #[.val (.int p0), .val (.long p1), .second, .val (.int p2), .val (.int (2 : Int32)), .val (.ref A_GROUPS), .val (.long (1000 : Int64)), .second, .unset, .unset, .unset, .unset] [(.int (1 : Int32)), (.int (1 : Int32))]))
      refine gv (fun tQ kQ => XS.icmpNo X24.here hx rfl (hb hby at_190) rfl (teq (by decide : (1 : Int32) = (1 : Int32))).2 kQ) ?_
      show G (T24.setTop (mkF me_ 193 #[.val (.int p0), .val (.long p1), .second, .val (.int p2), .val (.int (2 : Int32)), .val (.ref A_GROUPS), .val (.long (1000 : Int64)), .second, .unset, .unset, .unset, .unset] []))
      refine gv (fun tQ kQ => XS.iconst X24.here hx rfl (hb hby at_193) kQ) ?_
      show G (T24.setTop (mkF me_ 194 #[.val (.int p0), .val (.long p1), .second, .val (.int p2), .val (.int (2 : Int32)), .val (.ref A_GROUPS), .val (.long (1000 : Int64)), .second, .unset, .unset, .unset, .unset] [(.int (1 : Int32))]))
      refine gv (fun tQ kQ => XS.goto X24.here hx rfl (pc0 := 194) (pc' := 198) rfl (hb hby at_194) (by decide) (by decide) kQ) ?_
      show G (T24.setTop (mkF me_ 198 #[.val (.int p0), .val (.long p1), .second, .val (.int p2), .val (.int (2 : Int32)), .val (.ref A_GROUPS), .val (.long (1000 : Int64)), .second, .unset, .unset, .unset, .unset] [(.int (1 : Int32))]))
      refine gv (fun tQ kQ => XS.istore X24.here hx rfl (hb hby at_198) rfl (l' := #[.val (.int p0), .val (.long p1), .second, .val (.int p2), .val (.int (2 : Int32)), .val (.ref A_GROUPS), .val (.long (1000 : Int64)), .second, .val (.int (1 : Int32)), .unset, .unset, .unset]) rfl kQ) ?_
      show G (T24.setTop (mkF me_ 200 #[.val (.int p0), .val (.long p1), .second, .val (.int p2), .val (.int (2 : Int32)), .val (.ref A_GROUPS), .val (.long (1000 : Int64)), .second, .val (.int (1 : Int32)), .unset, .unset, .unset] []))
      refine gv (fun tQ kQ => XS.lload X24.here hx rfl (hb hby at_200) rfl kQ) ?_
      show G (T24.setTop (mkF me_ 202 #[.val (.int p0), .val (.long p1), .second, .val (.int p2), .val (.int (2 : Int32)), .val (.ref A_GROUPS), .val (.long (1000 : Int64)), .second, .val (.int (1 : Int32)), .unset, .unset, .unset] [(.long (1000 : Int64))]))
      refine gv (fun tQ kQ => XS.iloadN X24.here hx rfl (hb hby at_202) rfl kQ) ?_
      show G (T24.setTop (mkF me_ 203 #[.val (.int p0), .val (.long p1), .second, .val (.int p2), .val (.int (2 : Int32)), .val (.ref A_GROUPS), .val (.long (1000 : Int64)), .second, .val (.int (1 : Int32)), .unset, .unset, .unset] [(.int p2), (.long (1000 : Int64))]))
      refine gv (fun tQ kQ => XS.iconst X24.here hx rfl (hb hby at_203) kQ) ?_
      show G (T24.setTop (mkF me_ 204 #[.val (.int p0), .val (.long p1), .second, .val (.int p2), .val (.int (2 : Int32)), .val (.ref A_GROUPS), .val (.long (1000 : Int64)), .second, .val (.int (1 : Int32)), .unset, .unset, .unset] [(.int (3 : Int32)), (.int p2), (.long (1000 : Int64))]))
      refine gv (fun tQ kQ => XS.iand X24.here hx rfl (hb hby at_204) rfl kQ) ?_
      show G (T24.setTop (mkF me_ 205 #[.val (.int p0), .val (.long p1), .second, .val (.int p2), .val (.int (2 : Int32)), .val (.ref A_GROUPS), .val (.long (1000 : Int64)), .second, .val (.int (1 : Int32)), .unset, .unset, .unset] [(.int (p2 &&& (3 : Int32))), (.long (1000 : Int64))]))
      refine gv (fun tQ kQ => XS.iconst X24.here hx rfl (hb hby at_205) kQ) ?_
      show G (T24.setTop (mkF me_ 206 #[.val (.int p0), .val (.long p1), .second, .val (.int p2), .val (.int (2 : Int32)), .val (.ref A_GROUPS), .val (.long (1000 : Int64)), .second, .val (.int (1 : Int32)), .unset, .unset, .unset] [(.int (2 : Int32)), (.int (p2 &&& (3 : Int32))), (.long (1000 : Int64))]))
      refine gv (fun tQ kQ => XS.isub X24.here hx rfl (hb hby at_206) rfl kQ) ?_
      show G (T24.setTop (mkF me_ 207 #[.val (.int p0), .val (.long p1), .second, .val (.int p2), .val (.int (2 : Int32)), .val (.ref A_GROUPS), .val (.long (1000 : Int64)), .second, .val (.int (1 : Int32)), .unset, .unset, .unset] [(.int ((p2 &&& (3 : Int32)) - (2 : Int32))), (.long (1000 : Int64))]))
      refine gv (fun tQ kQ => XS.i2l X24.here hx rfl (hb hby at_207) rfl kQ) ?_
      show G (T24.setTop (mkF me_ 208 #[.val (.int p0), .val (.long p1), .second, .val (.int p2), .val (.int (2 : Int32)), .val (.ref A_GROUPS), .val (.long (1000 : Int64)), .second, .val (.int (1 : Int32)), .unset, .unset, .unset] [(.long (((p2 &&& (3 : Int32)) - (2 : Int32)).toInt64)), (.long (1000 : Int64))]))
      refine gv (fun tQ kQ => XS.ladd X24.here hx rfl (hb hby at_208) rfl kQ) ?_
      show G (T24.setTop (mkF me_ 209 #[.val (.int p0), .val (.long p1), .second, .val (.int p2), .val (.int (2 : Int32)), .val (.ref A_GROUPS), .val (.long (1000 : Int64)), .second, .val (.int (1 : Int32)), .unset, .unset, .unset] [(.long ((1000 : Int64) + (((p2 &&& (3 : Int32)) - (2 : Int32)).toInt64)))]))
      refine gv (fun tQ kQ => XS.lstore X24.here hx rfl (hb hby at_209) rfl (l' := #[.val (.int p0), .val (.long p1), .second, .val (.int p2), .val (.int (2 : Int32)), .val (.ref A_GROUPS), .val (.long (1000 : Int64)), .second, .val (.int (1 : Int32)), .val (.long ((1000 : Int64) + (((p2 &&& (3 : Int32)) - (2 : Int32)).toInt64))), .second, .unset]) rfl kQ) ?_
      show G (T24.setTop (mkF me_ 211 #[.val (.int p0), .val (.long p1), .second, .val (.int p2), .val (.int (2 : Int32)), .val (.ref A_GROUPS), .val (.long (1000 : Int64)), .second, .val (.int (1 : Int32)), .val (.long ((1000 : Int64) + (((p2 &&& (3 : Int32)) - (2 : Int32)).toInt64))), .second, .unset] []))
      refine gv (fun tQ kQ => XS.aload X24.here hx rfl (hb hby at_211) rfl rfl kQ) ?_
      show G (T24.setTop (mkF me_ 213 #[.val (.int p0), .val (.long p1), .second, .val (.int p2), .val (.int (2 : Int32)), .val (.ref A_GROUPS), .val (.long (1000 : Int64)), .second, .val (.int (1 : Int32)), .val (.long ((1000 : Int64) + (((p2 &&& (3 : Int32)) - (2 : Int32)).toInt64))), .second, .unset] [(.ref A_GROUPS)]))
      refine gv (fun tQ kQ => XS.lload X24.here hx rfl (hb hby at_213) rfl kQ) ?_
      show G (T24.setTop (mkF me_ 215 #[.val (.int p0), .val (.long p1), .second, .val (.int p2), .val (.int (2 : Int32)), .val (.ref A_GROUPS), .val (.long (1000 : Int64)), .second, .val (.int (1 : Int32)), .val (.long ((1000 : Int64) + (((p2 &&& (3 : Int32)) - (2 : Int32)).toInt64))), .second, .unset] [(.long ((1000 : Int64) + (((p2 &&& (3 : Int32)) - (2 : Int32)).toInt64))), (.ref A_GROUPS)]))
      obtain ⟨cq30, kq30, q30a, q30b, q30c⟩ := isOf hZ eq24 (u11.ext O0.2)
      obtain ⟨_, _, ⟨T30, L30, k30, n30⟩, -, X30, ⟨Lc30, hQ30, l30, y30, z30⟩, st30⟩ := X24.virtualBack hx (y := (⟨"com/example/slot1/slot1/server/Limit", "allows", "(J)Z"⟩ : MethodName)) (z := (⟨"com/example/slot1/slot1/server/Limit", "allows", "(J)Z"⟩ : MethodName)) hown (mvT hZ (hw _ (List.mem_of_getElem? (i := 5) rfl))) (mvT hZ (hw _ (List.mem_of_getElem? (i := 6) rfl))) (notFace_of_selects (args := #[]) (mvT hZ (hw _ (List.mem_of_getElem? (i := 8) rfl)))) (mvT hZ (hw _ (List.mem_of_getElem? (i := 8) rfl))) (mvT hZ (hw _ (List.mem_of_getElem? (i := 7) rfl))) (by decide) (backOf (W := 0) (rm_allows l Z a0 hw [] A_GROUPS ((1000 : Int64) + (((p2 &&& (3 : Int32)) - (2 : Int32)).toInt64)) (1000 : Int64) h0 n0 O0 (u20.ext O0.2)) hZ (hw _ (List.mem_of_getElem? (i := 9) rfl)) (hw _ (List.mem_of_getElem? (i := 2) rfl)) (by decide) (by decide)) q30a q30c (g := (mkF me_ 215 #[.val (.int p0), .val (.long p1), .second, .val (.int p2), .val (.int (2 : Int32)), .val (.ref A_GROUPS), .val (.long (1000 : Int64)), .second, .val (.int (1 : Int32)), .val (.long ((1000 : Int64) + (((p2 &&& (3 : Int32)) - (2 : Int32)).toInt64))), .second, .unset] [(.long ((1000 : Int64) + (((p2 &&& (3 : Int32)) - (2 : Int32)).toInt64))), (.ref A_GROUPS)])) rfl (by rw [hml]; rfl) (Steps.refl _) (argsL := [(.long ((1000 : Int64) + (((p2 &&& (3 : Int32)) - (2 : Int32)).toInt64)))]) (rest := []) (lenOf pd_0 rfl) rfl (by show 2 * 0 + _ ≤ _; exact Nat.le_of_eq rfl) (hb hby at_215) (fun _ _ => ⟨rfl, eq24, (by decide : 0 + 0 ≤ _), (by decide : 0 + 0 ≤ _)⟩)
      dsimp only [Pt.U, Pt.locs, Pt.cells, Pt.slots] at X30 l30 y30 z30 st30 hQ30
      subst l30 y30 z30
      obtain ⟨rfl, Nq30, eq30⟩ := hQ30
      have N31 := Fr.app N25 Nq30
      by_cases hb32 : (1000 : Int64) < ((1000 : Int64) + (((p2 &&& (3 : Int32)) - (2 : Int32)).toInt64))
      · rw [if_pos hb32] at st30
        refine gv (fun tQ kQ => st30.trans kQ) ?_
        show G (T30.setTop (mkF me_ 218 #[.val (.int p0), .val (.long p1), .second, .val (.int p2), .val (.int (2 : Int32)), .val (.ref A_GROUPS), .val (.long (1000 : Int64)), .second, .val (.int (1 : Int32)), .val (.long ((1000 : Int64) + (((p2 &&& (3 : Int32)) - (2 : Int32)).toInt64))), .second, .unset] [(.int (0 : Int32))]))
        refine gv (fun tQ kQ => XS.lload X30.here hx rfl (hb hby at_218) rfl kQ) ?_
        show G (T30.setTop (mkF me_ 220 #[.val (.int p0), .val (.long p1), .second, .val (.int p2), .val (.int (2 : Int32)), .val (.ref A_GROUPS), .val (.long (1000 : Int64)), .second, .val (.int (1 : Int32)), .val (.long ((1000 : Int64) + (((p2 &&& (3 : Int32)) - (2 : Int32)).toInt64))), .second, .unset] [(.long ((1000 : Int64) + (((p2 &&& (3 : Int32)) - (2 : Int32)).toInt64))), (.int (0 : Int32))]))
        refine gv (fun tQ kQ => XS.lload X30.here hx rfl (hb hby at_220) rfl kQ) ?_
        show G (T30.setTop (mkF me_ 222 #[.val (.int p0), .val (.long p1), .second, .val (.int p2), .val (.int (2 : Int32)), .val (.ref A_GROUPS), .val (.long (1000 : Int64)), .second, .val (.int (1 : Int32)), .val (.long ((1000 : Int64) + (((p2 &&& (3 : Int32)) - (2 : Int32)).toInt64))), .second, .unset] [(.long (1000 : Int64)), (.long ((1000 : Int64) + (((p2 &&& (3 : Int32)) - (2 : Int32)).toInt64))), (.int (0 : Int32))]))
        refine gv (fun tQ kQ => XS.lcmp X30.here hx rfl (hb hby at_222) rfl kQ) ?_
        show G (T30.setTop (mkF me_ 223 #[.val (.int p0), .val (.long p1), .second, .val (.int p2), .val (.int (2 : Int32)), .val (.ref A_GROUPS), .val (.long (1000 : Int64)), .second, .val (.int (1 : Int32)), .val (.long ((1000 : Int64) + (((p2 &&& (3 : Int32)) - (2 : Int32)).toInt64))), .second, .unset] [(.int (lcmpW ((1000 : Int64) + (((p2 &&& (3 : Int32)) - (2 : Int32)).toInt64)) (1000 : Int64))), (.int (0 : Int32))]))
        refine gv (fun tQ kQ => XS.ifYes X30.here hx rfl (pc0 := 223) (pc' := 230) rfl (hb hby at_223) rfl ((if0 _ _).trans (tlt ((lw_gt _ _).mpr hb32)).2.2.1) (by decide) (by decide) kQ) ?_
        show G (T30.setTop (mkF me_ 230 #[.val (.int p0), .val (.long p1), .second, .val (.int p2), .val (.int (2 : Int32)), .val (.ref A_GROUPS), .val (.long (1000 : Int64)), .second, .val (.int (1 : Int32)), .val (.long ((1000 : Int64) + (((p2 &&& (3 : Int32)) - (2 : Int32)).toInt64))), .second, .unset] [(.int (0 : Int32))]))
        refine gv (fun tQ kQ => XS.iconst X30.here hx rfl (hb hby at_230) kQ) ?_
        show G (T30.setTop (mkF me_ 231 #[.val (.int p0), .val (.long p1), .second, .val (.int p2), .val (.int (2 : Int32)), .val (.ref A_GROUPS), .val (.long (1000 : Int64)), .second, .val (.int (1 : Int32)), .val (.long ((1000 : Int64) + (((p2 &&& (3 : Int32)) - (2 : Int32)).toInt64))), .second, .unset] [(.int (0 : Int32)), (.int (0 : Int32))]))
        refine gv (fun tQ kQ => XS.icmpNo X30.here hx rfl (hb hby at_231) rfl (teq (by decide : (0 : Int32) = (0 : Int32))).2 kQ) ?_
        show G (T30.setTop (mkF me_ 234 #[.val (.int p0), .val (.long p1), .second, .val (.int p2), .val (.int (2 : Int32)), .val (.ref A_GROUPS), .val (.long (1000 : Int64)), .second, .val (.int (1 : Int32)), .val (.long ((1000 : Int64) + (((p2 &&& (3 : Int32)) - (2 : Int32)).toInt64))), .second, .unset] []))
        refine gv (fun tQ kQ => XS.iconst X30.here hx rfl (hb hby at_234) kQ) ?_
        show G (T30.setTop (mkF me_ 235 #[.val (.int p0), .val (.long p1), .second, .val (.int p2), .val (.int (2 : Int32)), .val (.ref A_GROUPS), .val (.long (1000 : Int64)), .second, .val (.int (1 : Int32)), .val (.long ((1000 : Int64) + (((p2 &&& (3 : Int32)) - (2 : Int32)).toInt64))), .second, .unset] [(.int (1 : Int32))]))
        refine gv (fun tQ kQ => XS.goto X30.here hx rfl (pc0 := 235) (pc' := 239) rfl (hb hby at_235) (by decide) (by decide) kQ) ?_
        show G (T30.setTop (mkF me_ 239 #[.val (.int p0), .val (.long p1), .second, .val (.int p2), .val (.int (2 : Int32)), .val (.ref A_GROUPS), .val (.long (1000 : Int64)), .second, .val (.int (1 : Int32)), .val (.long ((1000 : Int64) + (((p2 &&& (3 : Int32)) - (2 : Int32)).toInt64))), .second, .unset] [(.int (1 : Int32))]))
        refine gv (fun tQ kQ => XS.istore X30.here hx rfl (hb hby at_239) rfl (l' := #[.val (.int p0), .val (.long p1), .second, .val (.int p2), .val (.int (2 : Int32)), .val (.ref A_GROUPS), .val (.long (1000 : Int64)), .second, .val (.int (1 : Int32)), .val (.long ((1000 : Int64) + (((p2 &&& (3 : Int32)) - (2 : Int32)).toInt64))), .second, .val (.int (1 : Int32))]) rfl kQ) ?_
        show G (T30.setTop (mkF me_ 241 #[.val (.int p0), .val (.long p1), .second, .val (.int p2), .val (.int (2 : Int32)), .val (.ref A_GROUPS), .val (.long (1000 : Int64)), .second, .val (.int (1 : Int32)), .val (.long ((1000 : Int64) + (((p2 &&& (3 : Int32)) - (2 : Int32)).toInt64))), .second, .val (.int (1 : Int32))] []))
        refine gv (fun tQ kQ => XS.iload X30.here hx rfl (hb hby at_241) rfl kQ) ?_
        show G (T30.setTop (mkF me_ 243 #[.val (.int p0), .val (.long p1), .second, .val (.int p2), .val (.int (2 : Int32)), .val (.ref A_GROUPS), .val (.long (1000 : Int64)), .second, .val (.int (1 : Int32)), .val (.long ((1000 : Int64) + (((p2 &&& (3 : Int32)) - (2 : Int32)).toInt64))), .second, .val (.int (1 : Int32))] [(.int (1 : Int32))]))
        refine gv (fun tQ kQ => XS.ifNo X30.here hx rfl (hb hby at_243) rfl ((if0 _ _).trans (feq (by decide : ¬ ((1 : Int32) = (0 : Int32)))).1) kQ) ?_
        show G (T30.setTop (mkF me_ 246 #[.val (.int p0), .val (.long p1), .second, .val (.int p2), .val (.int (2 : Int32)), .val (.ref A_GROUPS), .val (.long (1000 : Int64)), .second, .val (.int (1 : Int32)), .val (.long ((1000 : Int64) + (((p2 &&& (3 : Int32)) - (2 : Int32)).toInt64))), .second, .val (.int (1 : Int32))] []))
        refine gv (fun tQ kQ => XS.iload X30.here hx rfl (hb hby at_246) rfl kQ) ?_
        show G (T30.setTop (mkF me_ 248 #[.val (.int p0), .val (.long p1), .second, .val (.int p2), .val (.int (2 : Int32)), .val (.ref A_GROUPS), .val (.long (1000 : Int64)), .second, .val (.int (1 : Int32)), .val (.long ((1000 : Int64) + (((p2 &&& (3 : Int32)) - (2 : Int32)).toInt64))), .second, .val (.int (1 : Int32))] [(.int (1 : Int32))]))
        refine gv (fun tQ kQ => XS.ifNo X30.here hx rfl (hb hby at_248) rfl ((if0 _ _).trans (feq (by decide : ¬ ((1 : Int32) = (0 : Int32)))).1) kQ) ?_
        show G (T30.setTop (mkF me_ 251 #[.val (.int p0), .val (.long p1), .second, .val (.int p2), .val (.int (2 : Int32)), .val (.ref A_GROUPS), .val (.long (1000 : Int64)), .second, .val (.int (1 : Int32)), .val (.long ((1000 : Int64) + (((p2 &&& (3 : Int32)) - (2 : Int32)).toInt64))), .second, .val (.int (1 : Int32))] []))
        refine gv (fun tQ kQ => XS.iconst X30.here hx rfl (hb hby at_251) kQ) ?_
        show G (T30.setTop (mkF me_ 252 #[.val (.int p0), .val (.long p1), .second, .val (.int p2), .val (.int (2 : Int32)), .val (.ref A_GROUPS), .val (.long (1000 : Int64)), .second, .val (.int (1 : Int32)), .val (.long ((1000 : Int64) + (((p2 &&& (3 : Int32)) - (2 : Int32)).toInt64))), .second, .val (.int (1 : Int32))] [(.int (1 : Int32))]))
        refine gv (fun tQ kQ => XS.goto X30.here hx rfl (pc0 := 252) (pc' := 256) rfl (hb hby at_252) (by decide) (by decide) kQ) ?_
        show G (T30.setTop (mkF me_ 256 #[.val (.int p0), .val (.long p1), .second, .val (.int p2), .val (.int (2 : Int32)), .val (.ref A_GROUPS), .val (.long (1000 : Int64)), .second, .val (.int (1 : Int32)), .val (.long ((1000 : Int64) + (((p2 &&& (3 : Int32)) - (2 : Int32)).toInt64))), .second, .val (.int (1 : Int32))] [(.int (1 : Int32))]))
        refine gf _ (own_ret X30 Bd.notSynchronized (v := some (.int (1 : Int32))) (fun h => by rw [Bd.returns] at h; cases h) ?_ (by decide) (by decide) (fun fs hr => retN X30 hx (t := .boolean) Bd.returns (by simp) (hb hby at_256) hr))
        show Q0 Z p0 p1 p2 A_TOPICS A_ROUTE_QUEUES A_GROUPS A_MEMBERS A_GROUP_MEMBERS A_MEMBER_TOPICS A_QUEUES A_OFFSETS A_OPTIONS_BYTES h0 n0 _ T30.heap _
        rw [eq30]
        exact ⟨rfl, N31⟩
      · skip
        rw [if_neg hb32] at st30
        refine gv (fun tQ kQ => st30.trans kQ) ?_
        show G (T30.setTop (mkF me_ 218 #[.val (.int p0), .val (.long p1), .second, .val (.int p2), .val (.int (2 : Int32)), .val (.ref A_GROUPS), .val (.long (1000 : Int64)), .second, .val (.int (1 : Int32)), .val (.long ((1000 : Int64) + (((p2 &&& (3 : Int32)) - (2 : Int32)).toInt64))), .second, .unset] [(.int (1 : Int32))]))
        refine gv (fun tQ kQ => XS.lload X30.here hx rfl (hb hby at_218) rfl kQ) ?_
        show G (T30.setTop (mkF me_ 220 #[.val (.int p0), .val (.long p1), .second, .val (.int p2), .val (.int (2 : Int32)), .val (.ref A_GROUPS), .val (.long (1000 : Int64)), .second, .val (.int (1 : Int32)), .val (.long ((1000 : Int64) + (((p2 &&& (3 : Int32)) - (2 : Int32)).toInt64))), .second, .unset] [(.long ((1000 : Int64) + (((p2 &&& (3 : Int32)) - (2 : Int32)).toInt64))), (.int (1 : Int32))]))
        refine gv (fun tQ kQ => XS.lload X30.here hx rfl (hb hby at_220) rfl kQ) ?_
        show G (T30.setTop (mkF me_ 222 #[.val (.int p0), .val (.long p1), .second, .val (.int p2), .val (.int (2 : Int32)), .val (.ref A_GROUPS), .val (.long (1000 : Int64)), .second, .val (.int (1 : Int32)), .val (.long ((1000 : Int64) + (((p2 &&& (3 : Int32)) - (2 : Int32)).toInt64))), .second, .unset] [(.long (1000 : Int64)), (.long ((1000 : Int64) + (((p2 &&& (3 : Int32)) - (2 : Int32)).toInt64))), (.int (1 : Int32))]))
        refine gv (fun tQ kQ => XS.lcmp X30.here hx rfl (hb hby at_222) rfl kQ) ?_
        show G (T30.setTop (mkF me_ 223 #[.val (.int p0), .val (.long p1), .second, .val (.int p2), .val (.int (2 : Int32)), .val (.ref A_GROUPS), .val (.long (1000 : Int64)), .second, .val (.int (1 : Int32)), .val (.long ((1000 : Int64) + (((p2 &&& (3 : Int32)) - (2 : Int32)).toInt64))), .second, .unset] [(.int (lcmpW ((1000 : Int64) + (((p2 &&& (3 : Int32)) - (2 : Int32)).toInt64)) (1000 : Int64))), (.int (1 : Int32))]))
        refine gv (fun tQ kQ => XS.ifNo X30.here hx rfl (hb hby at_223) rfl ((if0 _ _).trans (flt (mt (lw_gt _ _).mp hb32)).2.2.1) kQ) ?_
        show G (T30.setTop (mkF me_ 226 #[.val (.int p0), .val (.long p1), .second, .val (.int p2), .val (.int (2 : Int32)), .val (.ref A_GROUPS), .val (.long (1000 : Int64)), .second, .val (.int (1 : Int32)), .val (.long ((1000 : Int64) + (((p2 &&& (3 : Int32)) - (2 : Int32)).toInt64))), .second, .unset] [(.int (1 : Int32))]))
        refine gv (fun tQ kQ => XS.iconst X30.here hx rfl (hb hby at_226) kQ) ?_
        show G (T30.setTop (mkF me_ 227 #[.val (.int p0), .val (.long p1), .second, .val (.int p2), .val (.int (2 : Int32)), .val (.ref A_GROUPS), .val (.long (1000 : Int64)), .second, .val (.int (1 : Int32)), .val (.long ((1000 : Int64) + (((p2 &&& (3 : Int32)) - (2 : Int32)).toInt64))), .second, .unset] [(.int (1 : Int32)), (.int (1 : Int32))]))
        refine gv (fun tQ kQ => XS.goto X30.here hx rfl (pc0 := 227) (pc' := 231) rfl (hb hby at_227) (by decide) (by decide) kQ) ?_
        show G (T30.setTop (mkF me_ 231 #[.val (.int p0), .val (.long p1), .second, .val (.int p2), .val (.int (2 : Int32)), .val (.ref A_GROUPS), .val (.long (1000 : Int64)), .second, .val (.int (1 : Int32)), .val (.long ((1000 : Int64) + (((p2 &&& (3 : Int32)) - (2 : Int32)).toInt64))), .second, .unset] [(.int (1 : Int32)), (.int (1 : Int32))]))
        refine gv (fun tQ kQ => XS.icmpNo X30.here hx rfl (hb hby at_231) rfl (teq (by decide : (1 : Int32) = (1 : Int32))).2 kQ) ?_
        show G (T30.setTop (mkF me_ 234 #[.val (.int p0), .val (.long p1), .second, .val (.int p2), .val (.int (2 : Int32)), .val (.ref A_GROUPS), .val (.long (1000 : Int64)), .second, .val (.int (1 : Int32)), .val (.long ((1000 : Int64) + (((p2 &&& (3 : Int32)) - (2 : Int32)).toInt64))), .second, .unset] []))
        refine gv (fun tQ kQ => XS.iconst X30.here hx rfl (hb hby at_234) kQ) ?_
        show G (T30.setTop (mkF me_ 235 #[.val (.int p0), .val (.long p1), .second, .val (.int p2), .val (.int (2 : Int32)), .val (.ref A_GROUPS), .val (.long (1000 : Int64)), .second, .val (.int (1 : Int32)), .val (.long ((1000 : Int64) + (((p2 &&& (3 : Int32)) - (2 : Int32)).toInt64))), .second, .unset] [(.int (1 : Int32))]))
        refine gv (fun tQ kQ => XS.goto X30.here hx rfl (pc0 := 235) (pc' := 239) rfl (hb hby at_235) (by decide) (by decide) kQ) ?_
        show G (T30.setTop (mkF me_ 239 #[.val (.int p0), .val (.long p1), .second, .val (.int p2), .val (.int (2 : Int32)), .val (.ref A_GROUPS), .val (.long (1000 : Int64)), .second, .val (.int (1 : Int32)), .val (.long ((1000 : Int64) + (((p2 &&& (3 : Int32)) - (2 : Int32)).toInt64))), .second, .unset] [(.int (1 : Int32))]))
        refine gv (fun tQ kQ => XS.istore X30.here hx rfl (hb hby at_239) rfl (l' := #[.val (.int p0), .val (.long p1), .second, .val (.int p2), .val (.int (2 : Int32)), .val (.ref A_GROUPS), .val (.long (1000 : Int64)), .second, .val (.int (1 : Int32)), .val (.long ((1000 : Int64) + (((p2 &&& (3 : Int32)) - (2 : Int32)).toInt64))), .second, .val (.int (1 : Int32))]) rfl kQ) ?_
        show G (T30.setTop (mkF me_ 241 #[.val (.int p0), .val (.long p1), .second, .val (.int p2), .val (.int (2 : Int32)), .val (.ref A_GROUPS), .val (.long (1000 : Int64)), .second, .val (.int (1 : Int32)), .val (.long ((1000 : Int64) + (((p2 &&& (3 : Int32)) - (2 : Int32)).toInt64))), .second, .val (.int (1 : Int32))] []))
        refine gv (fun tQ kQ => XS.iload X30.here hx rfl (hb hby at_241) rfl kQ) ?_
        show G (T30.setTop (mkF me_ 243 #[.val (.int p0), .val (.long p1), .second, .val (.int p2), .val (.int (2 : Int32)), .val (.ref A_GROUPS), .val (.long (1000 : Int64)), .second, .val (.int (1 : Int32)), .val (.long ((1000 : Int64) + (((p2 &&& (3 : Int32)) - (2 : Int32)).toInt64))), .second, .val (.int (1 : Int32))] [(.int (1 : Int32))]))
        refine gv (fun tQ kQ => XS.ifNo X30.here hx rfl (hb hby at_243) rfl ((if0 _ _).trans (feq (by decide : ¬ ((1 : Int32) = (0 : Int32)))).1) kQ) ?_
        show G (T30.setTop (mkF me_ 246 #[.val (.int p0), .val (.long p1), .second, .val (.int p2), .val (.int (2 : Int32)), .val (.ref A_GROUPS), .val (.long (1000 : Int64)), .second, .val (.int (1 : Int32)), .val (.long ((1000 : Int64) + (((p2 &&& (3 : Int32)) - (2 : Int32)).toInt64))), .second, .val (.int (1 : Int32))] []))
        refine gv (fun tQ kQ => XS.iload X30.here hx rfl (hb hby at_246) rfl kQ) ?_
        show G (T30.setTop (mkF me_ 248 #[.val (.int p0), .val (.long p1), .second, .val (.int p2), .val (.int (2 : Int32)), .val (.ref A_GROUPS), .val (.long (1000 : Int64)), .second, .val (.int (1 : Int32)), .val (.long ((1000 : Int64) + (((p2 &&& (3 : Int32)) - (2 : Int32)).toInt64))), .second, .val (.int (1 : Int32))] [(.int (1 : Int32))]))
        refine gv (fun tQ kQ => XS.ifNo X30.here hx rfl (hb hby at_248) rfl ((if0 _ _).trans (feq (by decide : ¬ ((1 : Int32) = (0 : Int32)))).1) kQ) ?_
        show G (T30.setTop (mkF me_ 251 #[.val (.int p0), .val (.long p1), .second, .val (.int p2), .val (.int (2 : Int32)), .val (.ref A_GROUPS), .val (.long (1000 : Int64)), .second, .val (.int (1 : Int32)), .val (.long ((1000 : Int64) + (((p2 &&& (3 : Int32)) - (2 : Int32)).toInt64))), .second, .val (.int (1 : Int32))] []))
        refine gv (fun tQ kQ => XS.iconst X30.here hx rfl (hb hby at_251) kQ) ?_
        show G (T30.setTop (mkF me_ 252 #[.val (.int p0), .val (.long p1), .second, .val (.int p2), .val (.int (2 : Int32)), .val (.ref A_GROUPS), .val (.long (1000 : Int64)), .second, .val (.int (1 : Int32)), .val (.long ((1000 : Int64) + (((p2 &&& (3 : Int32)) - (2 : Int32)).toInt64))), .second, .val (.int (1 : Int32))] [(.int (1 : Int32))]))
        refine gv (fun tQ kQ => XS.goto X30.here hx rfl (pc0 := 252) (pc' := 256) rfl (hb hby at_252) (by decide) (by decide) kQ) ?_
        show G (T30.setTop (mkF me_ 256 #[.val (.int p0), .val (.long p1), .second, .val (.int p2), .val (.int (2 : Int32)), .val (.ref A_GROUPS), .val (.long (1000 : Int64)), .second, .val (.int (1 : Int32)), .val (.long ((1000 : Int64) + (((p2 &&& (3 : Int32)) - (2 : Int32)).toInt64))), .second, .val (.int (1 : Int32))] [(.int (1 : Int32))]))
        refine gf _ (own_ret X30 Bd.notSynchronized (v := some (.int (1 : Int32))) (fun h => by rw [Bd.returns] at h; cases h) ?_ (by decide) (by decide) (fun fs hr => retN X30 hx (t := .boolean) Bd.returns (by simp) (hb hby at_256) hr))
        show Q0 Z p0 p1 p2 A_TOPICS A_ROUTE_QUEUES A_GROUPS A_MEMBERS A_GROUP_MEMBERS A_MEMBER_TOPICS A_QUEUES A_OFFSETS A_OPTIONS_BYTES h0 n0 _ T30.heap _
        rw [eq30]
        exact ⟨rfl, N31⟩
  · rw [q]
    show G (s₁.setTop (mkF me_ 9 #[.val (.int p0), .val (.long p1), .second, .val (.int p2), .val (.int (3 : Int32)), .unset, .unset, .unset, .unset, .unset, .unset, .unset] []))
    refine gv (fun tQ kQ => XS.iload X0.here hx rfl (hb hby at_9) rfl kQ) ?_
    show G (s₁.setTop (mkF me_ 11 #[.val (.int p0), .val (.long p1), .second, .val (.int p2), .val (.int (3 : Int32)), .unset, .unset, .unset, .unset, .unset, .unset, .unset] [(.int (3 : Int32))]))
    refine gv (fun tQ kQ => XS.ifYes X0.here hx rfl (pc0 := 11) (pc' := 27) rfl (hb hby at_11) rfl ((if0 _ _).trans (feq (by decide : ¬ ((3 : Int32) = (0 : Int32)))).2) (by decide) (by decide) kQ) ?_
    show G (s₁.setTop (mkF me_ 27 #[.val (.int p0), .val (.long p1), .second, .val (.int p2), .val (.int (3 : Int32)), .unset, .unset, .unset, .unset, .unset, .unset, .unset] []))
    refine gv (fun tQ kQ => XS.iload X0.here hx rfl (hb hby at_27) rfl kQ) ?_
    show G (s₁.setTop (mkF me_ 29 #[.val (.int p0), .val (.long p1), .second, .val (.int p2), .val (.int (3 : Int32)), .unset, .unset, .unset, .unset, .unset, .unset, .unset] [(.int (3 : Int32))]))
    refine gv (fun tQ kQ => XS.iconst X0.here hx rfl (hb hby at_29) kQ) ?_
    show G (s₁.setTop (mkF me_ 30 #[.val (.int p0), .val (.long p1), .second, .val (.int p2), .val (.int (3 : Int32)), .unset, .unset, .unset, .unset, .unset, .unset, .unset] [(.int (1 : Int32)), (.int (3 : Int32))]))
    refine gv (fun tQ kQ => XS.icmpYes X0.here hx rfl (pc0 := 30) (pc' := 46) rfl (hb hby at_30) rfl (feq (by decide : ¬ ((3 : Int32) = (1 : Int32)))).2 (by decide) (by decide) kQ) ?_
    show G (s₁.setTop (mkF me_ 46 #[.val (.int p0), .val (.long p1), .second, .val (.int p2), .val (.int (3 : Int32)), .unset, .unset, .unset, .unset, .unset, .unset, .unset] []))
    refine gv (fun tQ kQ => XS.iload X0.here hx rfl (hb hby at_46) rfl kQ) ?_
    show G (s₁.setTop (mkF me_ 48 #[.val (.int p0), .val (.long p1), .second, .val (.int p2), .val (.int (3 : Int32)), .unset, .unset, .unset, .unset, .unset, .unset, .unset] [(.int (3 : Int32))]))
    refine gv (fun tQ kQ => XS.iconst X0.here hx rfl (hb hby at_48) kQ) ?_
    show G (s₁.setTop (mkF me_ 49 #[.val (.int p0), .val (.long p1), .second, .val (.int p2), .val (.int (3 : Int32)), .unset, .unset, .unset, .unset, .unset, .unset, .unset] [(.int (2 : Int32)), (.int (3 : Int32))]))
    refine gv (fun tQ kQ => XS.icmpYes X0.here hx rfl (pc0 := 49) (pc' := 65) rfl (hb hby at_49) rfl (feq (by decide : ¬ ((3 : Int32) = (2 : Int32)))).2 (by decide) (by decide) kQ) ?_
    show G (s₁.setTop (mkF me_ 65 #[.val (.int p0), .val (.long p1), .second, .val (.int p2), .val (.int (3 : Int32)), .unset, .unset, .unset, .unset, .unset, .unset, .unset] []))
    refine gv (fun tQ kQ => XS.iload X0.here hx rfl (hb hby at_65) rfl kQ) ?_
    show G (s₁.setTop (mkF me_ 67 #[.val (.int p0), .val (.long p1), .second, .val (.int p2), .val (.int (3 : Int32)), .unset, .unset, .unset, .unset, .unset, .unset, .unset] [(.int (3 : Int32))]))
    refine gv (fun tQ kQ => XS.iconst X0.here hx rfl (hb hby at_67) kQ) ?_
    show G (s₁.setTop (mkF me_ 68 #[.val (.int p0), .val (.long p1), .second, .val (.int p2), .val (.int (3 : Int32)), .unset, .unset, .unset, .unset, .unset, .unset, .unset] [(.int (3 : Int32)), (.int (3 : Int32))]))
    refine gv (fun tQ kQ => XS.icmpNo X0.here hx rfl (hb hby at_68) rfl (teq (by decide : (3 : Int32) = (3 : Int32))).2 kQ) ?_
    show G (s₁.setTop (mkF me_ 71 #[.val (.int p0), .val (.long p1), .second, .val (.int p2), .val (.int (3 : Int32)), .unset, .unset, .unset, .unset, .unset, .unset, .unset] []))
    obtain ⟨T33, X33, e33, st33⟩ := getS2 X0 hx hZ hown (host := "") (Or.inl (hw _ (List.mem_of_getElem? (i := 12) rfl))) Via.refl e0 (u3.ext O0.2) (g := (mkF me_ 71 #[.val (.int p0), .val (.long p1), .second, .val (.int p2), .val (.int (3 : Int32)), .unset, .unset, .unset, .unset, .unset, .unset, .unset] [])) rfl (hb hby at_71)
    refine gv st33 ?_
    show G (T33.setTop (mkF me_ 74 #[.val (.int p0), .val (.long p1), .second, .val (.int p2), .val (.int (3 : Int32)), .unset, .unset, .unset, .unset, .unset, .unset, .unset] [(.ref A_MEMBERS)]))
    refine gv (fun tQ kQ => XS.astore X33.here hx rfl (hb hby at_74) rfl rfl (l' := #[.val (.int p0), .val (.long p1), .second, .val (.int p2), .val (.int (3 : Int32)), .val (.ref A_MEMBERS), .unset, .unset, .unset, .unset, .unset, .unset]) rfl kQ) ?_
    show G (T33.setTop (mkF me_ 76 #[.val (.int p0), .val (.long p1), .second, .val (.int p2), .val (.int (3 : Int32)), .val (.ref A_MEMBERS), .unset, .unset, .unset, .unset, .unset, .unset] []))
    refine gv (X33.ldc2Long hx hown (mvT hZ (hw _ (List.mem_of_getElem? (i := 4) rfl))) (g := (mkF me_ 76 #[.val (.int p0), .val (.long p1), .second, .val (.int p2), .val (.int (3 : Int32)), .val (.ref A_MEMBERS), .unset, .unset, .unset, .unset, .unset, .unset] [])) rfl (hb hby at_76)) ?_
    show G (T33.setTop (mkF me_ 79 #[.val (.int p0), .val (.long p1), .second, .val (.int p2), .val (.int (3 : Int32)), .val (.ref A_MEMBERS), .unset, .unset, .unset, .unset, .unset, .unset] [(.long (10000 : Int64))]))
    refine gv (fun tQ kQ => XS.lstore X33.here hx rfl (hb hby at_79) rfl (l' := #[.val (.int p0), .val (.long p1), .second, .val (.int p2), .val (.int (3 : Int32)), .val (.ref A_MEMBERS), .val (.long (10000 : Int64)), .second, .unset, .unset, .unset, .unset]) rfl kQ) ?_
    show G (T33.setTop (mkF me_ 81 #[.val (.int p0), .val (.long p1), .second, .val (.int p2), .val (.int (3 : Int32)), .val (.ref A_MEMBERS), .val (.long (10000 : Int64)), .second, .unset, .unset, .unset, .unset] []))
    refine gv (fun tQ kQ => XS.goto X33.here hx rfl (pc0 := 81) (pc' := 172) rfl (hb hby at_81) (by decide) (by decide) kQ) ?_
    show G (T33.setTop (mkF me_ 172 #[.val (.int p0), .val (.long p1), .second, .val (.int p2), .val (.int (3 : Int32)), .val (.ref A_MEMBERS), .val (.long (10000 : Int64)), .second, .unset, .unset, .unset, .unset] []))
    refine gv (fun tQ kQ => XS.aload X33.here hx rfl (hb hby at_172) rfl rfl kQ) ?_
    show G (T33.setTop (mkF me_ 174 #[.val (.int p0), .val (.long p1), .second, .val (.int p2), .val (.int (3 : Int32)), .val (.ref A_MEMBERS), .val (.long (10000 : Int64)), .second, .unset, .unset, .unset, .unset] [(.ref A_MEMBERS)]))
    refine gv (fun tQ kQ => XS.lloadN X33.here hx rfl (hb hby at_174) rfl kQ) ?_
    show G (T33.setTop (mkF me_ 175 #[.val (.int p0), .val (.long p1), .second, .val (.int p2), .val (.int (3 : Int32)), .val (.ref A_MEMBERS), .val (.long (10000 : Int64)), .second, .unset, .unset, .unset, .unset] [(.long p1), (.ref A_MEMBERS)]))
    obtain ⟨cq34, kq34, q34a, q34b, q34c⟩ := isOf hZ e33 (u12.ext O0.2)
    obtain ⟨_, _, ⟨T34, L34, k34, n34⟩, -, X34, ⟨Lc34, hQ34, l34, y34, z34⟩, st34⟩ := X33.virtualBack hx (y := (⟨"com/example/slot1/slot1/server/Limit", "allows", "(J)Z"⟩ : MethodName)) (z := (⟨"com/example/slot1/slot1/server/Limit", "allows", "(J)Z"⟩ : MethodName)) hown (mvT hZ (hw _ (List.mem_of_getElem? (i := 5) rfl))) (mvT hZ (hw _ (List.mem_of_getElem? (i := 6) rfl))) (notFace_of_selects (args := #[]) (mvT hZ (hw _ (List.mem_of_getElem? (i := 8) rfl)))) (mvT hZ (hw _ (List.mem_of_getElem? (i := 8) rfl))) (mvT hZ (hw _ (List.mem_of_getElem? (i := 7) rfl))) (by decide) (backOf (W := 0) (rm_allows l Z a0 hw [] A_MEMBERS p1 (10000 : Int64) h0 n0 O0 (u21.ext O0.2)) hZ (hw _ (List.mem_of_getElem? (i := 9) rfl)) (hw _ (List.mem_of_getElem? (i := 2) rfl)) (by decide) (by decide)) q34a q34c (g := (mkF me_ 175 #[.val (.int p0), .val (.long p1), .second, .val (.int p2), .val (.int (3 : Int32)), .val (.ref A_MEMBERS), .val (.long (10000 : Int64)), .second, .unset, .unset, .unset, .unset] [(.long p1), (.ref A_MEMBERS)])) rfl (by rw [hml]; rfl) (Steps.refl _) (argsL := [(.long p1)]) (rest := []) (lenOf pd_0 rfl) rfl (by show 2 * 0 + _ ≤ _; exact Nat.le_of_eq rfl) (hb hby at_175) (fun _ _ => ⟨rfl, e33, (by decide : 0 + 0 ≤ _), (by decide : 0 + 0 ≤ _)⟩)
    dsimp only [Pt.U, Pt.locs, Pt.cells, Pt.slots] at X34 l34 y34 z34 st34 hQ34
    subst l34 y34 z34
    obtain ⟨rfl, Nq34, eq34⟩ := hQ34
    have N35 := Fr.app N0 Nq34
    by_cases hb36 : (10000 : Int64) < p1
    · rw [if_pos hb36] at st34
      refine gv (fun tQ kQ => st34.trans kQ) ?_
      show G (T34.setTop (mkF me_ 178 #[.val (.int p0), .val (.long p1), .second, .val (.int p2), .val (.int (3 : Int32)), .val (.ref A_MEMBERS), .val (.long (10000 : Int64)), .second, .unset, .unset, .unset, .unset] [(.int (0 : Int32))]))
      refine gv (fun tQ kQ => XS.lloadN X34.here hx rfl (hb hby at_178) rfl kQ) ?_
      show G (T34.setTop (mkF me_ 179 #[.val (.int p0), .val (.long p1), .second, .val (.int p2), .val (.int (3 : Int32)), .val (.ref A_MEMBERS), .val (.long (10000 : Int64)), .second, .unset, .unset, .unset, .unset] [(.long p1), (.int (0 : Int32))]))
      refine gv (fun tQ kQ => XS.lload X34.here hx rfl (hb hby at_179) rfl kQ) ?_
      show G (T34.setTop (mkF me_ 181 #[.val (.int p0), .val (.long p1), .second, .val (.int p2), .val (.int (3 : Int32)), .val (.ref A_MEMBERS), .val (.long (10000 : Int64)), .second, .unset, .unset, .unset, .unset] [(.long (10000 : Int64)), (.long p1), (.int (0 : Int32))]))
      refine gv (fun tQ kQ => XS.lcmp X34.here hx rfl (hb hby at_181) rfl kQ) ?_
      show G (T34.setTop (mkF me_ 182 #[.val (.int p0), .val (.long p1), .second, .val (.int p2), .val (.int (3 : Int32)), .val (.ref A_MEMBERS), .val (.long (10000 : Int64)), .second, .unset, .unset, .unset, .unset] [(.int (lcmpW p1 (10000 : Int64))), (.int (0 : Int32))]))
      refine gv (fun tQ kQ => XS.ifYes X34.here hx rfl (pc0 := 182) (pc' := 189) rfl (hb hby at_182) rfl ((if0 _ _).trans (tlt ((lw_gt _ _).mpr hb36)).2.2.1) (by decide) (by decide) kQ) ?_
      show G (T34.setTop (mkF me_ 189 #[.val (.int p0), .val (.long p1), .second, .val (.int p2), .val (.int (3 : Int32)), .val (.ref A_MEMBERS), .val (.long (10000 : Int64)), .second, .unset, .unset, .unset, .unset] [(.int (0 : Int32))]))
      refine gv (fun tQ kQ => XS.iconst X34.here hx rfl (hb hby at_189) kQ) ?_
      show G (T34.setTop (mkF me_ 190 #[.val (.int p0), .val (.long p1), .second, .val (.int p2), .val (.int (3 : Int32)), .val (.ref A_MEMBERS), .val (.long (10000 : Int64)), .second, .unset, .unset, .unset, .unset] [(.int (0 : Int32)), (.int (0 : Int32))]))
      refine gv (fun tQ kQ => XS.icmpNo X34.here hx rfl (hb hby at_190) rfl (teq (by decide : (0 : Int32) = (0 : Int32))).2 kQ) ?_
      show G (T34.setTop (mkF me_ 193 #[.val (.int p0), .val (.long p1), .second, .val (.int p2), .val (.int (3 : Int32)), .val (.ref A_MEMBERS), .val (.long (10000 : Int64)), .second, .unset, .unset, .unset, .unset] []))
      refine gv (fun tQ kQ => XS.iconst X34.here hx rfl (hb hby at_193) kQ) ?_
      show G (T34.setTop (mkF me_ 194 #[.val (.int p0), .val (.long p1), .second, .val (.int p2), .val (.int (3 : Int32)), .val (.ref A_MEMBERS), .val (.long (10000 : Int64)), .second, .unset, .unset, .unset, .unset] [(.int (1 : Int32))]))
      refine gv (fun tQ kQ => XS.goto X34.here hx rfl (pc0 := 194) (pc' := 198) rfl (hb hby at_194) (by decide) (by decide) kQ) ?_
      show G (T34.setTop (mkF me_ 198 #[.val (.int p0), .val (.long p1), .second, .val (.int p2), .val (.int (3 : Int32)), .val (.ref A_MEMBERS), .val (.long (10000 : Int64)), .second, .unset, .unset, .unset, .unset] [(.int (1 : Int32))]))
      refine gv (fun tQ kQ => XS.istore X34.here hx rfl (hb hby at_198) rfl (l' := #[.val (.int p0), .val (.long p1), .second, .val (.int p2), .val (.int (3 : Int32)), .val (.ref A_MEMBERS), .val (.long (10000 : Int64)), .second, .val (.int (1 : Int32)), .unset, .unset, .unset]) rfl kQ) ?_
      show G (T34.setTop (mkF me_ 200 #[.val (.int p0), .val (.long p1), .second, .val (.int p2), .val (.int (3 : Int32)), .val (.ref A_MEMBERS), .val (.long (10000 : Int64)), .second, .val (.int (1 : Int32)), .unset, .unset, .unset] []))
      refine gv (fun tQ kQ => XS.lload X34.here hx rfl (hb hby at_200) rfl kQ) ?_
      show G (T34.setTop (mkF me_ 202 #[.val (.int p0), .val (.long p1), .second, .val (.int p2), .val (.int (3 : Int32)), .val (.ref A_MEMBERS), .val (.long (10000 : Int64)), .second, .val (.int (1 : Int32)), .unset, .unset, .unset] [(.long (10000 : Int64))]))
      refine gv (fun tQ kQ => XS.iloadN X34.here hx rfl (hb hby at_202) rfl kQ) ?_
      show G (T34.setTop (mkF me_ 203 #[.val (.int p0), .val (.long p1), .second, .val (.int p2), .val (.int (3 : Int32)), .val (.ref A_MEMBERS), .val (.long (10000 : Int64)), .second, .val (.int (1 : Int32)), .unset, .unset, .unset] [(.int p2), (.long (10000 : Int64))]))
      refine gv (fun tQ kQ => XS.iconst X34.here hx rfl (hb hby at_203) kQ) ?_
      show G (T34.setTop (mkF me_ 204 #[.val (.int p0), .val (.long p1), .second, .val (.int p2), .val (.int (3 : Int32)), .val (.ref A_MEMBERS), .val (.long (10000 : Int64)), .second, .val (.int (1 : Int32)), .unset, .unset, .unset] [(.int (3 : Int32)), (.int p2), (.long (10000 : Int64))]))
      refine gv (fun tQ kQ => XS.iand X34.here hx rfl (hb hby at_204) rfl kQ) ?_
      show G (T34.setTop (mkF me_ 205 #[.val (.int p0), .val (.long p1), .second, .val (.int p2), .val (.int (3 : Int32)), .val (.ref A_MEMBERS), .val (.long (10000 : Int64)), .second, .val (.int (1 : Int32)), .unset, .unset, .unset] [(.int (p2 &&& (3 : Int32))), (.long (10000 : Int64))]))
      refine gv (fun tQ kQ => XS.iconst X34.here hx rfl (hb hby at_205) kQ) ?_
      show G (T34.setTop (mkF me_ 206 #[.val (.int p0), .val (.long p1), .second, .val (.int p2), .val (.int (3 : Int32)), .val (.ref A_MEMBERS), .val (.long (10000 : Int64)), .second, .val (.int (1 : Int32)), .unset, .unset, .unset] [(.int (2 : Int32)), (.int (p2 &&& (3 : Int32))), (.long (10000 : Int64))]))
      refine gv (fun tQ kQ => XS.isub X34.here hx rfl (hb hby at_206) rfl kQ) ?_
      show G (T34.setTop (mkF me_ 207 #[.val (.int p0), .val (.long p1), .second, .val (.int p2), .val (.int (3 : Int32)), .val (.ref A_MEMBERS), .val (.long (10000 : Int64)), .second, .val (.int (1 : Int32)), .unset, .unset, .unset] [(.int ((p2 &&& (3 : Int32)) - (2 : Int32))), (.long (10000 : Int64))]))
      refine gv (fun tQ kQ => XS.i2l X34.here hx rfl (hb hby at_207) rfl kQ) ?_
      show G (T34.setTop (mkF me_ 208 #[.val (.int p0), .val (.long p1), .second, .val (.int p2), .val (.int (3 : Int32)), .val (.ref A_MEMBERS), .val (.long (10000 : Int64)), .second, .val (.int (1 : Int32)), .unset, .unset, .unset] [(.long (((p2 &&& (3 : Int32)) - (2 : Int32)).toInt64)), (.long (10000 : Int64))]))
      refine gv (fun tQ kQ => XS.ladd X34.here hx rfl (hb hby at_208) rfl kQ) ?_
      show G (T34.setTop (mkF me_ 209 #[.val (.int p0), .val (.long p1), .second, .val (.int p2), .val (.int (3 : Int32)), .val (.ref A_MEMBERS), .val (.long (10000 : Int64)), .second, .val (.int (1 : Int32)), .unset, .unset, .unset] [(.long ((10000 : Int64) + (((p2 &&& (3 : Int32)) - (2 : Int32)).toInt64)))]))
      refine gv (fun tQ kQ => XS.lstore X34.here hx rfl (hb hby at_209) rfl (l' := #[.val (.int p0), .val (.long p1), .second, .val (.int p2), .val (.int (3 : Int32)), .val (.ref A_MEMBERS), .val (.long (10000 : Int64)), .second, .val (.int (1 : Int32)), .val (.long ((10000 : Int64) + (((p2 &&& (3 : Int32)) - (2 : Int32)).toInt64))), .second, .unset]) rfl kQ) ?_
      show G (T34.setTop (mkF me_ 211 #[.val (.int p0), .val (.long p1), .second, .val (.int p2), .val (.int (3 : Int32)), .val (.ref A_MEMBERS), .val (.long (10000 : Int64)), .second, .val (.int (1 : Int32)), .val (.long ((10000 : Int64) + (((p2 &&& (3 : Int32)) - (2 : Int32)).toInt64))), .second, .unset] []))
      refine gv (fun tQ kQ => XS.aload X34.here hx rfl (hb hby at_211) rfl rfl kQ) ?_
      show G (T34.setTop (mkF me_ 213 #[.val (.int p0), .val (.long p1), .second, .val (.int p2), .val (.int (3 : Int32)), .val (.ref A_MEMBERS), .val (.long (10000 : Int64)), .second, .val (.int (1 : Int32)), .val (.long ((10000 : Int64) + (((p2 &&& (3 : Int32)) - (2 : Int32)).toInt64))), .second, .unset] [(.ref A_MEMBERS)]))
      refine gv (fun tQ kQ => XS.lload X34.here hx rfl (hb hby at_213) rfl kQ) ?_
      show G (T34.setTop (mkF me_ 215 #[.val (.int p0), .val (.long p1), .second, .val (.int p2), .val (.int (3 : Int32)), .val (.ref A_MEMBERS), .val (.long (10000 : Int64)), .second, .val (.int (1 : Int32)), .val (.long ((10000 : Int64) + (((p2 &&& (3 : Int32)) - (2 : Int32)).toInt64))), .second, .unset] [(.long ((10000 : Int64) + (((p2 &&& (3 : Int32)) - (2 : Int32)).toInt64))), (.ref A_MEMBERS)]))
      obtain ⟨cq37, kq37, q37a, q37b, q37c⟩ := isOf hZ eq34 (u12.ext O0.2)
      obtain ⟨_, _, ⟨T37, L37, k37, n37⟩, -, X37, ⟨Lc37, hQ37, l37, y37, z37⟩, st37⟩ := X34.virtualBack hx (y := (⟨"com/example/slot1/slot1/server/Limit", "allows", "(J)Z"⟩ : MethodName)) (z := (⟨"com/example/slot1/slot1/server/Limit", "allows", "(J)Z"⟩ : MethodName)) hown (mvT hZ (hw _ (List.mem_of_getElem? (i := 5) rfl))) (mvT hZ (hw _ (List.mem_of_getElem? (i := 6) rfl))) (notFace_of_selects (args := #[]) (mvT hZ (hw _ (List.mem_of_getElem? (i := 8) rfl)))) (mvT hZ (hw _ (List.mem_of_getElem? (i := 8) rfl))) (mvT hZ (hw _ (List.mem_of_getElem? (i := 7) rfl))) (by decide) (backOf (W := 0) (rm_allows l Z a0 hw [] A_MEMBERS ((10000 : Int64) + (((p2 &&& (3 : Int32)) - (2 : Int32)).toInt64)) (10000 : Int64) h0 n0 O0 (u21.ext O0.2)) hZ (hw _ (List.mem_of_getElem? (i := 9) rfl)) (hw _ (List.mem_of_getElem? (i := 2) rfl)) (by decide) (by decide)) q37a q37c (g := (mkF me_ 215 #[.val (.int p0), .val (.long p1), .second, .val (.int p2), .val (.int (3 : Int32)), .val (.ref A_MEMBERS), .val (.long (10000 : Int64)), .second, .val (.int (1 : Int32)), .val (.long ((10000 : Int64) + (((p2 &&& (3 : Int32)) - (2 : Int32)).toInt64))), .second, .unset] [(.long ((10000 : Int64) + (((p2 &&& (3 : Int32)) - (2 : Int32)).toInt64))), (.ref A_MEMBERS)])) rfl (by rw [hml]; rfl) (Steps.refl _) (argsL := [(.long ((10000 : Int64) + (((p2 &&& (3 : Int32)) - (2 : Int32)).toInt64)))]) (rest := []) (lenOf pd_0 rfl) rfl (by show 2 * 0 + _ ≤ _; exact Nat.le_of_eq rfl) (hb hby at_215) (fun _ _ => ⟨rfl, eq34, (by decide : 0 + 0 ≤ _), (by decide : 0 + 0 ≤ _)⟩)
      dsimp only [Pt.U, Pt.locs, Pt.cells, Pt.slots] at X37 l37 y37 z37 st37 hQ37
      subst l37 y37 z37
      obtain ⟨rfl, Nq37, eq37⟩ := hQ37
      have N38 := Fr.app N35 Nq37
      by_cases hb39 : (10000 : Int64) < ((10000 : Int64) + (((p2 &&& (3 : Int32)) - (2 : Int32)).toInt64))
      · rw [if_pos hb39] at st37
        refine gv (fun tQ kQ => st37.trans kQ) ?_
        show G (T37.setTop (mkF me_ 218 #[.val (.int p0), .val (.long p1), .second, .val (.int p2), .val (.int (3 : Int32)), .val (.ref A_MEMBERS), .val (.long (10000 : Int64)), .second, .val (.int (1 : Int32)), .val (.long ((10000 : Int64) + (((p2 &&& (3 : Int32)) - (2 : Int32)).toInt64))), .second, .unset] [(.int (0 : Int32))]))
        refine gv (fun tQ kQ => XS.lload X37.here hx rfl (hb hby at_218) rfl kQ) ?_
        show G (T37.setTop (mkF me_ 220 #[.val (.int p0), .val (.long p1), .second, .val (.int p2), .val (.int (3 : Int32)), .val (.ref A_MEMBERS), .val (.long (10000 : Int64)), .second, .val (.int (1 : Int32)), .val (.long ((10000 : Int64) + (((p2 &&& (3 : Int32)) - (2 : Int32)).toInt64))), .second, .unset] [(.long ((10000 : Int64) + (((p2 &&& (3 : Int32)) - (2 : Int32)).toInt64))), (.int (0 : Int32))]))
        refine gv (fun tQ kQ => XS.lload X37.here hx rfl (hb hby at_220) rfl kQ) ?_
        show G (T37.setTop (mkF me_ 222 #[.val (.int p0), .val (.long p1), .second, .val (.int p2), .val (.int (3 : Int32)), .val (.ref A_MEMBERS), .val (.long (10000 : Int64)), .second, .val (.int (1 : Int32)), .val (.long ((10000 : Int64) + (((p2 &&& (3 : Int32)) - (2 : Int32)).toInt64))), .second, .unset] [(.long (10000 : Int64)), (.long ((10000 : Int64) + (((p2 &&& (3 : Int32)) - (2 : Int32)).toInt64))), (.int (0 : Int32))]))
        refine gv (fun tQ kQ => XS.lcmp X37.here hx rfl (hb hby at_222) rfl kQ) ?_
        show G (T37.setTop (mkF me_ 223 #[.val (.int p0), .val (.long p1), .second, .val (.int p2), .val (.int (3 : Int32)), .val (.ref A_MEMBERS), .val (.long (10000 : Int64)), .second, .val (.int (1 : Int32)), .val (.long ((10000 : Int64) + (((p2 &&& (3 : Int32)) - (2 : Int32)).toInt64))), .second, .unset] [(.int (lcmpW ((10000 : Int64) + (((p2 &&& (3 : Int32)) - (2 : Int32)).toInt64)) (10000 : Int64))), (.int (0 : Int32))]))
        refine gv (fun tQ kQ => XS.ifYes X37.here hx rfl (pc0 := 223) (pc' := 230) rfl (hb hby at_223) rfl ((if0 _ _).trans (tlt ((lw_gt _ _).mpr hb39)).2.2.1) (by decide) (by decide) kQ) ?_
        show G (T37.setTop (mkF me_ 230 #[.val (.int p0), .val (.long p1), .second, .val (.int p2), .val (.int (3 : Int32)), .val (.ref A_MEMBERS), .val (.long (10000 : Int64)), .second, .val (.int (1 : Int32)), .val (.long ((10000 : Int64) + (((p2 &&& (3 : Int32)) - (2 : Int32)).toInt64))), .second, .unset] [(.int (0 : Int32))]))
        refine gv (fun tQ kQ => XS.iconst X37.here hx rfl (hb hby at_230) kQ) ?_
        show G (T37.setTop (mkF me_ 231 #[.val (.int p0), .val (.long p1), .second, .val (.int p2), .val (.int (3 : Int32)), .val (.ref A_MEMBERS), .val (.long (10000 : Int64)), .second, .val (.int (1 : Int32)), .val (.long ((10000 : Int64) + (((p2 &&& (3 : Int32)) - (2 : Int32)).toInt64))), .second, .unset] [(.int (0 : Int32)), (.int (0 : Int32))]))
        refine gv (fun tQ kQ => XS.icmpNo X37.here hx rfl (hb hby at_231) rfl (teq (by decide : (0 : Int32) = (0 : Int32))).2 kQ) ?_
        show G (T37.setTop (mkF me_ 234 #[.val (.int p0), .val (.long p1), .second, .val (.int p2), .val (.int (3 : Int32)), .val (.ref A_MEMBERS), .val (.long (10000 : Int64)), .second, .val (.int (1 : Int32)), .val (.long ((10000 : Int64) + (((p2 &&& (3 : Int32)) - (2 : Int32)).toInt64))), .second, .unset] []))
        refine gv (fun tQ kQ => XS.iconst X37.here hx rfl (hb hby at_234) kQ) ?_
        show G (T37.setTop (mkF me_ 235 #[.val (.int p0), .val (.long p1), .second, .val (.int p2), .val (.int (3 : Int32)), .val (.ref A_MEMBERS), .val (.long (10000 : Int64)), .second, .val (.int (1 : Int32)), .val (.long ((10000 : Int64) + (((p2 &&& (3 : Int32)) - (2 : Int32)).toInt64))), .second, .unset] [(.int (1 : Int32))]))
        refine gv (fun tQ kQ => XS.goto X37.here hx rfl (pc0 := 235) (pc' := 239) rfl (hb hby at_235) (by decide) (by decide) kQ) ?_
        show G (T37.setTop (mkF me_ 239 #[.val (.int p0), .val (.long p1), .second, .val (.int p2), .val (.int (3 : Int32)), .val (.ref A_MEMBERS), .val (.long (10000 : Int64)), .second, .val (.int (1 : Int32)), .val (.long ((10000 : Int64) + (((p2 &&& (3 : Int32)) - (2 : Int32)).toInt64))), .second, .unset] [(.int (1 : Int32))]))
        refine gv (fun tQ kQ => XS.istore X37.here hx rfl (hb hby at_239) rfl (l' := #[.val (.int p0), .val (.long p1), .second, .val (.int p2), .val (.int (3 : Int32)), .val (.ref A_MEMBERS), .val (.long (10000 : Int64)), .second, .val (.int (1 : Int32)), .val (.long ((10000 : Int64) + (((p2 &&& (3 : Int32)) - (2 : Int32)).toInt64))), .second, .val (.int (1 : Int32))]) rfl kQ) ?_
        show G (T37.setTop (mkF me_ 241 #[.val (.int p0), .val (.long p1), .second, .val (.int p2), .val (.int (3 : Int32)), .val (.ref A_MEMBERS), .val (.long (10000 : Int64)), .second, .val (.int (1 : Int32)), .val (.long ((10000 : Int64) + (((p2 &&& (3 : Int32)) - (2 : Int32)).toInt64))), .second, .val (.int (1 : Int32))] []))
        refine gv (fun tQ kQ => XS.iload X37.here hx rfl (hb hby at_241) rfl kQ) ?_
        show G (T37.setTop (mkF me_ 243 #[.val (.int p0), .val (.long p1), .second, .val (.int p2), .val (.int (3 : Int32)), .val (.ref A_MEMBERS), .val (.long (10000 : Int64)), .second, .val (.int (1 : Int32)), .val (.long ((10000 : Int64) + (((p2 &&& (3 : Int32)) - (2 : Int32)).toInt64))), .second, .val (.int (1 : Int32))] [(.int (1 : Int32))]))
        refine gv (fun tQ kQ => XS.ifNo X37.here hx rfl (hb hby at_243) rfl ((if0 _ _).trans (feq (by decide : ¬ ((1 : Int32) = (0 : Int32)))).1) kQ) ?_
        show G (T37.setTop (mkF me_ 246 #[.val (.int p0), .val (.long p1), .second, .val (.int p2), .val (.int (3 : Int32)), .val (.ref A_MEMBERS), .val (.long (10000 : Int64)), .second, .val (.int (1 : Int32)), .val (.long ((10000 : Int64) + (((p2 &&& (3 : Int32)) - (2 : Int32)).toInt64))), .second, .val (.int (1 : Int32))] []))
        refine gv (fun tQ kQ => XS.iload X37.here hx rfl (hb hby at_246) rfl kQ) ?_
        show G (T37.setTop (mkF me_ 248 #[.val (.int p0), .val (.long p1), .second, .val (.int p2), .val (.int (3 : Int32)), .val (.ref A_MEMBERS), .val (.long (10000 : Int64)), .second, .val (.int (1 : Int32)), .val (.long ((10000 : Int64) + (((p2 &&& (3 : Int32)) - (2 : Int32)).toInt64))), .second, .val (.int (1 : Int32))] [(.int (1 : Int32))]))
        refine gv (fun tQ kQ => XS.ifNo X37.here hx rfl (hb hby at_248) rfl ((if0 _ _).trans (feq (by decide : ¬ ((1 : Int32) = (0 : Int32)))).1) kQ) ?_
        show G (T37.setTop (mkF me_ 251 #[.val (.int p0), .val (.long p1), .second, .val (.int p2), .val (.int (3 : Int32)), .val (.ref A_MEMBERS), .val (.long (10000 : Int64)), .second, .val (.int (1 : Int32)), .val (.long ((10000 : Int64) + (((p2 &&& (3 : Int32)) - (2 : Int32)).toInt64))), .second, .val (.int (1 : Int32))] []))
        refine gv (fun tQ kQ => XS.iconst X37.here hx rfl (hb hby at_251) kQ) ?_
        show G (T37.setTop (mkF me_ 252 #[.val (.int p0), .val (.long p1), .second, .val (.int p2), .val (.int (3 : Int32)), .val (.ref A_MEMBERS), .val (.long (10000 : Int64)), .second, .val (.int (1 : Int32)), .val (.long ((10000 : Int64) + (((p2 &&& (3 : Int32)) - (2 : Int32)).toInt64))), .second, .val (.int (1 : Int32))] [(.int (1 : Int32))]))
        refine gv (fun tQ kQ => XS.goto X37.here hx rfl (pc0 := 252) (pc' := 256) rfl (hb hby at_252) (by decide) (by decide) kQ) ?_
        show G (T37.setTop (mkF me_ 256 #[.val (.int p0), .val (.long p1), .second, .val (.int p2), .val (.int (3 : Int32)), .val (.ref A_MEMBERS), .val (.long (10000 : Int64)), .second, .val (.int (1 : Int32)), .val (.long ((10000 : Int64) + (((p2 &&& (3 : Int32)) - (2 : Int32)).toInt64))), .second, .val (.int (1 : Int32))] [(.int (1 : Int32))]))
        refine gf _ (own_ret X37 Bd.notSynchronized (v := some (.int (1 : Int32))) (fun h => by rw [Bd.returns] at h; cases h) ?_ (by decide) (by decide) (fun fs hr => retN X37 hx (t := .boolean) Bd.returns (by simp) (hb hby at_256) hr))
        show Q0 Z p0 p1 p2 A_TOPICS A_ROUTE_QUEUES A_GROUPS A_MEMBERS A_GROUP_MEMBERS A_MEMBER_TOPICS A_QUEUES A_OFFSETS A_OPTIONS_BYTES h0 n0 _ T37.heap _
        rw [eq37]
        exact ⟨rfl, N38⟩
      · skip
        rw [if_neg hb39] at st37
        refine gv (fun tQ kQ => st37.trans kQ) ?_
        show G (T37.setTop (mkF me_ 218 #[.val (.int p0), .val (.long p1), .second, .val (.int p2), .val (.int (3 : Int32)), .val (.ref A_MEMBERS), .val (.long (10000 : Int64)), .second, .val (.int (1 : Int32)), .val (.long ((10000 : Int64) + (((p2 &&& (3 : Int32)) - (2 : Int32)).toInt64))), .second, .unset] [(.int (1 : Int32))]))
        refine gv (fun tQ kQ => XS.lload X37.here hx rfl (hb hby at_218) rfl kQ) ?_
        show G (T37.setTop (mkF me_ 220 #[.val (.int p0), .val (.long p1), .second, .val (.int p2), .val (.int (3 : Int32)), .val (.ref A_MEMBERS), .val (.long (10000 : Int64)), .second, .val (.int (1 : Int32)), .val (.long ((10000 : Int64) + (((p2 &&& (3 : Int32)) - (2 : Int32)).toInt64))), .second, .unset] [(.long ((10000 : Int64) + (((p2 &&& (3 : Int32)) - (2 : Int32)).toInt64))), (.int (1 : Int32))]))
        refine gv (fun tQ kQ => XS.lload X37.here hx rfl (hb hby at_220) rfl kQ) ?_
        show G (T37.setTop (mkF me_ 222 #[.val (.int p0), .val (.long p1), .second, .val (.int p2), .val (.int (3 : Int32)), .val (.ref A_MEMBERS), .val (.long (10000 : Int64)), .second, .val (.int (1 : Int32)), .val (.long ((10000 : Int64) + (((p2 &&& (3 : Int32)) - (2 : Int32)).toInt64))), .second, .unset] [(.long (10000 : Int64)), (.long ((10000 : Int64) + (((p2 &&& (3 : Int32)) - (2 : Int32)).toInt64))), (.int (1 : Int32))]))
        refine gv (fun tQ kQ => XS.lcmp X37.here hx rfl (hb hby at_222) rfl kQ) ?_
        show G (T37.setTop (mkF me_ 223 #[.val (.int p0), .val (.long p1), .second, .val (.int p2), .val (.int (3 : Int32)), .val (.ref A_MEMBERS), .val (.long (10000 : Int64)), .second, .val (.int (1 : Int32)), .val (.long ((10000 : Int64) + (((p2 &&& (3 : Int32)) - (2 : Int32)).toInt64))), .second, .unset] [(.int (lcmpW ((10000 : Int64) + (((p2 &&& (3 : Int32)) - (2 : Int32)).toInt64)) (10000 : Int64))), (.int (1 : Int32))]))
        refine gv (fun tQ kQ => XS.ifNo X37.here hx rfl (hb hby at_223) rfl ((if0 _ _).trans (flt (mt (lw_gt _ _).mp hb39)).2.2.1) kQ) ?_
        show G (T37.setTop (mkF me_ 226 #[.val (.int p0), .val (.long p1), .second, .val (.int p2), .val (.int (3 : Int32)), .val (.ref A_MEMBERS), .val (.long (10000 : Int64)), .second, .val (.int (1 : Int32)), .val (.long ((10000 : Int64) + (((p2 &&& (3 : Int32)) - (2 : Int32)).toInt64))), .second, .unset] [(.int (1 : Int32))]))
        refine gv (fun tQ kQ => XS.iconst X37.here hx rfl (hb hby at_226) kQ) ?_
        show G (T37.setTop (mkF me_ 227 #[.val (.int p0), .val (.long p1), .second, .val (.int p2), .val (.int (3 : Int32)), .val (.ref A_MEMBERS), .val (.long (10000 : Int64)), .second, .val (.int (1 : Int32)), .val (.long ((10000 : Int64) + (((p2 &&& (3 : Int32)) - (2 : Int32)).toInt64))), .second, .unset] [(.int (1 : Int32)), (.int (1 : Int32))]))
        refine gv (fun tQ kQ => XS.goto X37.here hx rfl (pc0 := 227) (pc' := 231) rfl (hb hby at_227) (by decide) (by decide) kQ) ?_
        show G (T37.setTop (mkF me_ 231 #[.val (.int p0), .val (.long p1), .second, .val (.int p2), .val (.int (3 : Int32)), .val (.ref A_MEMBERS), .val (.long (10000 : Int64)), .second, .val (.int (1 : Int32)), .val (.long ((10000 : Int64) + (((p2 &&& (3 : Int32)) - (2 : Int32)).toInt64))), .second, .unset] [(.int (1 : Int32)), (.int (1 : Int32))]))
        refine gv (fun tQ kQ => XS.icmpNo X37.here hx rfl (hb hby at_231) rfl (teq (by decide : (1 : Int32) = (1 : Int32))).2 kQ) ?_
        show G (T37.setTop (mkF me_ 234 #[.val (.int p0), .val (.long p1), .second, .val (.int p2), .val (.int (3 : Int32)), .val (.ref A_MEMBERS), .val (.long (10000 : Int64)), .second, .val (.int (1 : Int32)), .val (.long ((10000 : Int64) + (((p2 &&& (3 : Int32)) - (2 : Int32)).toInt64))), .second, .unset] []))
        refine gv (fun tQ kQ => XS.iconst X37.here hx rfl (hb hby at_234) kQ) ?_
        show G (T37.setTop (mkF me_ 235 #[.val (.int p0), .val (.long p1), .second, .val (.int p2), .val (.int (3 : Int32)), .val (.ref A_MEMBERS), .val (.long (10000 : Int64)), .second, .val (.int (1 : Int32)), .val (.long ((10000 : Int64) + (((p2 &&& (3 : Int32)) - (2 : Int32)).toInt64))), .second, .unset] [(.int (1 : Int32))]))
        refine gv (fun tQ kQ => XS.goto X37.here hx rfl (pc0 := 235) (pc' := 239) rfl (hb hby at_235) (by decide) (by decide) kQ) ?_
        show G (T37.setTop (mkF me_ 239 #[.val (.int p0), .val (.long p1), .second, .val (.int p2), .val (.int (3 : Int32)), .val (.ref A_MEMBERS), .val (.long (10000 : Int64)), .second, .val (.int (1 : Int32)), .val (.long ((10000 : Int64) + (((p2 &&& (3 : Int32)) - (2 : Int32)).toInt64))), .second, .unset] [(.int (1 : Int32))]))
        refine gv (fun tQ kQ => XS.istore X37.here hx rfl (hb hby at_239) rfl (l' := #[.val (.int p0), .val (.long p1), .second, .val (.int p2), .val (.int (3 : Int32)), .val (.ref A_MEMBERS), .val (.long (10000 : Int64)), .second, .val (.int (1 : Int32)), .val (.long ((10000 : Int64) + (((p2 &&& (3 : Int32)) - (2 : Int32)).toInt64))), .second, .val (.int (1 : Int32))]) rfl kQ) ?_
        show G (T37.setTop (mkF me_ 241 #[.val (.int p0), .val (.long p1), .second, .val (.int p2), .val (.int (3 : Int32)), .val (.ref A_MEMBERS), .val (.long (10000 : Int64)), .second, .val (.int (1 : Int32)), .val (.long ((10000 : Int64) + (((p2 &&& (3 : Int32)) - (2 : Int32)).toInt64))), .second, .val (.int (1 : Int32))] []))
        refine gv (fun tQ kQ => XS.iload X37.here hx rfl (hb hby at_241) rfl kQ) ?_
        show G (T37.setTop (mkF me_ 243 #[.val (.int p0), .val (.long p1), .second, .val (.int p2), .val (.int (3 : Int32)), .val (.ref A_MEMBERS), .val (.long (10000 : Int64)), .second, .val (.int (1 : Int32)), .val (.long ((10000 : Int64) + (((p2 &&& (3 : Int32)) - (2 : Int32)).toInt64))), .second, .val (.int (1 : Int32))] [(.int (1 : Int32))]))
        refine gv (fun tQ kQ => XS.ifNo X37.here hx rfl (hb hby at_243) rfl ((if0 _ _).trans (feq (by decide : ¬ ((1 : Int32) = (0 : Int32)))).1) kQ) ?_
        show G (T37.setTop (mkF me_ 246 #[.val (.int p0), .val (.long p1), .second, .val (.int p2), .val (.int (3 : Int32)), .val (.ref A_MEMBERS), .val (.long (10000 : Int64)), .second, .val (.int (1 : Int32)), .val (.long ((10000 : Int64) + (((p2 &&& (3 : Int32)) - (2 : Int32)).toInt64))), .second, .val (.int (1 : Int32))] []))
        refine gv (fun tQ kQ => XS.iload X37.here hx rfl (hb hby at_246) rfl kQ) ?_
        show G (T37.setTop (mkF me_ 248 #[.val (.int p0), .val (.long p1), .second, .val (.int p2), .val (.int (3 : Int32)), .val (.ref A_MEMBERS), .val (.long (10000 : Int64)), .second, .val (.int (1 : Int32)), .val (.long ((10000 : Int64) + (((p2 &&& (3 : Int32)) - (2 : Int32)).toInt64))), .second, .val (.int (1 : Int32))] [(.int (1 : Int32))]))
        refine gv (fun tQ kQ => XS.ifNo X37.here hx rfl (hb hby at_248) rfl ((if0 _ _).trans (feq (by decide : ¬ ((1 : Int32) = (0 : Int32)))).1) kQ) ?_
        show G (T37.setTop (mkF me_ 251 #[.val (.int p0), .val (.long p1), .second, .val (.int p2), .val (.int (3 : Int32)), .val (.ref A_MEMBERS), .val (.long (10000 : Int64)), .second, .val (.int (1 : Int32)), .val (.long ((10000 : Int64) + (((p2 &&& (3 : Int32)) - (2 : Int32)).toInt64))), .second, .val (.int (1 : Int32))] []))
        refine gv (fun tQ kQ => XS.iconst X37.here hx rfl (hb hby at_251) kQ) ?_
        show G (T37.setTop (mkF me_ 252 #[.val (.int p0), .val (.long p1), .second, .val (.int p2), .val (.int (3 : Int32)), .val (.ref A_MEMBERS), .val (.long (10000 : Int64)), .second, .val (.int (1 : Int32)), .val (.long ((10000 : Int64) + (((p2 &&& (3 : Int32)) - (2 : Int32)).toInt64))), .second, .val (.int (1 : Int32))] [(.int (1 : Int32))]))
        refine gv (fun tQ kQ => XS.goto X37.here hx rfl (pc0 := 252) (pc' := 256) rfl (hb hby at_252) (by decide) (by decide) kQ) ?_
        show G (T37.setTop (mkF me_ 256 #[.val (.int p0), .val (.long p1), .second, .val (.int p2), .val (.int (3 : Int32)), .val (.ref A_MEMBERS), .val (.long (10000 : Int64)), .second, .val (.int (1 : Int32)), .val (.long ((10000 : Int64) + (((p2 &&& (3 : Int32)) - (2 : Int32)).toInt64))), .second, .val (.int (1 : Int32))] [(.int (1 : Int32))]))
        refine gf _ (own_ret X37 Bd.notSynchronized (v := some (.int (1 : Int32))) (fun h => by rw [Bd.returns] at h; cases h) ?_ (by decide) (by decide) (fun fs hr => retN X37 hx (t := .boolean) Bd.returns (by simp) (hb hby at_256) hr))
        show Q0 Z p0 p1 p2 A_TOPICS A_ROUTE_QUEUES A_GROUPS A_MEMBERS A_GROUP_MEMBERS A_MEMBER_TOPICS A_QUEUES A_OFFSETS A_OPTIONS_BYTES h0 n0 _ T37.heap _
        rw [eq37]
        exact ⟨rfl, N38⟩
    · skip
      rw [if_neg hb36] at st34
      refine gv (fun tQ kQ => st34.trans kQ) ?_
      show G (T34.setTop (mkF me_ 178 #[.val (.int p0), .val (.long p1), .second, .val (.int p2), .val (.int (3 : Int32)), .val (.ref A_MEMBERS), .val (.long (10000 : Int64)), .second, .unset, .unset, .unset, .unset] [(.int (1 : Int32))]))
      refine gv (fun tQ kQ => XS.lloadN X34.here hx rfl (hb hby at_178) rfl kQ) ?_
      show G (T34.setTop (mkF me_ 179 #[.val (.int p0), .val (.long p1), .second, .val (.int p2), .val (.int (3 : Int32)), .val (.ref A_MEMBERS), .val (.long (10000 : Int64)), .second, .unset, .unset, .unset, .unset] [(.long p1), (.int (1 : Int32))]))
      refine gv (fun tQ kQ => XS.lload X34.here hx rfl (hb hby at_179) rfl kQ) ?_
      show G (T34.setTop (mkF me_ 181 #[.val (.int p0), .val (.long p1), .second, .val (.int p2), .val (.int (3 : Int32)), .val (.ref A_MEMBERS), .val (.long (10000 : Int64)), .second, .unset, .unset, .unset, .unset] [(.long (10000 : Int64)), (.long p1), (.int (1 : Int32))]))
      refine gv (fun tQ kQ => XS.lcmp X34.here hx rfl (hb hby at_181) rfl kQ) ?_
      show G (T34.setTop (mkF me_ 182 #[.val (.int p0), .val (.long p1), .second, .val (.int p2), .val (.int (3 : Int32)), .val (.ref A_MEMBERS), .val (.long (10000 : Int64)), .second, .unset, .unset, .unset, .unset] [(.int (lcmpW p1 (10000 : Int64))), (.int (1 : Int32))]))
      refine gv (fun tQ kQ => XS.ifNo X34.here hx rfl (hb hby at_182) rfl ((if0 _ _).trans (flt (mt (lw_gt _ _).mp hb36)).2.2.1) kQ) ?_
      show G (T34.setTop (mkF me_ 185 #[.val (.int p0), .val (.long p1), .second, .val (.int p2), .val (.int (3 : Int32)), .val (.ref A_MEMBERS), .val (.long (10000 : Int64)), .second, .unset, .unset, .unset, .unset] [(.int (1 : Int32))]))
      refine gv (fun tQ kQ => XS.iconst X34.here hx rfl (hb hby at_185) kQ) ?_
      show G (T34.setTop (mkF me_ 186 #[.val (.int p0), .val (.long p1), .second, .val (.int p2), .val (.int (3 : Int32)), .val (.ref A_MEMBERS), .val (.long (10000 : Int64)), .second, .unset, .unset, .unset, .unset] [(.int (1 : Int32)), (.int (1 : Int32))]))
      refine gv (fun tQ kQ => XS.goto X34.here hx rfl (pc0 := 186) (pc' := 190) rfl (hb hby at_186) (by decide) (by decide) kQ) ?_
      show G (T34.setTop (mkF me_ 190 #[.val (.int p0), .val (.long p1), .second, .val (.int p2), .val (.int (3 : Int32)), .val (.ref A_MEMBERS), .val (.long (10000 : Int64)), .second, .unset, .unset, .unset, .unset] [(.int (1 : Int32)), (.int (1 : Int32))]))
      refine gv (fun tQ kQ => XS.icmpNo X34.here hx rfl (hb hby at_190) rfl (teq (by decide : (1 : Int32) = (1 : Int32))).2 kQ) ?_
      show G (T34.setTop (mkF me_ 193 #[.val (.int p0), .val (.long p1), .second, .val (.int p2), .val (.int (3 : Int32)), .val (.ref A_MEMBERS), .val (.long (10000 : Int64)), .second, .unset, .unset, .unset, .unset] []))
      refine gv (fun tQ kQ => XS.iconst X34.here hx rfl (hb hby at_193) kQ) ?_
      show G (T34.setTop (mkF me_ 194 #[.val (.int p0), .val (.long p1), .second, .val (.int p2), .val (.int (3 : Int32)), .val (.ref A_MEMBERS), .val (.long (10000 : Int64)), .second, .unset, .unset, .unset, .unset] [(.int (1 : Int32))]))
      refine gv (fun tQ kQ => XS.goto X34.here hx rfl (pc0 := 194) (pc' := 198) rfl (hb hby at_194) (by decide) (by decide) kQ) ?_
      show G (T34.setTop (mkF me_ 198 #[.val (.int p0), .val (.long p1), .second, .val (.int p2), .val (.int (3 : Int32)), .val (.ref A_MEMBERS), .val (.long (10000 : Int64)), .second, .unset, .unset, .unset, .unset] [(.int (1 : Int32))]))
      refine gv (fun tQ kQ => XS.istore X34.here hx rfl (hb hby at_198) rfl (l' := #[.val (.int p0), .val (.long p1), .second, .val (.int p2), .val (.int (3 : Int32)), .val (.ref A_MEMBERS), .val (.long (10000 : Int64)), .second, .val (.int (1 : Int32)), .unset, .unset, .unset]) rfl kQ) ?_
      show G (T34.setTop (mkF me_ 200 #[.val (.int p0), .val (.long p1), .second, .val (.int p2), .val (.int (3 : Int32)), .val (.ref A_MEMBERS), .val (.long (10000 : Int64)), .second, .val (.int (1 : Int32)), .unset, .unset, .unset] []))
      refine gv (fun tQ kQ => XS.lload X34.here hx rfl (hb hby at_200) rfl kQ) ?_
      show G (T34.setTop (mkF me_ 202 #[.val (.int p0), .val (.long p1), .second, .val (.int p2), .val (.int (3 : Int32)), .val (.ref A_MEMBERS), .val (.long (10000 : Int64)), .second, .val (.int (1 : Int32)), .unset, .unset, .unset] [(.long (10000 : Int64))]))
      refine gv (fun tQ kQ => XS.iloadN X34.here hx rfl (hb hby at_202) rfl kQ) ?_
      show G (T34.setTop (mkF me_ 203 #[.val (.int p0), .val (.long p1), .second, .val (.int p2), .val (.int (3 : Int32)), .val (.ref A_MEMBERS), .val (.long (10000 : Int64)), .second, .val (.int (1 : Int32)), .unset, .unset, .unset] [(.int p2), (.long (10000 : Int64))]))
      refine gv (fun tQ kQ => XS.iconst X34.here hx rfl (hb hby at_203) kQ) ?_
      show G (T34.setTop (mkF me_ 204 #[.val (.int p0), .val (.long p1), .second, .val (.int p2), .val (.int (3 : Int32)), .val (.ref A_MEMBERS), .val (.long (10000 : Int64)), .second, .val (.int (1 : Int32)), .unset, .unset, .unset] [(.int (3 : Int32)), (.int p2), (.long (10000 : Int64))]))
      refine gv (fun tQ kQ => XS.iand X34.here hx rfl (hb hby at_204) rfl kQ) ?_
      show G (T34.setTop (mkF me_ 205 #[.val (.int p0), .val (.long p1), .second, .val (.int p2), .val (.int (3 : Int32)), .val (.ref A_MEMBERS), .val (.long (10000 : Int64)), .second, .val (.int (1 : Int32)), .unset, .unset, .unset] [(.int (p2 &&& (3 : Int32))), (.long (10000 : Int64))]))
      refine gv (fun tQ kQ => XS.iconst X34.here hx rfl (hb hby at_205) kQ) ?_
      show G (T34.setTop (mkF me_ 206 #[.val (.int p0), .val (.long p1), .second, .val (.int p2), .val (.int (3 : Int32)), .val (.ref A_MEMBERS), .val (.long (10000 : Int64)), .second, .val (.int (1 : Int32)), .unset, .unset, .unset] [(.int (2 : Int32)), (.int (p2 &&& (3 : Int32))), (.long (10000 : Int64))]))
      refine gv (fun tQ kQ => XS.isub X34.here hx rfl (hb hby at_206) rfl kQ) ?_
      show G (T34.setTop (mkF me_ 207 #[.val (.int p0), .val (.long p1), .second, .val (.int p2), .val (.int (3 : Int32)), .val (.ref A_MEMBERS), .val (.long (10000 : Int64)), .second, .val (.int (1 : Int32)), .unset, .unset, .unset] [(.int ((p2 &&& (3 : Int32)) - (2 : Int32))), (.long (10000 : Int64))]))
      refine gv (fun tQ kQ => XS.i2l X34.here hx rfl (hb hby at_207) rfl kQ) ?_
      show G (T34.setTop (mkF me_ 208 #[.val (.int p0), .val (.long p1), .second, .val (.int p2), .val (.int (3 : Int32)), .val (.ref A_MEMBERS), .val (.long (10000 : Int64)), .second, .val (.int (1 : Int32)), .unset, .unset, .unset] [(.long (((p2 &&& (3 : Int32)) - (2 : Int32)).toInt64)), (.long (10000 : Int64))]))
      refine gv (fun tQ kQ => XS.ladd X34.here hx rfl (hb hby at_208) rfl kQ) ?_
      show G (T34.setTop (mkF me_ 209 #[.val (.int p0), .val (.long p1), .second, .val (.int p2), .val (.int (3 : Int32)), .val (.ref A_MEMBERS), .val (.long (10000 : Int64)), .second, .val (.int (1 : Int32)), .unset, .unset, .unset] [(.long ((10000 : Int64) + (((p2 &&& (3 : Int32)) - (2 : Int32)).toInt64)))]))
      refine gv (fun tQ kQ => XS.lstore X34.here hx rfl (hb hby at_209) rfl (l' := #[.val (.int p0), .val (.long p1), .second, .val (.int p2), .val (.int (3 : Int32)), .val (.ref A_MEMBERS), .val (.long (10000 : Int64)), .second, .val (.int (1 : Int32)), .val (.long ((10000 : Int64) + (((p2 &&& (3 : Int32)) - (2 : Int32)).toInt64))), .second, .unset]) rfl kQ) ?_
      show G (T34.setTop (mkF me_ 211 #[.val (.int p0), .val (.long p1), .second, .val (.int p2), .val (.int (3 : Int32)), .val (.ref A_MEMBERS), .val (.long (10000 : Int64)), .second, .val (.int (1 : Int32)), .val (.long ((10000 : Int64) + (((p2 &&& (3 : Int32)) - (2 : Int32)).toInt64))), .second, .unset] []))
      refine gv (fun tQ kQ => XS.aload X34.here hx rfl (hb hby at_211) rfl rfl kQ) ?_
      show G (T34.setTop (mkF me_ 213 #[.val (.int p0), .val (.long p1), .second, .val (.int p2), .val (.int (3 : Int32)), .val (.ref A_MEMBERS), .val (.long (10000 : Int64)), .second, .val (.int (1 : Int32)), .val (.long ((10000 : Int64) + (((p2 &&& (3 : Int32)) - (2 : Int32)).toInt64))), .second, .unset] [(.ref A_MEMBERS)]))
      refine gv (fun tQ kQ => XS.lload X34.here hx rfl (hb hby at_213) rfl kQ) ?_
      show G (T34.setTop (mkF me_ 215 #[.val (.int p0), .val (.long p1), .second, .val (.int p2), .val (.int (3 : Int32)), .val (.ref A_MEMBERS), .val (.long (10000 : Int64)), .second, .val (.int (1 : Int32)), .val (.long ((10000 : Int64) + (((p2 &&& (3 : Int32)) - (2 : Int32)).toInt64))), .second, .unset] [(.long ((10000 : Int64) + (((p2 &&& (3 : Int32)) - (2 : Int32)).toInt64))), (.ref A_MEMBERS)]))
      obtain ⟨cq40, kq40, q40a, q40b, q40c⟩ := isOf hZ eq34 (u12.ext O0.2)
      obtain ⟨_, _, ⟨T40, L40, k40, n40⟩, -, X40, ⟨Lc40, hQ40, l40, y40, z40⟩, st40⟩ := X34.virtualBack hx (y := (⟨"com/example/slot1/slot1/server/Limit", "allows", "(J)Z"⟩ : MethodName)) (z := (⟨"com/example/slot1/slot1/server/Limit", "allows", "(J)Z"⟩ : MethodName)) hown (mvT hZ (hw _ (List.mem_of_getElem? (i := 5) rfl))) (mvT hZ (hw _ (List.mem_of_getElem? (i := 6) rfl))) (notFace_of_selects (args := #[]) (mvT hZ (hw _ (List.mem_of_getElem? (i := 8) rfl)))) (mvT hZ (hw _ (List.mem_of_getElem? (i := 8) rfl))) (mvT hZ (hw _ (List.mem_of_getElem? (i := 7) rfl))) (by decide) (backOf (W := 0) (rm_allows l Z a0 hw [] A_MEMBERS ((10000 : Int64) + (((p2 &&& (3 : Int32)) - (2 : Int32)).toInt64)) (10000 : Int64) h0 n0 O0 (u21.ext O0.2)) hZ (hw _ (List.mem_of_getElem? (i := 9) rfl)) (hw _ (List.mem_of_getElem? (i := 2) rfl)) (by decide) (by decide)) q40a q40c (g := (mkF me_ 215 #[.val (.int p0), .val (.long p1), .second, .val (.int p2), .val (.int (3 : Int32)), .val (.ref A_MEMBERS), .val (.long (10000 : Int64)), .second, .val (.int (1 : Int32)), .val (.long ((10000 : Int64) + (((p2 &&& (3 : Int32)) - (2 : Int32)).toInt64))), .second, .unset] [(.long ((10000 : Int64) + (((p2 &&& (3 : Int32)) - (2 : Int32)).toInt64))), (.ref A_MEMBERS)])) rfl (by rw [hml]; rfl) (Steps.refl _) (argsL := [(.long ((10000 : Int64) + (((p2 &&& (3 : Int32)) - (2 : Int32)).toInt64)))]) (rest := []) (lenOf pd_0 rfl) rfl (by show 2 * 0 + _ ≤ _; exact Nat.le_of_eq rfl) (hb hby at_215) (fun _ _ => ⟨rfl, eq34, (by decide : 0 + 0 ≤ _), (by decide : 0 + 0 ≤ _)⟩)
      dsimp only [Pt.U, Pt.locs, Pt.cells, Pt.slots] at X40 l40 y40 z40 st40 hQ40
      subst l40 y40 z40
      obtain ⟨rfl, Nq40, eq40⟩ := hQ40
      have N41 := Fr.app N35 Nq40
      by_cases hb42 : (10000 : Int64) < ((10000 : Int64) + (((p2 &&& (3 : Int32)) - (2 : Int32)).toInt64))
      · rw [if_pos hb42] at st40
        refine gv (fun tQ kQ => st40.trans kQ) ?_
        show G (T40.setTop (mkF me_ 218 #[.val (.int p0), .val (.long p1), .second, .val (.int p2), .val (.int (3 : Int32)), .val (.ref A_MEMBERS), .val (.long (10000 : Int64)), .second, .val (.int (1 : Int32)), .val (.long ((10000 : Int64) + (((p2 &&& (3 : Int32)) - (2 : Int32)).toInt64))), .second, .unset] [(.int (0 : Int32))]))
        refine gv (fun tQ kQ => XS.lload X40.here hx rfl (hb hby at_218) rfl kQ) ?_
        show G (T40.setTop (mkF me_ 220 #[.val (.int p0), .val (.long p1), .second, .val (.int p2), .val (.int (3 : Int32)), .val (.ref A_MEMBERS), .val (.long (10000 : Int64)), .second, .val (.int (1 : Int32)), .val (.long ((10000 : Int64) + (((p2 &&& (3 : Int32)) - (2 : Int32)).toInt64))), .second, .unset] [(.long ((10000 : Int64) + (((p2 &&& (3 : Int32)) - (2 : Int32)).toInt64))), (.int (0 : Int32))]))
        refine gv (fun tQ kQ => XS.lload X40.here hx rfl (hb hby at_220) rfl kQ) ?_
        show G (T40.setTop (mkF me_ 222 #[.val (.int p0), .val (.long p1), .second, .val (.int p2), .val (.int (3 : Int32)), .val (.ref A_MEMBERS), .val (.long (10000 : Int64)), .second, .val (.int (1 : Int32)), .val (.long ((10000 : Int64) + (((p2 &&& (3 : Int32)) - (2 : Int32)).toInt64))), .second, .unset] [(.long (10000 : Int64)), (.long ((10000 : Int64) + (((p2 &&& (3 : Int32)) - (2 : Int32)).toInt64))), (.int (0 : Int32))]))
        refine gv (fun tQ kQ => XS.lcmp X40.here hx rfl (hb hby at_222) rfl kQ) ?_
        show G (T40.setTop (mkF me_ 223 #[.val (.int p0), .val (.long p1), .second, .val (.int p2), .val (.int (3 : Int32)), .val (.ref A_MEMBERS), .val (.long (10000 : Int64)), .second, .val (.int (1 : Int32)), .val (.long ((10000 : Int64) + (((p2 &&& (3 : Int32)) - (2 : Int32)).toInt64))), .second, .unset] [(.int (lcmpW ((10000 : Int64) + (((p2 &&& (3 : Int32)) - (2 : Int32)).toInt64)) (10000 : Int64))), (.int (0 : Int32))]))
        refine gv (fun tQ kQ => XS.ifYes X40.here hx rfl (pc0 := 223) (pc' := 230) rfl (hb hby at_223) rfl ((if0 _ _).trans (tlt ((lw_gt _ _).mpr hb42)).2.2.1) (by decide) (by decide) kQ) ?_
        show G (T40.setTop (mkF me_ 230 #[.val (.int p0), .val (.long p1), .second, .val (.int p2), .val (.int (3 : Int32)), .val (.ref A_MEMBERS), .val (.long (10000 : Int64)), .second, .val (.int (1 : Int32)), .val (.long ((10000 : Int64) + (((p2 &&& (3 : Int32)) - (2 : Int32)).toInt64))), .second, .unset] [(.int (0 : Int32))]))
        refine gv (fun tQ kQ => XS.iconst X40.here hx rfl (hb hby at_230) kQ) ?_
        show G (T40.setTop (mkF me_ 231 #[.val (.int p0), .val (.long p1), .second, .val (.int p2), .val (.int (3 : Int32)), .val (.ref A_MEMBERS), .val (.long (10000 : Int64)), .second, .val (.int (1 : Int32)), .val (.long ((10000 : Int64) + (((p2 &&& (3 : Int32)) - (2 : Int32)).toInt64))), .second, .unset] [(.int (0 : Int32)), (.int (0 : Int32))]))
        refine gv (fun tQ kQ => XS.icmpNo X40.here hx rfl (hb hby at_231) rfl (teq (by decide : (0 : Int32) = (0 : Int32))).2 kQ) ?_
        show G (T40.setTop (mkF me_ 234 #[.val (.int p0), .val (.long p1), .second, .val (.int p2), .val (.int (3 : Int32)), .val (.ref A_MEMBERS), .val (.long (10000 : Int64)), .second, .val (.int (1 : Int32)), .val (.long ((10000 : Int64) + (((p2 &&& (3 : Int32)) - (2 : Int32)).toInt64))), .second, .unset] []))
        refine gv (fun tQ kQ => XS.iconst X40.here hx rfl (hb hby at_234) kQ) ?_
        show G (T40.setTop (mkF me_ 235 #[.val (.int p0), .val (.long p1), .second, .val (.int p2), .val (.int (3 : Int32)), .val (.ref A_MEMBERS), .val (.long (10000 : Int64)), .second, .val (.int (1 : Int32)), .val (.long ((10000 : Int64) + (((p2 &&& (3 : Int32)) - (2 : Int32)).toInt64))), .second, .unset] [(.int (1 : Int32))]))
        refine gv (fun tQ kQ => XS.goto X40.here hx rfl (pc0 := 235) (pc' := 239) rfl (hb hby at_235) (by decide) (by decide) kQ) ?_
        show G (T40.setTop (mkF me_ 239 #[.val (.int p0), .val (.long p1), .second, .val (.int p2), .val (.int (3 : Int32)), .val (.ref A_MEMBERS), .val (.long (10000 : Int64)), .second, .val (.int (1 : Int32)), .val (.long ((10000 : Int64) + (((p2 &&& (3 : Int32)) - (2 : Int32)).toInt64))), .second, .unset] [(.int (1 : Int32))]))
        refine gv (fun tQ kQ => XS.istore X40.here hx rfl (hb hby at_239) rfl (l' := #[.val (.int p0), .val (.long p1), .second, .val (.int p2), .val (.int (3 : Int32)), .val (.ref A_MEMBERS), .val (.long (10000 : Int64)), .second, .val (.int (1 : Int32)), .val (.long ((10000 : Int64) + (((p2 &&& (3 : Int32)) - (2 : Int32)).toInt64))), .second, .val (.int (1 : Int32))]) rfl kQ) ?_
        show G (T40.setTop (mkF me_ 241 #[.val (.int p0), .val (.long p1), .second, .val (.int p2), .val (.int (3 : Int32)), .val (.ref A_MEMBERS), .val (.long (10000 : Int64)), .second, .val (.int (1 : Int32)), .val (.long ((10000 : Int64) + (((p2 &&& (3 : Int32)) - (2 : Int32)).toInt64))), .second, .val (.int (1 : Int32))] []))
        refine gv (fun tQ kQ => XS.iload X40.here hx rfl (hb hby at_241) rfl kQ) ?_
        show G (T40.setTop (mkF me_ 243 #[.val (.int p0), .val (.long p1), .second, .val (.int p2), .val (.int (3 : Int32)), .val (.ref A_MEMBERS), .val (.long (10000 : Int64)), .second, .val (.int (1 : Int32)), .val (.long ((10000 : Int64) + (((p2 &&& (3 : Int32)) - (2 : Int32)).toInt64))), .second, .val (.int (1 : Int32))] [(.int (1 : Int32))]))
        refine gv (fun tQ kQ => XS.ifNo X40.here hx rfl (hb hby at_243) rfl ((if0 _ _).trans (feq (by decide : ¬ ((1 : Int32) = (0 : Int32)))).1) kQ) ?_
        show G (T40.setTop (mkF me_ 246 #[.val (.int p0), .val (.long p1), .second, .val (.int p2), .val (.int (3 : Int32)), .val (.ref A_MEMBERS), .val (.long (10000 : Int64)), .second, .val (.int (1 : Int32)), .val (.long ((10000 : Int64) + (((p2 &&& (3 : Int32)) - (2 : Int32)).toInt64))), .second, .val (.int (1 : Int32))] []))
        refine gv (fun tQ kQ => XS.iload X40.here hx rfl (hb hby at_246) rfl kQ) ?_
        show G (T40.setTop (mkF me_ 248 #[.val (.int p0), .val (.long p1), .second, .val (.int p2), .val (.int (3 : Int32)), .val (.ref A_MEMBERS), .val (.long (10000 : Int64)), .second, .val (.int (1 : Int32)), .val (.long ((10000 : Int64) + (((p2 &&& (3 : Int32)) - (2 : Int32)).toInt64))), .second, .val (.int (1 : Int32))] [(.int (1 : Int32))]))
        refine gv (fun tQ kQ => XS.ifNo X40.here hx rfl (hb hby at_248) rfl ((if0 _ _).trans (feq (by decide : ¬ ((1 : Int32) = (0 : Int32)))).1) kQ) ?_
        show G (T40.setTop (mkF me_ 251 #[.val (.int p0), .val (.long p1), .second, .val (.int p2), .val (.int (3 : Int32)), .val (.ref A_MEMBERS), .val (.long (10000 : Int64)), .second, .val (.int (1 : Int32)), .val (.long ((10000 : Int64) + (((p2 &&& (3 : Int32)) - (2 : Int32)).toInt64))), .second, .val (.int (1 : Int32))] []))
        refine gv (fun tQ kQ => XS.iconst X40.here hx rfl (hb hby at_251) kQ) ?_
        show G (T40.setTop (mkF me_ 252 #[.val (.int p0), .val (.long p1), .second, .val (.int p2), .val (.int (3 : Int32)), .val (.ref A_MEMBERS), .val (.long (10000 : Int64)), .second, .val (.int (1 : Int32)), .val (.long ((10000 : Int64) + (((p2 &&& (3 : Int32)) - (2 : Int32)).toInt64))), .second, .val (.int (1 : Int32))] [(.int (1 : Int32))]))
        refine gv (fun tQ kQ => XS.goto X40.here hx rfl (pc0 := 252) (pc' := 256) rfl (hb hby at_252) (by decide) (by decide) kQ) ?_
        show G (T40.setTop (mkF me_ 256 #[.val (.int p0), .val (.long p1), .second, .val (.int p2), .val (.int (3 : Int32)), .val (.ref A_MEMBERS), .val (.long (10000 : Int64)), .second, .val (.int (1 : Int32)), .val (.long ((10000 : Int64) + (((p2 &&& (3 : Int32)) - (2 : Int32)).toInt64))), .second, .val (.int (1 : Int32))] [(.int (1 : Int32))]))
        refine gf _ (own_ret X40 Bd.notSynchronized (v := some (.int (1 : Int32))) (fun h => by rw [Bd.returns] at h; cases h) ?_ (by decide) (by decide) (fun fs hr => retN X40 hx (t := .boolean) Bd.returns (by simp) (hb hby at_256) hr))
        show Q0 Z p0 p1 p2 A_TOPICS A_ROUTE_QUEUES A_GROUPS A_MEMBERS A_GROUP_MEMBERS A_MEMBER_TOPICS A_QUEUES A_OFFSETS A_OPTIONS_BYTES h0 n0 _ T40.heap _
        rw [eq40]
        exact ⟨rfl, N41⟩
      · skip
        rw [if_neg hb42] at st40
        refine gv (fun tQ kQ => st40.trans kQ) ?_
        show G (T40.setTop (mkF me_ 218 #[.val (.int p0), .val (.long p1), .second, .val (.int p2), .val (.int (3 : Int32)), .val (.ref A_MEMBERS), .val (.long (10000 : Int64)), .second, .val (.int (1 : Int32)), .val (.long ((10000 : Int64) + (((p2 &&& (3 : Int32)) - (2 : Int32)).toInt64))), .second, .unset] [(.int (1 : Int32))]))
        refine gv (fun tQ kQ => XS.lload X40.here hx rfl (hb hby at_218) rfl kQ) ?_
        show G (T40.setTop (mkF me_ 220 #[.val (.int p0), .val (.long p1), .second, .val (.int p2), .val (.int (3 : Int32)), .val (.ref A_MEMBERS), .val (.long (10000 : Int64)), .second, .val (.int (1 : Int32)), .val (.long ((10000 : Int64) + (((p2 &&& (3 : Int32)) - (2 : Int32)).toInt64))), .second, .unset] [(.long ((10000 : Int64) + (((p2 &&& (3 : Int32)) - (2 : Int32)).toInt64))), (.int (1 : Int32))]))
        refine gv (fun tQ kQ => XS.lload X40.here hx rfl (hb hby at_220) rfl kQ) ?_
        show G (T40.setTop (mkF me_ 222 #[.val (.int p0), .val (.long p1), .second, .val (.int p2), .val (.int (3 : Int32)), .val (.ref A_MEMBERS), .val (.long (10000 : Int64)), .second, .val (.int (1 : Int32)), .val (.long ((10000 : Int64) + (((p2 &&& (3 : Int32)) - (2 : Int32)).toInt64))), .second, .unset] [(.long (10000 : Int64)), (.long ((10000 : Int64) + (((p2 &&& (3 : Int32)) - (2 : Int32)).toInt64))), (.int (1 : Int32))]))
        refine gv (fun tQ kQ => XS.lcmp X40.here hx rfl (hb hby at_222) rfl kQ) ?_
        show G (T40.setTop (mkF me_ 223 #[.val (.int p0), .val (.long p1), .second, .val (.int p2), .val (.int (3 : Int32)), .val (.ref A_MEMBERS), .val (.long (10000 : Int64)), .second, .val (.int (1 : Int32)), .val (.long ((10000 : Int64) + (((p2 &&& (3 : Int32)) - (2 : Int32)).toInt64))), .second, .unset] [(.int (lcmpW ((10000 : Int64) + (((p2 &&& (3 : Int32)) - (2 : Int32)).toInt64)) (10000 : Int64))), (.int (1 : Int32))]))
        refine gv (fun tQ kQ => XS.ifNo X40.here hx rfl (hb hby at_223) rfl ((if0 _ _).trans (flt (mt (lw_gt _ _).mp hb42)).2.2.1) kQ) ?_
        show G (T40.setTop (mkF me_ 226 #[.val (.int p0), .val (.long p1), .second, .val (.int p2), .val (.int (3 : Int32)), .val (.ref A_MEMBERS), .val (.long (10000 : Int64)), .second, .val (.int (1 : Int32)), .val (.long ((10000 : Int64) + (((p2 &&& (3 : Int32)) - (2 : Int32)).toInt64))), .second, .unset] [(.int (1 : Int32))]))
        refine gv (fun tQ kQ => XS.iconst X40.here hx rfl (hb hby at_226) kQ) ?_
        show G (T40.setTop (mkF me_ 227 #[.val (.int p0), .val (.long p1), .second, .val (.int p2), .val (.int (3 : Int32)), .val (.ref A_MEMBERS), .val (.long (10000 : Int64)), .second, .val (.int (1 : Int32)), .val (.long ((10000 : Int64) + (((p2 &&& (3 : Int32)) - (2 : Int32)).toInt64))), .second, .unset] [(.int (1 : Int32)), (.int (1 : Int32))]))
        refine gv (fun tQ kQ => XS.goto X40.here hx rfl (pc0 := 227) (pc' := 231) rfl (hb hby at_227) (by decide) (by decide) kQ) ?_
        show G (T40.setTop (mkF me_ 231 #[.val (.int p0), .val (.long p1), .second, .val (.int p2), .val (.int (3 : Int32)), .val (.ref A_MEMBERS), .val (.long (10000 : Int64)), .second, .val (.int (1 : Int32)), .val (.long ((10000 : Int64) + (((p2 &&& (3 : Int32)) - (2 : Int32)).toInt64))), .second, .unset] [(.int (1 : Int32)), (.int (1 : Int32))]))
        refine gv (fun tQ kQ => XS.icmpNo X40.here hx rfl (hb hby at_231) rfl (teq (by decide : (1 : Int32) = (1 : Int32))).2 kQ) ?_
        show G (T40.setTop (mkF me_ 234 #[.val (.int p0), .val (.long p1), .second, .val (.int p2), .val (.int (3 : Int32)), .val (.ref A_MEMBERS), .val (.long (10000 : Int64)), .second, .val (.int (1 : Int32)), .val (.long ((10000 : Int64) + (((p2 &&& (3 : Int32)) - (2 : Int32)).toInt64))), .second, .unset] []))
        refine gv (fun tQ kQ => XS.iconst X40.here hx rfl (hb hby at_234) kQ) ?_
        show G (T40.setTop (mkF me_ 235 #[.val (.int p0), .val (.long p1), .second, .val (.int p2), .val (.int (3 : Int32)), .val (.ref A_MEMBERS), .val (.long (10000 : Int64)), .second, .val (.int (1 : Int32)), .val (.long ((10000 : Int64) + (((p2 &&& (3 : Int32)) - (2 : Int32)).toInt64))), .second, .unset] [(.int (1 : Int32))]))
        refine gv (fun tQ kQ => XS.goto X40.here hx rfl (pc0 := 235) (pc' := 239) rfl (hb hby at_235) (by decide) (by decide) kQ) ?_
        show G (T40.setTop (mkF me_ 239 #[.val (.int p0), .val (.long p1), .second, .val (.int p2), .val (.int (3 : Int32)), .val (.ref A_MEMBERS), .val (.long (10000 : Int64)), .second, .val (.int (1 : Int32)), .val (.long ((10000 : Int64) + (((p2 &&& (3 : Int32)) - (2 : Int32)).toInt64))), .second, .unset] [(.int (1 : Int32))]))
        refine gv (fun tQ kQ => XS.istore X40.here hx rfl (hb hby at_239) rfl (l' := #[.val (.int p0), .val (.long p1), .second, .val (.int p2), .val (.int (3 : Int32)), .val (.ref A_MEMBERS), .val (.long (10000 : Int64)), .second, .val (.int (1 : Int32)), .val (.long ((10000 : Int64) + (((p2 &&& (3 : Int32)) - (2 : Int32)).toInt64))), .second, .val (.int (1 : Int32))]) rfl kQ) ?_
        show G (T40.setTop (mkF me_ 241 #[.val (.int p0), .val (.long p1), .second, .val (.int p2), .val (.int (3 : Int32)), .val (.ref A_MEMBERS), .val (.long (10000 : Int64)), .second, .val (.int (1 : Int32)), .val (.long ((10000 : Int64) + (((p2 &&& (3 : Int32)) - (2 : Int32)).toInt64))), .second, .val (.int (1 : Int32))] []))
        refine gv (fun tQ kQ => XS.iload X40.here hx rfl (hb hby at_241) rfl kQ) ?_
        show G (T40.setTop (mkF me_ 243 #[.val (.int p0), .val (.long p1), .second, .val (.int p2), .val (.int (3 : Int32)), .val (.ref A_MEMBERS), .val (.long (10000 : Int64)), .second, .val (.int (1 : Int32)), .val (.long ((10000 : Int64) + (((p2 &&& (3 : Int32)) - (2 : Int32)).toInt64))), .second, .val (.int (1 : Int32))] [(.int (1 : Int32))]))
        refine gv (fun tQ kQ => XS.ifNo X40.here hx rfl (hb hby at_243) rfl ((if0 _ _).trans (feq (by decide : ¬ ((1 : Int32) = (0 : Int32)))).1) kQ) ?_
        show G (T40.setTop (mkF me_ 246 #[.val (.int p0), .val (.long p1), .second, .val (.int p2), .val (.int (3 : Int32)), .val (.ref A_MEMBERS), .val (.long (10000 : Int64)), .second, .val (.int (1 : Int32)), .val (.long ((10000 : Int64) + (((p2 &&& (3 : Int32)) - (2 : Int32)).toInt64))), .second, .val (.int (1 : Int32))] []))
        refine gv (fun tQ kQ => XS.iload X40.here hx rfl (hb hby at_246) rfl kQ) ?_
        show G (T40.setTop (mkF me_ 248 #[.val (.int p0), .val (.long p1), .second, .val (.int p2), .val (.int (3 : Int32)), .val (.ref A_MEMBERS), .val (.long (10000 : Int64)), .second, .val (.int (1 : Int32)), .val (.long ((10000 : Int64) + (((p2 &&& (3 : Int32)) - (2 : Int32)).toInt64))), .second, .val (.int (1 : Int32))] [(.int (1 : Int32))]))
        refine gv (fun tQ kQ => XS.ifNo X40.here hx rfl (hb hby at_248) rfl ((if0 _ _).trans (feq (by decide : ¬ ((1 : Int32) = (0 : Int32)))).1) kQ) ?_
        show G (T40.setTop (mkF me_ 251 #[.val (.int p0), .val (.long p1), .second, .val (.int p2), .val (.int (3 : Int32)), .val (.ref A_MEMBERS), .val (.long (10000 : Int64)), .second, .val (.int (1 : Int32)), .val (.long ((10000 : Int64) + (((p2 &&& (3 : Int32)) - (2 : Int32)).toInt64))), .second, .val (.int (1 : Int32))] []))
        refine gv (fun tQ kQ => XS.iconst X40.here hx rfl (hb hby at_251) kQ) ?_
        show G (T40.setTop (mkF me_ 252 #[.val (.int p0), .val (.long p1), .second, .val (.int p2), .val (.int (3 : Int32)), .val (.ref A_MEMBERS), .val (.long (10000 : Int64)), .second, .val (.int (1 : Int32)), .val (.long ((10000 : Int64) + (((p2 &&& (3 : Int32)) - (2 : Int32)).toInt64))), .second, .val (.int (1 : Int32))] [(.int (1 : Int32))]))
        refine gv (fun tQ kQ => XS.goto X40.here hx rfl (pc0 := 252) (pc' := 256) rfl (hb hby at_252) (by decide) (by decide) kQ) ?_
        show G (T40.setTop (mkF me_ 256 #[.val (.int p0), .val (.long p1), .second, .val (.int p2), .val (.int (3 : Int32)), .val (.ref A_MEMBERS), .val (.long (10000 : Int64)), .second, .val (.int (1 : Int32)), .val (.long ((10000 : Int64) + (((p2 &&& (3 : Int32)) - (2 : Int32)).toInt64))), .second, .val (.int (1 : Int32))] [(.int (1 : Int32))]))
        refine gf _ (own_ret X40 Bd.notSynchronized (v := some (.int (1 : Int32))) (fun h => by rw [Bd.returns] at h; cases h) ?_ (by decide) (by decide) (fun fs hr => retN X40 hx (t := .boolean) Bd.returns (by simp) (hb hby at_256) hr))
        show Q0 Z p0 p1 p2 A_TOPICS A_ROUTE_QUEUES A_GROUPS A_MEMBERS A_GROUP_MEMBERS A_MEMBER_TOPICS A_QUEUES A_OFFSETS A_OPTIONS_BYTES h0 n0 _ T40.heap _
        rw [eq40]
        exact ⟨rfl, N41⟩
  · rw [q]
    show G (s₁.setTop (mkF me_ 9 #[.val (.int p0), .val (.long p1), .second, .val (.int p2), .val (.int (4 : Int32)), .unset, .unset, .unset, .unset, .unset, .unset, .unset] []))
    refine gv (fun tQ kQ => XS.iload X0.here hx rfl (hb hby at_9) rfl kQ) ?_
    show G (s₁.setTop (mkF me_ 11 #[.val (.int p0), .val (.long p1), .second, .val (.int p2), .val (.int (4 : Int32)), .unset, .unset, .unset, .unset, .unset, .unset, .unset] [(.int (4 : Int32))]))
    refine gv (fun tQ kQ => XS.ifYes X0.here hx rfl (pc0 := 11) (pc' := 27) rfl (hb hby at_11) rfl ((if0 _ _).trans (feq (by decide : ¬ ((4 : Int32) = (0 : Int32)))).2) (by decide) (by decide) kQ) ?_
    show G (s₁.setTop (mkF me_ 27 #[.val (.int p0), .val (.long p1), .second, .val (.int p2), .val (.int (4 : Int32)), .unset, .unset, .unset, .unset, .unset, .unset, .unset] []))
    refine gv (fun tQ kQ => XS.iload X0.here hx rfl (hb hby at_27) rfl kQ) ?_
    show G (s₁.setTop (mkF me_ 29 #[.val (.int p0), .val (.long p1), .second, .val (.int p2), .val (.int (4 : Int32)), .unset, .unset, .unset, .unset, .unset, .unset, .unset] [(.int (4 : Int32))]))
    refine gv (fun tQ kQ => XS.iconst X0.here hx rfl (hb hby at_29) kQ) ?_
    show G (s₁.setTop (mkF me_ 30 #[.val (.int p0), .val (.long p1), .second, .val (.int p2), .val (.int (4 : Int32)), .unset, .unset, .unset, .unset, .unset, .unset, .unset] [(.int (1 : Int32)), (.int (4 : Int32))]))
    refine gv (fun tQ kQ => XS.icmpYes X0.here hx rfl (pc0 := 30) (pc' := 46) rfl (hb hby at_30) rfl (feq (by decide : ¬ ((4 : Int32) = (1 : Int32)))).2 (by decide) (by decide) kQ) ?_
    show G (s₁.setTop (mkF me_ 46 #[.val (.int p0), .val (.long p1), .second, .val (.int p2), .val (.int (4 : Int32)), .unset, .unset, .unset, .unset, .unset, .unset, .unset] []))
    refine gv (fun tQ kQ => XS.iload X0.here hx rfl (hb hby at_46) rfl kQ) ?_
    show G (s₁.setTop (mkF me_ 48 #[.val (.int p0), .val (.long p1), .second, .val (.int p2), .val (.int (4 : Int32)), .unset, .unset, .unset, .unset, .unset, .unset, .unset] [(.int (4 : Int32))]))
    refine gv (fun tQ kQ => XS.iconst X0.here hx rfl (hb hby at_48) kQ) ?_
    show G (s₁.setTop (mkF me_ 49 #[.val (.int p0), .val (.long p1), .second, .val (.int p2), .val (.int (4 : Int32)), .unset, .unset, .unset, .unset, .unset, .unset, .unset] [(.int (2 : Int32)), (.int (4 : Int32))]))
    refine gv (fun tQ kQ => XS.icmpYes X0.here hx rfl (pc0 := 49) (pc' := 65) rfl (hb hby at_49) rfl (feq (by decide : ¬ ((4 : Int32) = (2 : Int32)))).2 (by decide) (by decide) kQ) ?_
    show G (s₁.setTop (mkF me_ 65 #[.val (.int p0), .val (.long p1), .second, .val (.int p2), .val (.int (4 : Int32)), .unset, .unset, .unset, .unset, .unset, .unset, .unset] []))
    refine gv (fun tQ kQ => XS.iload X0.here hx rfl (hb hby at_65) rfl kQ) ?_
    show G (s₁.setTop (mkF me_ 67 #[.val (.int p0), .val (.long p1), .second, .val (.int p2), .val (.int (4 : Int32)), .unset, .unset, .unset, .unset, .unset, .unset, .unset] [(.int (4 : Int32))]))
    refine gv (fun tQ kQ => XS.iconst X0.here hx rfl (hb hby at_67) kQ) ?_
    show G (s₁.setTop (mkF me_ 68 #[.val (.int p0), .val (.long p1), .second, .val (.int p2), .val (.int (4 : Int32)), .unset, .unset, .unset, .unset, .unset, .unset, .unset] [(.int (3 : Int32)), (.int (4 : Int32))]))
    refine gv (fun tQ kQ => XS.icmpYes X0.here hx rfl (pc0 := 68) (pc' := 84) rfl (hb hby at_68) rfl (feq (by decide : ¬ ((4 : Int32) = (3 : Int32)))).2 (by decide) (by decide) kQ) ?_
    show G (s₁.setTop (mkF me_ 84 #[.val (.int p0), .val (.long p1), .second, .val (.int p2), .val (.int (4 : Int32)), .unset, .unset, .unset, .unset, .unset, .unset, .unset] []))
    refine gv (fun tQ kQ => XS.iload X0.here hx rfl (hb hby at_84) rfl kQ) ?_
    show G (s₁.setTop (mkF me_ 86 #[.val (.int p0), .val (.long p1), .second, .val (.int p2), .val (.int (4 : Int32)), .unset, .unset, .unset, .unset, .unset, .unset, .unset] [(.int (4 : Int32))]))
    refine gv (fun tQ kQ => XS.iconst X0.here hx rfl (hb hby at_86) kQ) ?_
    show G (s₁.setTop (mkF me_ 87 #[.val (.int p0), .val (.long p1), .second, .val (.int p2), .val (.int (4 : Int32)), .unset, .unset, .unset, .unset, .unset, .unset, .unset] [(.int (4 : Int32)), (.int (4 : Int32))]))
    refine gv (fun tQ kQ => XS.icmpNo X0.here hx rfl (hb hby at_87) rfl (teq (by decide : (4 : Int32) = (4 : Int32))).2 kQ) ?_
    show G (s₁.setTop (mkF me_ 90 #[.val (.int p0), .val (.long p1), .second, .val (.int p2), .val (.int (4 : Int32)), .unset, .unset, .unset, .unset, .unset, .unset, .unset] []))
    obtain ⟨T43, X43, e43, st43⟩ := getS2 X0 hx hZ hown (host := "") (Or.inl (hw _ (List.mem_of_getElem? (i := 30) rfl))) Via.refl e0 (u4.ext O0.2) (g := (mkF me_ 90 #[.val (.int p0), .val (.long p1), .second, .val (.int p2), .val (.int (4 : Int32)), .unset, .unset, .unset, .unset, .unset, .unset, .unset] [])) rfl (hb hby at_90)
    refine gv st43 ?_
    show G (T43.setTop (mkF me_ 93 #[.val (.int p0), .val (.long p1), .second, .val (.int p2), .val (.int (4 : Int32)), .unset, .unset, .unset, .unset, .unset, .unset, .unset] [(.ref A_GROUP_MEMBERS)]))
    refine gv (fun tQ kQ => XS.astore X43.here hx rfl (hb hby at_93) rfl rfl (l' := #[.val (.int p0), .val (.long p1), .second, .val (.int p2), .val (.int (4 : Int32)), .val (.ref A_GROUP_MEMBERS), .unset, .unset, .unset, .unset, .unset, .unset]) rfl kQ) ?_
    show G (T43.setTop (mkF me_ 95 #[.val (.int p0), .val (.long p1), .second, .val (.int p2), .val (.int (4 : Int32)), .val (.ref A_GROUP_MEMBERS), .unset, .unset, .unset, .unset, .unset, .unset] []))
    refine gv (X43.ldc2Long hx hown (mvT hZ (hw _ (List.mem_of_getElem? (i := 32) rfl))) (g := (mkF me_ 95 #[.val (.int p0), .val (.long p1), .second, .val (.int p2), .val (.int (4 : Int32)), .val (.ref A_GROUP_MEMBERS), .unset, .unset, .unset, .unset, .unset, .unset] [])) rfl (hb hby at_95)) ?_
    show G (T43.setTop (mkF me_ 98 #[.val (.int p0), .val (.long p1), .second, .val (.int p2), .val (.int (4 : Int32)), .val (.ref A_GROUP_MEMBERS), .unset, .unset, .unset, .unset, .unset, .unset] [(.long (5000 : Int64))]))
    refine gv (fun tQ kQ => XS.lstore X43.here hx rfl (hb hby at_98) rfl (l' := #[.val (.int p0), .val (.long p1), .second, .val (.int p2), .val (.int (4 : Int32)), .val (.ref A_GROUP_MEMBERS), .val (.long (5000 : Int64)), .second, .unset, .unset, .unset, .unset]) rfl kQ) ?_
    show G (T43.setTop (mkF me_ 100 #[.val (.int p0), .val (.long p1), .second, .val (.int p2), .val (.int (4 : Int32)), .val (.ref A_GROUP_MEMBERS), .val (.long (5000 : Int64)), .second, .unset, .unset, .unset, .unset] []))
    refine gv (fun tQ kQ => XS.goto X43.here hx rfl (pc0 := 100) (pc' := 172) rfl (hb hby at_100) (by decide) (by decide) kQ) ?_
    show G (T43.setTop (mkF me_ 172 #[.val (.int p0), .val (.long p1), .second, .val (.int p2), .val (.int (4 : Int32)), .val (.ref A_GROUP_MEMBERS), .val (.long (5000 : Int64)), .second, .unset, .unset, .unset, .unset] []))
    refine gv (fun tQ kQ => XS.aload X43.here hx rfl (hb hby at_172) rfl rfl kQ) ?_
    show G (T43.setTop (mkF me_ 174 #[.val (.int p0), .val (.long p1), .second, .val (.int p2), .val (.int (4 : Int32)), .val (.ref A_GROUP_MEMBERS), .val (.long (5000 : Int64)), .second, .unset, .unset, .unset, .unset] [(.ref A_GROUP_MEMBERS)]))
    refine gv (fun tQ kQ => XS.lloadN X43.here hx rfl (hb hby at_174) rfl kQ) ?_
    show G (T43.setTop (mkF me_ 175 #[.val (.int p0), .val (.long p1), .second, .val (.int p2), .val (.int (4 : Int32)), .val (.ref A_GROUP_MEMBERS), .val (.long (5000 : Int64)), .second, .unset, .unset, .unset, .unset] [(.long p1), (.ref A_GROUP_MEMBERS)]))
    obtain ⟨cq44, kq44, q44a, q44b, q44c⟩ := isOf hZ e43 (u13.ext O0.2)
    obtain ⟨_, _, ⟨T44, L44, k44, n44⟩, -, X44, ⟨Lc44, hQ44, l44, y44, z44⟩, st44⟩ := X43.virtualBack hx (y := (⟨"com/example/slot1/slot1/server/Limit", "allows", "(J)Z"⟩ : MethodName)) (z := (⟨"com/example/slot1/slot1/server/Limit", "allows", "(J)Z"⟩ : MethodName)) hown (mvT hZ (hw _ (List.mem_of_getElem? (i := 5) rfl))) (mvT hZ (hw _ (List.mem_of_getElem? (i := 6) rfl))) (notFace_of_selects (args := #[]) (mvT hZ (hw _ (List.mem_of_getElem? (i := 8) rfl)))) (mvT hZ (hw _ (List.mem_of_getElem? (i := 8) rfl))) (mvT hZ (hw _ (List.mem_of_getElem? (i := 7) rfl))) (by decide) (backOf (W := 0) (rm_allows l Z a0 hw [] A_GROUP_MEMBERS p1 (5000 : Int64) h0 n0 O0 (u22.ext O0.2)) hZ (hw _ (List.mem_of_getElem? (i := 9) rfl)) (hw _ (List.mem_of_getElem? (i := 2) rfl)) (by decide) (by decide)) q44a q44c (g := (mkF me_ 175 #[.val (.int p0), .val (.long p1), .second, .val (.int p2), .val (.int (4 : Int32)), .val (.ref A_GROUP_MEMBERS), .val (.long (5000 : Int64)), .second, .unset, .unset, .unset, .unset] [(.long p1), (.ref A_GROUP_MEMBERS)])) rfl (by rw [hml]; rfl) (Steps.refl _) (argsL := [(.long p1)]) (rest := []) (lenOf pd_0 rfl) rfl (by show 2 * 0 + _ ≤ _; exact Nat.le_of_eq rfl) (hb hby at_175) (fun _ _ => ⟨rfl, e43, (by decide : 0 + 0 ≤ _), (by decide : 0 + 0 ≤ _)⟩)
    dsimp only [Pt.U, Pt.locs, Pt.cells, Pt.slots] at X44 l44 y44 z44 st44 hQ44
    subst l44 y44 z44
    obtain ⟨rfl, Nq44, eq44⟩ := hQ44
    have N45 := Fr.app N0 Nq44
    by_cases hb46 : (5000 : Int64) < p1
    · rw [if_pos hb46] at st44
      refine gv (fun tQ kQ => st44.trans kQ) ?_
      show G (T44.setTop (mkF me_ 178 #[.val (.int p0), .val (.long p1), .second, .val (.int p2), .val (.int (4 : Int32)), .val (.ref A_GROUP_MEMBERS), .val (.long (5000 : Int64)), .second, .unset, .unset, .unset, .unset] [(.int (0 : Int32))]))
      refine gv (fun tQ kQ => XS.lloadN X44.here hx rfl (hb hby at_178) rfl kQ) ?_
      show G (T44.setTop (mkF me_ 179 #[.val (.int p0), .val (.long p1), .second, .val (.int p2), .val (.int (4 : Int32)), .val (.ref A_GROUP_MEMBERS), .val (.long (5000 : Int64)), .second, .unset, .unset, .unset, .unset] [(.long p1), (.int (0 : Int32))]))
      refine gv (fun tQ kQ => XS.lload X44.here hx rfl (hb hby at_179) rfl kQ) ?_
      show G (T44.setTop (mkF me_ 181 #[.val (.int p0), .val (.long p1), .second, .val (.int p2), .val (.int (4 : Int32)), .val (.ref A_GROUP_MEMBERS), .val (.long (5000 : Int64)), .second, .unset, .unset, .unset, .unset] [(.long (5000 : Int64)), (.long p1), (.int (0 : Int32))]))
      refine gv (fun tQ kQ => XS.lcmp X44.here hx rfl (hb hby at_181) rfl kQ) ?_
      show G (T44.setTop (mkF me_ 182 #[.val (.int p0), .val (.long p1), .second, .val (.int p2), .val (.int (4 : Int32)), .val (.ref A_GROUP_MEMBERS), .val (.long (5000 : Int64)), .second, .unset, .unset, .unset, .unset] [(.int (lcmpW p1 (5000 : Int64))), (.int (0 : Int32))]))
      refine gv (fun tQ kQ => XS.ifYes X44.here hx rfl (pc0 := 182) (pc' := 189) rfl (hb hby at_182) rfl ((if0 _ _).trans (tlt ((lw_gt _ _).mpr hb46)).2.2.1) (by decide) (by decide) kQ) ?_
      show G (T44.setTop (mkF me_ 189 #[.val (.int p0), .val (.long p1), .second, .val (.int p2), .val (.int (4 : Int32)), .val (.ref A_GROUP_MEMBERS), .val (.long (5000 : Int64)), .second, .unset, .unset, .unset, .unset] [(.int (0 : Int32))]))
      refine gv (fun tQ kQ => XS.iconst X44.here hx rfl (hb hby at_189) kQ) ?_
      show G (T44.setTop (mkF me_ 190 #[.val (.int p0), .val (.long p1), .second, .val (.int p2), .val (.int (4 : Int32)), .val (.ref A_GROUP_MEMBERS), .val (.long (5000 : Int64)), .second, .unset, .unset, .unset, .unset] [(.int (0 : Int32)), (.int (0 : Int32))]))
      refine gv (fun tQ kQ => XS.icmpNo X44.here hx rfl (hb hby at_190) rfl (teq (by decide : (0 : Int32) = (0 : Int32))).2 kQ) ?_
      show G (T44.setTop (mkF me_ 193 #[.val (.int p0), .val (.long p1), .second, .val (.int p2), .val (.int (4 : Int32)), .val (.ref A_GROUP_MEMBERS), .val (.long (5000 : Int64)), .second, .unset, .unset, .unset, .unset] []))
      refine gv (fun tQ kQ => XS.iconst X44.here hx rfl (hb hby at_193) kQ) ?_
      show G (T44.setTop (mkF me_ 194 #[.val (.int p0), .val (.long p1), .second, .val (.int p2), .val (.int (4 : Int32)), .val (.ref A_GROUP_MEMBERS), .val (.long (5000 : Int64)), .second, .unset, .unset, .unset, .unset] [(.int (1 : Int32))]))
      refine gv (fun tQ kQ => XS.goto X44.here hx rfl (pc0 := 194) (pc' := 198) rfl (hb hby at_194) (by decide) (by decide) kQ) ?_
      show G (T44.setTop (mkF me_ 198 #[.val (.int p0), .val (.long p1), .second, .val (.int p2), .val (.int (4 : Int32)), .val (.ref A_GROUP_MEMBERS), .val (.long (5000 : Int64)), .second, .unset, .unset, .unset, .unset] [(.int (1 : Int32))]))
      refine gv (fun tQ kQ => XS.istore X44.here hx rfl (hb hby at_198) rfl (l' := #[.val (.int p0), .val (.long p1), .second, .val (.int p2), .val (.int (4 : Int32)), .val (.ref A_GROUP_MEMBERS), .val (.long (5000 : Int64)), .second, .val (.int (1 : Int32)), .unset, .unset, .unset]) rfl kQ) ?_
      show G (T44.setTop (mkF me_ 200 #[.val (.int p0), .val (.long p1), .second, .val (.int p2), .val (.int (4 : Int32)), .val (.ref A_GROUP_MEMBERS), .val (.long (5000 : Int64)), .second, .val (.int (1 : Int32)), .unset, .unset, .unset] []))
      refine gv (fun tQ kQ => XS.lload X44.here hx rfl (hb hby at_200) rfl kQ) ?_
      show G (T44.setTop (mkF me_ 202 #[.val (.int p0), .val (.long p1), .second, .val (.int p2), .val (.int (4 : Int32)), .val (.ref A_GROUP_MEMBERS), .val (.long (5000 : Int64)), .second, .val (.int (1 : Int32)), .unset, .unset, .unset] [(.long (5000 : Int64))]))
      refine gv (fun tQ kQ => XS.iloadN X44.here hx rfl (hb hby at_202) rfl kQ) ?_
      show G (T44.setTop (mkF me_ 203 #[.val (.int p0), .val (.long p1), .second, .val (.int p2), .val (.int (4 : Int32)), .val (.ref A_GROUP_MEMBERS), .val (.long (5000 : Int64)), .second, .val (.int (1 : Int32)), .unset, .unset, .unset] [(.int p2), (.long (5000 : Int64))]))
      refine gv (fun tQ kQ => XS.iconst X44.here hx rfl (hb hby at_203) kQ) ?_
      show G (T44.setTop (mkF me_ 204 #[.val (.int p0), .val (.long p1), .second, .val (.int p2), .val (.int (4 : Int32)), .val (.ref A_GROUP_MEMBERS), .val (.long (5000 : Int64)), .second, .val (.int (1 : Int32)), .unset, .unset, .unset] [(.int (3 : Int32)), (.int p2), (.long (5000 : Int64))]))
      refine gv (fun tQ kQ => XS.iand X44.here hx rfl (hb hby at_204) rfl kQ) ?_
      show G (T44.setTop (mkF me_ 205 #[.val (.int p0), .val (.long p1), .second, .val (.int p2), .val (.int (4 : Int32)), .val (.ref A_GROUP_MEMBERS), .val (.long (5000 : Int64)), .second, .val (.int (1 : Int32)), .unset, .unset, .unset] [(.int (p2 &&& (3 : Int32))), (.long (5000 : Int64))]))
      refine gv (fun tQ kQ => XS.iconst X44.here hx rfl (hb hby at_205) kQ) ?_
      show G (T44.setTop (mkF me_ 206 #[.val (.int p0), .val (.long p1), .second, .val (.int p2), .val (.int (4 : Int32)), .val (.ref A_GROUP_MEMBERS), .val (.long (5000 : Int64)), .second, .val (.int (1 : Int32)), .unset, .unset, .unset] [(.int (2 : Int32)), (.int (p2 &&& (3 : Int32))), (.long (5000 : Int64))]))
      refine gv (fun tQ kQ => XS.isub X44.here hx rfl (hb hby at_206) rfl kQ) ?_
      show G (T44.setTop (mkF me_ 207 #[.val (.int p0), .val (.long p1), .second, .val (.int p2), .val (.int (4 : Int32)), .val (.ref A_GROUP_MEMBERS), .val (.long (5000 : Int64)), .second, .val (.int (1 : Int32)), .unset, .unset, .unset] [(.int ((p2 &&& (3 : Int32)) - (2 : Int32))), (.long (5000 : Int64))]))
      refine gv (fun tQ kQ => XS.i2l X44.here hx rfl (hb hby at_207) rfl kQ) ?_
      show G (T44.setTop (mkF me_ 208 #[.val (.int p0), .val (.long p1), .second, .val (.int p2), .val (.int (4 : Int32)), .val (.ref A_GROUP_MEMBERS), .val (.long (5000 : Int64)), .second, .val (.int (1 : Int32)), .unset, .unset, .unset] [(.long (((p2 &&& (3 : Int32)) - (2 : Int32)).toInt64)), (.long (5000 : Int64))]))
      refine gv (fun tQ kQ => XS.ladd X44.here hx rfl (hb hby at_208) rfl kQ) ?_
      show G (T44.setTop (mkF me_ 209 #[.val (.int p0), .val (.long p1), .second, .val (.int p2), .val (.int (4 : Int32)), .val (.ref A_GROUP_MEMBERS), .val (.long (5000 : Int64)), .second, .val (.int (1 : Int32)), .unset, .unset, .unset] [(.long ((5000 : Int64) + (((p2 &&& (3 : Int32)) - (2 : Int32)).toInt64)))]))
      refine gv (fun tQ kQ => XS.lstore X44.here hx rfl (hb hby at_209) rfl (l' := #[.val (.int p0), .val (.long p1), .second, .val (.int p2), .val (.int (4 : Int32)), .val (.ref A_GROUP_MEMBERS), .val (.long (5000 : Int64)), .second, .val (.int (1 : Int32)), .val (.long ((5000 : Int64) + (((p2 &&& (3 : Int32)) - (2 : Int32)).toInt64))), .second, .unset]) rfl kQ) ?_
      show G (T44.setTop (mkF me_ 211 #[.val (.int p0), .val (.long p1), .second, .val (.int p2), .val (.int (4 : Int32)), .val (.ref A_GROUP_MEMBERS), .val (.long (5000 : Int64)), .second, .val (.int (1 : Int32)), .val (.long ((5000 : Int64) + (((p2 &&& (3 : Int32)) - (2 : Int32)).toInt64))), .second, .unset] []))
      refine gv (fun tQ kQ => XS.aload X44.here hx rfl (hb hby at_211) rfl rfl kQ) ?_
      show G (T44.setTop (mkF me_ 213 #[.val (.int p0), .val (.long p1), .second, .val (.int p2), .val (.int (4 : Int32)), .val (.ref A_GROUP_MEMBERS), .val (.long (5000 : Int64)), .second, .val (.int (1 : Int32)), .val (.long ((5000 : Int64) + (((p2 &&& (3 : Int32)) - (2 : Int32)).toInt64))), .second, .unset] [(.ref A_GROUP_MEMBERS)]))
      refine gv (fun tQ kQ => XS.lload X44.here hx rfl (hb hby at_213) rfl kQ) ?_
      show G (T44.setTop (mkF me_ 215 #[.val (.int p0), .val (.long p1), .second, .val (.int p2), .val (.int (4 : Int32)), .val (.ref A_GROUP_MEMBERS), .val (.long (5000 : Int64)), .second, .val (.int (1 : Int32)), .val (.long ((5000 : Int64) + (((p2 &&& (3 : Int32)) - (2 : Int32)).toInt64))), .second, .unset] [(.long ((5000 : Int64) + (((p2 &&& (3 : Int32)) - (2 : Int32)).toInt64))), (.ref A_GROUP_MEMBERS)]))
      obtain ⟨cq47, kq47, q47a, q47b, q47c⟩ := isOf hZ eq44 (u13.ext O0.2)
      obtain ⟨_, _, ⟨T47, L47, k47, n47⟩, -, X47, ⟨Lc47, hQ47, l47, y47, z47⟩, st47⟩ := X44.virtualBack hx (y := (⟨"com/example/slot1/slot1/server/Limit", "allows", "(J)Z"⟩ : MethodName)) (z := (⟨"com/example/slot1/slot1/server/Limit", "allows", "(J)Z"⟩ : MethodName)) hown (mvT hZ (hw _ (List.mem_of_getElem? (i := 5) rfl))) (mvT hZ (hw _ (List.mem_of_getElem? (i := 6) rfl))) (notFace_of_selects (args := #[]) (mvT hZ (hw _ (List.mem_of_getElem? (i := 8) rfl)))) (mvT hZ (hw _ (List.mem_of_getElem? (i := 8) rfl))) (mvT hZ (hw _ (List.mem_of_getElem? (i := 7) rfl))) (by decide) (backOf (W := 0) (rm_allows l Z a0 hw [] A_GROUP_MEMBERS ((5000 : Int64) + (((p2 &&& (3 : Int32)) - (2 : Int32)).toInt64)) (5000 : Int64) h0 n0 O0 (u22.ext O0.2)) hZ (hw _ (List.mem_of_getElem? (i := 9) rfl)) (hw _ (List.mem_of_getElem? (i := 2) rfl)) (by decide) (by decide)) q47a q47c (g := (mkF me_ 215 #[.val (.int p0), .val (.long p1), .second, .val (.int p2), .val (.int (4 : Int32)), .val (.ref A_GROUP_MEMBERS), .val (.long (5000 : Int64)), .second, .val (.int (1 : Int32)), .val (.long ((5000 : Int64) + (((p2 &&& (3 : Int32)) - (2 : Int32)).toInt64))), .second, .unset] [(.long ((5000 : Int64) + (((p2 &&& (3 : Int32)) - (2 : Int32)).toInt64))), (.ref A_GROUP_MEMBERS)])) rfl (by rw [hml]; rfl) (Steps.refl _) (argsL := [(.long ((5000 : Int64) + (((p2 &&& (3 : Int32)) - (2 : Int32)).toInt64)))]) (rest := []) (lenOf pd_0 rfl) rfl (by show 2 * 0 + _ ≤ _; exact Nat.le_of_eq rfl) (hb hby at_215) (fun _ _ => ⟨rfl, eq44, (by decide : 0 + 0 ≤ _), (by decide : 0 + 0 ≤ _)⟩)
      dsimp only [Pt.U, Pt.locs, Pt.cells, Pt.slots] at X47 l47 y47 z47 st47 hQ47
      subst l47 y47 z47
      obtain ⟨rfl, Nq47, eq47⟩ := hQ47
      have N48 := Fr.app N45 Nq47
      by_cases hb49 : (5000 : Int64) < ((5000 : Int64) + (((p2 &&& (3 : Int32)) - (2 : Int32)).toInt64))
      · rw [if_pos hb49] at st47
        refine gv (fun tQ kQ => st47.trans kQ) ?_
        show G (T47.setTop (mkF me_ 218 #[.val (.int p0), .val (.long p1), .second, .val (.int p2), .val (.int (4 : Int32)), .val (.ref A_GROUP_MEMBERS), .val (.long (5000 : Int64)), .second, .val (.int (1 : Int32)), .val (.long ((5000 : Int64) + (((p2 &&& (3 : Int32)) - (2 : Int32)).toInt64))), .second, .unset] [(.int (0 : Int32))]))
        refine gv (fun tQ kQ => XS.lload X47.here hx rfl (hb hby at_218) rfl kQ) ?_
        show G (T47.setTop (mkF me_ 220 #[.val (.int p0), .val (.long p1), .second, .val (.int p2), .val (.int (4 : Int32)), .val (.ref A_GROUP_MEMBERS), .val (.long (5000 : Int64)), .second, .val (.int (1 : Int32)), .val (.long ((5000 : Int64) + (((p2 &&& (3 : Int32)) - (2 : Int32)).toInt64))), .second, .unset] [(.long ((5000 : Int64) + (((p2 &&& (3 : Int32)) - (2 : Int32)).toInt64))), (.int (0 : Int32))]))
        refine gv (fun tQ kQ => XS.lload X47.here hx rfl (hb hby at_220) rfl kQ) ?_
        show G (T47.setTop (mkF me_ 222 #[.val (.int p0), .val (.long p1), .second, .val (.int p2), .val (.int (4 : Int32)), .val (.ref A_GROUP_MEMBERS), .val (.long (5000 : Int64)), .second, .val (.int (1 : Int32)), .val (.long ((5000 : Int64) + (((p2 &&& (3 : Int32)) - (2 : Int32)).toInt64))), .second, .unset] [(.long (5000 : Int64)), (.long ((5000 : Int64) + (((p2 &&& (3 : Int32)) - (2 : Int32)).toInt64))), (.int (0 : Int32))]))
        refine gv (fun tQ kQ => XS.lcmp X47.here hx rfl (hb hby at_222) rfl kQ) ?_
        show G (T47.setTop (mkF me_ 223 #[.val (.int p0), .val (.long p1), .second, .val (.int p2), .val (.int (4 : Int32)), .val (.ref A_GROUP_MEMBERS), .val (.long (5000 : Int64)), .second, .val (.int (1 : Int32)), .val (.long ((5000 : Int64) + (((p2 &&& (3 : Int32)) - (2 : Int32)).toInt64))), .second, .unset] [(.int (lcmpW ((5000 : Int64) + (((p2 &&& (3 : Int32)) - (2 : Int32)).toInt64)) (5000 : Int64))), (.int (0 : Int32))]))
        refine gv (fun tQ kQ => XS.ifYes X47.here hx rfl (pc0 := 223) (pc' := 230) rfl (hb hby at_223) rfl ((if0 _ _).trans (tlt ((lw_gt _ _).mpr hb49)).2.2.1) (by decide) (by decide) kQ) ?_
        show G (T47.setTop (mkF me_ 230 #[.val (.int p0), .val (.long p1), .second, .val (.int p2), .val (.int (4 : Int32)), .val (.ref A_GROUP_MEMBERS), .val (.long (5000 : Int64)), .second, .val (.int (1 : Int32)), .val (.long ((5000 : Int64) + (((p2 &&& (3 : Int32)) - (2 : Int32)).toInt64))), .second, .unset] [(.int (0 : Int32))]))
        refine gv (fun tQ kQ => XS.iconst X47.here hx rfl (hb hby at_230) kQ) ?_
        show G (T47.setTop (mkF me_ 231 #[.val (.int p0), .val (.long p1), .second, .val (.int p2), .val (.int (4 : Int32)), .val (.ref A_GROUP_MEMBERS), .val (.long (5000 : Int64)), .second, .val (.int (1 : Int32)), .val (.long ((5000 : Int64) + (((p2 &&& (3 : Int32)) - (2 : Int32)).toInt64))), .second, .unset] [(.int (0 : Int32)), (.int (0 : Int32))]))
        refine gv (fun tQ kQ => XS.icmpNo X47.here hx rfl (hb hby at_231) rfl (teq (by decide : (0 : Int32) = (0 : Int32))).2 kQ) ?_
        show G (T47.setTop (mkF me_ 234 #[.val (.int p0), .val (.long p1), .second, .val (.int p2), .val (.int (4 : Int32)), .val (.ref A_GROUP_MEMBERS), .val (.long (5000 : Int64)), .second, .val (.int (1 : Int32)), .val (.long ((5000 : Int64) + (((p2 &&& (3 : Int32)) - (2 : Int32)).toInt64))), .second, .unset] []))
        refine gv (fun tQ kQ => XS.iconst X47.here hx rfl (hb hby at_234) kQ) ?_
        show G (T47.setTop (mkF me_ 235 #[.val (.int p0), .val (.long p1), .second, .val (.int p2), .val (.int (4 : Int32)), .val (.ref A_GROUP_MEMBERS), .val (.long (5000 : Int64)), .second, .val (.int (1 : Int32)), .val (.long ((5000 : Int64) + (((p2 &&& (3 : Int32)) - (2 : Int32)).toInt64))), .second, .unset] [(.int (1 : Int32))]))
        refine gv (fun tQ kQ => XS.goto X47.here hx rfl (pc0 := 235) (pc' := 239) rfl (hb hby at_235) (by decide) (by decide) kQ) ?_
        show G (T47.setTop (mkF me_ 239 #[.val (.int p0), .val (.long p1), .second, .val (.int p2), .val (.int (4 : Int32)), .val (.ref A_GROUP_MEMBERS), .val (.long (5000 : Int64)), .second, .val (.int (1 : Int32)), .val (.long ((5000 : Int64) + (((p2 &&& (3 : Int32)) - (2 : Int32)).toInt64))), .second, .unset] [(.int (1 : Int32))]))
        refine gv (fun tQ kQ => XS.istore X47.here hx rfl (hb hby at_239) rfl (l' := #[.val (.int p0), .val (.long p1), .second, .val (.int p2), .val (.int (4 : Int32)), .val (.ref A_GROUP_MEMBERS), .val (.long (5000 : Int64)), .second, .val (.int (1 : Int32)), .val (.long ((5000 : Int64) + (((p2 &&& (3 : Int32)) - (2 : Int32)).toInt64))), .second, .val (.int (1 : Int32))]) rfl kQ) ?_
        show G (T47.setTop (mkF me_ 241 #[.val (.int p0), .val (.long p1), .second, .val (.int p2), .val (.int (4 : Int32)), .val (.ref A_GROUP_MEMBERS), .val (.long (5000 : Int64)), .second, .val (.int (1 : Int32)), .val (.long ((5000 : Int64) + (((p2 &&& (3 : Int32)) - (2 : Int32)).toInt64))), .second, .val (.int (1 : Int32))] []))
        refine gv (fun tQ kQ => XS.iload X47.here hx rfl (hb hby at_241) rfl kQ) ?_
        show G (T47.setTop (mkF me_ 243 #[.val (.int p0), .val (.long p1), .second, .val (.int p2), .val (.int (4 : Int32)), .val (.ref A_GROUP_MEMBERS), .val (.long (5000 : Int64)), .second, .val (.int (1 : Int32)), .val (.long ((5000 : Int64) + (((p2 &&& (3 : Int32)) - (2 : Int32)).toInt64))), .second, .val (.int (1 : Int32))] [(.int (1 : Int32))]))
        refine gv (fun tQ kQ => XS.ifNo X47.here hx rfl (hb hby at_243) rfl ((if0 _ _).trans (feq (by decide : ¬ ((1 : Int32) = (0 : Int32)))).1) kQ) ?_
        show G (T47.setTop (mkF me_ 246 #[.val (.int p0), .val (.long p1), .second, .val (.int p2), .val (.int (4 : Int32)), .val (.ref A_GROUP_MEMBERS), .val (.long (5000 : Int64)), .second, .val (.int (1 : Int32)), .val (.long ((5000 : Int64) + (((p2 &&& (3 : Int32)) - (2 : Int32)).toInt64))), .second, .val (.int (1 : Int32))] []))
        refine gv (fun tQ kQ => XS.iload X47.here hx rfl (hb hby at_246) rfl kQ) ?_
        show G (T47.setTop (mkF me_ 248 #[.val (.int p0), .val (.long p1), .second, .val (.int p2), .val (.int (4 : Int32)), .val (.ref A_GROUP_MEMBERS), .val (.long (5000 : Int64)), .second, .val (.int (1 : Int32)), .val (.long ((5000 : Int64) + (((p2 &&& (3 : Int32)) - (2 : Int32)).toInt64))), .second, .val (.int (1 : Int32))] [(.int (1 : Int32))]))
        refine gv (fun tQ kQ => XS.ifNo X47.here hx rfl (hb hby at_248) rfl ((if0 _ _).trans (feq (by decide : ¬ ((1 : Int32) = (0 : Int32)))).1) kQ) ?_
        show G (T47.setTop (mkF me_ 251 #[.val (.int p0), .val (.long p1), .second, .val (.int p2), .val (.int (4 : Int32)), .val (.ref A_GROUP_MEMBERS), .val (.long (5000 : Int64)), .second, .val (.int (1 : Int32)), .val (.long ((5000 : Int64) + (((p2 &&& (3 : Int32)) - (2 : Int32)).toInt64))), .second, .val (.int (1 : Int32))] []))
        refine gv (fun tQ kQ => XS.iconst X47.here hx rfl (hb hby at_251) kQ) ?_
        show G (T47.setTop (mkF me_ 252 #[.val (.int p0), .val (.long p1), .second, .val (.int p2), .val (.int (4 : Int32)), .val (.ref A_GROUP_MEMBERS), .val (.long (5000 : Int64)), .second, .val (.int (1 : Int32)), .val (.long ((5000 : Int64) + (((p2 &&& (3 : Int32)) - (2 : Int32)).toInt64))), .second, .val (.int (1 : Int32))] [(.int (1 : Int32))]))
        refine gv (fun tQ kQ => XS.goto X47.here hx rfl (pc0 := 252) (pc' := 256) rfl (hb hby at_252) (by decide) (by decide) kQ) ?_
        show G (T47.setTop (mkF me_ 256 #[.val (.int p0), .val (.long p1), .second, .val (.int p2), .val (.int (4 : Int32)), .val (.ref A_GROUP_MEMBERS), .val (.long (5000 : Int64)), .second, .val (.int (1 : Int32)), .val (.long ((5000 : Int64) + (((p2 &&& (3 : Int32)) - (2 : Int32)).toInt64))), .second, .val (.int (1 : Int32))] [(.int (1 : Int32))]))
        refine gf _ (own_ret X47 Bd.notSynchronized (v := some (.int (1 : Int32))) (fun h => by rw [Bd.returns] at h; cases h) ?_ (by decide) (by decide) (fun fs hr => retN X47 hx (t := .boolean) Bd.returns (by simp) (hb hby at_256) hr))
        show Q0 Z p0 p1 p2 A_TOPICS A_ROUTE_QUEUES A_GROUPS A_MEMBERS A_GROUP_MEMBERS A_MEMBER_TOPICS A_QUEUES A_OFFSETS A_OPTIONS_BYTES h0 n0 _ T47.heap _
        rw [eq47]
        exact ⟨rfl, N48⟩
      · skip
        rw [if_neg hb49] at st47
        refine gv (fun tQ kQ => st47.trans kQ) ?_
        show G (T47.setTop (mkF me_ 218 #[.val (.int p0), .val (.long p1), .second, .val (.int p2), .val (.int (4 : Int32)), .val (.ref A_GROUP_MEMBERS), .val (.long (5000 : Int64)), .second, .val (.int (1 : Int32)), .val (.long ((5000 : Int64) + (((p2 &&& (3 : Int32)) - (2 : Int32)).toInt64))), .second, .unset] [(.int (1 : Int32))]))
        refine gv (fun tQ kQ => XS.lload X47.here hx rfl (hb hby at_218) rfl kQ) ?_
        show G (T47.setTop (mkF me_ 220 #[.val (.int p0), .val (.long p1), .second, .val (.int p2), .val (.int (4 : Int32)), .val (.ref A_GROUP_MEMBERS), .val (.long (5000 : Int64)), .second, .val (.int (1 : Int32)), .val (.long ((5000 : Int64) + (((p2 &&& (3 : Int32)) - (2 : Int32)).toInt64))), .second, .unset] [(.long ((5000 : Int64) + (((p2 &&& (3 : Int32)) - (2 : Int32)).toInt64))), (.int (1 : Int32))]))
        refine gv (fun tQ kQ => XS.lload X47.here hx rfl (hb hby at_220) rfl kQ) ?_
        show G (T47.setTop (mkF me_ 222 #[.val (.int p0), .val (.long p1), .second, .val (.int p2), .val (.int (4 : Int32)), .val (.ref A_GROUP_MEMBERS), .val (.long (5000 : Int64)), .second, .val (.int (1 : Int32)), .val (.long ((5000 : Int64) + (((p2 &&& (3 : Int32)) - (2 : Int32)).toInt64))), .second, .unset] [(.long (5000 : Int64)), (.long ((5000 : Int64) + (((p2 &&& (3 : Int32)) - (2 : Int32)).toInt64))), (.int (1 : Int32))]))
        refine gv (fun tQ kQ => XS.lcmp X47.here hx rfl (hb hby at_222) rfl kQ) ?_
        show G (T47.setTop (mkF me_ 223 #[.val (.int p0), .val (.long p1), .second, .val (.int p2), .val (.int (4 : Int32)), .val (.ref A_GROUP_MEMBERS), .val (.long (5000 : Int64)), .second, .val (.int (1 : Int32)), .val (.long ((5000 : Int64) + (((p2 &&& (3 : Int32)) - (2 : Int32)).toInt64))), .second, .unset] [(.int (lcmpW ((5000 : Int64) + (((p2 &&& (3 : Int32)) - (2 : Int32)).toInt64)) (5000 : Int64))), (.int (1 : Int32))]))
        refine gv (fun tQ kQ => XS.ifNo X47.here hx rfl (hb hby at_223) rfl ((if0 _ _).trans (flt (mt (lw_gt _ _).mp hb49)).2.2.1) kQ) ?_
        show G (T47.setTop (mkF me_ 226 #[.val (.int p0), .val (.long p1), .second, .val (.int p2), .val (.int (4 : Int32)), .val (.ref A_GROUP_MEMBERS), .val (.long (5000 : Int64)), .second, .val (.int (1 : Int32)), .val (.long ((5000 : Int64) + (((p2 &&& (3 : Int32)) - (2 : Int32)).toInt64))), .second, .unset] [(.int (1 : Int32))]))
        refine gv (fun tQ kQ => XS.iconst X47.here hx rfl (hb hby at_226) kQ) ?_
        show G (T47.setTop (mkF me_ 227 #[.val (.int p0), .val (.long p1), .second, .val (.int p2), .val (.int (4 : Int32)), .val (.ref A_GROUP_MEMBERS), .val (.long (5000 : Int64)), .second, .val (.int (1 : Int32)), .val (.long ((5000 : Int64) + (((p2 &&& (3 : Int32)) - (2 : Int32)).toInt64))), .second, .unset] [(.int (1 : Int32)), (.int (1 : Int32))]))
        refine gv (fun tQ kQ => XS.goto X47.here hx rfl (pc0 := 227) (pc' := 231) rfl (hb hby at_227) (by decide) (by decide) kQ) ?_
        show G (T47.setTop (mkF me_ 231 #[.val (.int p0), .val (.long p1), .second, .val (.int p2), .val (.int (4 : Int32)), .val (.ref A_GROUP_MEMBERS), .val (.long (5000 : Int64)), .second, .val (.int (1 : Int32)), .val (.long ((5000 : Int64) + (((p2 &&& (3 : Int32)) - (2 : Int32)).toInt64))), .second, .unset] [(.int (1 : Int32)), (.int (1 : Int32))]))
        refine gv (fun tQ kQ => XS.icmpNo X47.here hx rfl (hb hby at_231) rfl (teq (by decide : (1 : Int32) = (1 : Int32))).2 kQ) ?_
        show G (T47.setTop (mkF me_ 234 #[.val (.int p0), .val (.long p1), .second, .val (.int p2), .val (.int (4 : Int32)), .val (.ref A_GROUP_MEMBERS), .val (.long (5000 : Int64)), .second, .val (.int (1 : Int32)), .val (.long ((5000 : Int64) + (((p2 &&& (3 : Int32)) - (2 : Int32)).toInt64))), .second, .unset] []))
        refine gv (fun tQ kQ => XS.iconst X47.here hx rfl (hb hby at_234) kQ) ?_
        show G (T47.setTop (mkF me_ 235 #[.val (.int p0), .val (.long p1), .second, .val (.int p2), .val (.int (4 : Int32)), .val (.ref A_GROUP_MEMBERS), .val (.long (5000 : Int64)), .second, .val (.int (1 : Int32)), .val (.long ((5000 : Int64) + (((p2 &&& (3 : Int32)) - (2 : Int32)).toInt64))), .second, .unset] [(.int (1 : Int32))]))
        refine gv (fun tQ kQ => XS.goto X47.here hx rfl (pc0 := 235) (pc' := 239) rfl (hb hby at_235) (by decide) (by decide) kQ) ?_
        show G (T47.setTop (mkF me_ 239 #[.val (.int p0), .val (.long p1), .second, .val (.int p2), .val (.int (4 : Int32)), .val (.ref A_GROUP_MEMBERS), .val (.long (5000 : Int64)), .second, .val (.int (1 : Int32)), .val (.long ((5000 : Int64) + (((p2 &&& (3 : Int32)) - (2 : Int32)).toInt64))), .second, .unset] [(.int (1 : Int32))]))
        refine gv (fun tQ kQ => XS.istore X47.here hx rfl (hb hby at_239) rfl (l' := #[.val (.int p0), .val (.long p1), .second, .val (.int p2), .val (.int (4 : Int32)), .val (.ref A_GROUP_MEMBERS), .val (.long (5000 : Int64)), .second, .val (.int (1 : Int32)), .val (.long ((5000 : Int64) + (((p2 &&& (3 : Int32)) - (2 : Int32)).toInt64))), .second, .val (.int (1 : Int32))]) rfl kQ) ?_
        show G (T47.setTop (mkF me_ 241 #[.val (.int p0), .val (.long p1), .second, .val (.int p2), .val (.int (4 : Int32)), .val (.ref A_GROUP_MEMBERS), .val (.long (5000 : Int64)), .second, .val (.int (1 : Int32)), .val (.long ((5000 : Int64) + (((p2 &&& (3 : Int32)) - (2 : Int32)).toInt64))), .second, .val (.int (1 : Int32))] []))
        refine gv (fun tQ kQ => XS.iload X47.here hx rfl (hb hby at_241) rfl kQ) ?_
        show G (T47.setTop (mkF me_ 243 #[.val (.int p0), .val (.long p1), .second, .val (.int p2), .val (.int (4 : Int32)), .val (.ref A_GROUP_MEMBERS), .val (.long (5000 : Int64)), .second, .val (.int (1 : Int32)), .val (.long ((5000 : Int64) + (((p2 &&& (3 : Int32)) - (2 : Int32)).toInt64))), .second, .val (.int (1 : Int32))] [(.int (1 : Int32))]))
        refine gv (fun tQ kQ => XS.ifNo X47.here hx rfl (hb hby at_243) rfl ((if0 _ _).trans (feq (by decide : ¬ ((1 : Int32) = (0 : Int32)))).1) kQ) ?_
        show G (T47.setTop (mkF me_ 246 #[.val (.int p0), .val (.long p1), .second, .val (.int p2), .val (.int (4 : Int32)), .val (.ref A_GROUP_MEMBERS), .val (.long (5000 : Int64)), .second, .val (.int (1 : Int32)), .val (.long ((5000 : Int64) + (((p2 &&& (3 : Int32)) - (2 : Int32)).toInt64))), .second, .val (.int (1 : Int32))] []))
        refine gv (fun tQ kQ => XS.iload X47.here hx rfl (hb hby at_246) rfl kQ) ?_
        show G (T47.setTop (mkF me_ 248 #[.val (.int p0), .val (.long p1), .second, .val (.int p2), .val (.int (4 : Int32)), .val (.ref A_GROUP_MEMBERS), .val (.long (5000 : Int64)), .second, .val (.int (1 : Int32)), .val (.long ((5000 : Int64) + (((p2 &&& (3 : Int32)) - (2 : Int32)).toInt64))), .second, .val (.int (1 : Int32))] [(.int (1 : Int32))]))
        refine gv (fun tQ kQ => XS.ifNo X47.here hx rfl (hb hby at_248) rfl ((if0 _ _).trans (feq (by decide : ¬ ((1 : Int32) = (0 : Int32)))).1) kQ) ?_
        show G (T47.setTop (mkF me_ 251 #[.val (.int p0), .val (.long p1), .second, .val (.int p2), .val (.int (4 : Int32)), .val (.ref A_GROUP_MEMBERS), .val (.long (5000 : Int64)), .second, .val (.int (1 : Int32)), .val (.long ((5000 : Int64) + (((p2 &&& (3 : Int32)) - (2 : Int32)).toInt64))), .second, .val (.int (1 : Int32))] []))
        refine gv (fun tQ kQ => XS.iconst X47.here hx rfl (hb hby at_251) kQ) ?_
        show G (T47.setTop (mkF me_ 252 #[.val (.int p0), .val (.long p1), .second, .val (.int p2), .val (.int (4 : Int32)), .val (.ref A_GROUP_MEMBERS), .val (.long (5000 : Int64)), .second, .val (.int (1 : Int32)), .val (.long ((5000 : Int64) + (((p2 &&& (3 : Int32)) - (2 : Int32)).toInt64))), .second, .val (.int (1 : Int32))] [(.int (1 : Int32))]))
        refine gv (fun tQ kQ => XS.goto X47.here hx rfl (pc0 := 252) (pc' := 256) rfl (hb hby at_252) (by decide) (by decide) kQ) ?_
        show G (T47.setTop (mkF me_ 256 #[.val (.int p0), .val (.long p1), .second, .val (.int p2), .val (.int (4 : Int32)), .val (.ref A_GROUP_MEMBERS), .val (.long (5000 : Int64)), .second, .val (.int (1 : Int32)), .val (.long ((5000 : Int64) + (((p2 &&& (3 : Int32)) - (2 : Int32)).toInt64))), .second, .val (.int (1 : Int32))] [(.int (1 : Int32))]))
        refine gf _ (own_ret X47 Bd.notSynchronized (v := some (.int (1 : Int32))) (fun h => by rw [Bd.returns] at h; cases h) ?_ (by decide) (by decide) (fun fs hr => retN X47 hx (t := .boolean) Bd.returns (by simp) (hb hby at_256) hr))
        show Q0 Z p0 p1 p2 A_TOPICS A_ROUTE_QUEUES A_GROUPS A_MEMBERS A_GROUP_MEMBERS A_MEMBER_TOPICS A_QUEUES A_OFFSETS A_OPTIONS_BYTES h0 n0 _ T47.heap _
        rw [eq47]
        exact ⟨rfl, N48⟩
    · skip
      rw [if_neg hb46] at st44
      refine gv (fun tQ kQ => st44.trans kQ) ?_
      show G (T44.setTop (mkF me_ 178 #[.val (.int p0), .val (.long p1), .second, .val (.int p2), .val (.int (4 : Int32)), .val (.ref A_GROUP_MEMBERS), .val (.long (5000 : Int64)), .second, .unset, .unset, .unset, .unset] [(.int (1 : Int32))]))
      refine gv (fun tQ kQ => XS.lloadN X44.here hx rfl (hb hby at_178) rfl kQ) ?_
      show G (T44.setTop (mkF me_ 179 #[.val (.int p0), .val (.long p1), .second, .val (.int p2), .val (.int (4 : Int32)), .val (.ref A_GROUP_MEMBERS), .val (.long (5000 : Int64)), .second, .unset, .unset, .unset, .unset] [(.long p1), (.int (1 : Int32))]))
      refine gv (fun tQ kQ => XS.lload X44.here hx rfl (hb hby at_179) rfl kQ) ?_
      show G (T44.setTop (mkF me_ 181 #[.val (.int p0), .val (.long p1), .second, .val (.int p2), .val (.int (4 : Int32)), .val (.ref A_GROUP_MEMBERS), .val (.long (5000 : Int64)), .second, .unset, .unset, .unset, .unset] [(.long (5000 : Int64)), (.long p1), (.int (1 : Int32))]))
      refine gv (fun tQ kQ => XS.lcmp X44.here hx rfl (hb hby at_181) rfl kQ) ?_
      show G (T44.setTop (mkF me_ 182 #[.val (.int p0), .val (.long p1), .second, .val (.int p2), .val (.int (4 : Int32)), .val (.ref A_GROUP_MEMBERS), .val (.long (5000 : Int64)), .second, .unset, .unset, .unset, .unset] [(.int (lcmpW p1 (5000 : Int64))), (.int (1 : Int32))]))
      refine gv (fun tQ kQ => XS.ifNo X44.here hx rfl (hb hby at_182) rfl ((if0 _ _).trans (flt (mt (lw_gt _ _).mp hb46)).2.2.1) kQ) ?_
      show G (T44.setTop (mkF me_ 185 #[.val (.int p0), .val (.long p1), .second, .val (.int p2), .val (.int (4 : Int32)), .val (.ref A_GROUP_MEMBERS), .val (.long (5000 : Int64)), .second, .unset, .unset, .unset, .unset] [(.int (1 : Int32))]))
      refine gv (fun tQ kQ => XS.iconst X44.here hx rfl (hb hby at_185) kQ) ?_
      show G (T44.setTop (mkF me_ 186 #[.val (.int p0), .val (.long p1), .second, .val (.int p2), .val (.int (4 : Int32)), .val (.ref A_GROUP_MEMBERS), .val (.long (5000 : Int64)), .second, .unset, .unset, .unset, .unset] [(.int (1 : Int32)), (.int (1 : Int32))]))
      refine gv (fun tQ kQ => XS.goto X44.here hx rfl (pc0 := 186) (pc' := 190) rfl (hb hby at_186) (by decide) (by decide) kQ) ?_
      show G (T44.setTop (mkF me_ 190 #[.val (.int p0), .val (.long p1), .second, .val (.int p2), .val (.int (4 : Int32)), .val (.ref A_GROUP_MEMBERS), .val (.long (5000 : Int64)), .second, .unset, .unset, .unset, .unset] [(.int (1 : Int32)), (.int (1 : Int32))]))
      refine gv (fun tQ kQ => XS.icmpNo X44.here hx rfl (hb hby at_190) rfl (teq (by decide : (1 : Int32) = (1 : Int32))).2 kQ) ?_
      show G (T44.setTop (mkF me_ 193 #[.val (.int p0), .val (.long p1), .second, .val (.int p2), .val (.int (4 : Int32)), .val (.ref A_GROUP_MEMBERS), .val (.long (5000 : Int64)), .second, .unset, .unset, .unset, .unset] []))
      refine gv (fun tQ kQ => XS.iconst X44.here hx rfl (hb hby at_193) kQ) ?_
      show G (T44.setTop (mkF me_ 194 #[.val (.int p0), .val (.long p1), .second, .val (.int p2), .val (.int (4 : Int32)), .val (.ref A_GROUP_MEMBERS), .val (.long (5000 : Int64)), .second, .unset, .unset, .unset, .unset] [(.int (1 : Int32))]))
      refine gv (fun tQ kQ => XS.goto X44.here hx rfl (pc0 := 194) (pc' := 198) rfl (hb hby at_194) (by decide) (by decide) kQ) ?_
      show G (T44.setTop (mkF me_ 198 #[.val (.int p0), .val (.long p1), .second, .val (.int p2), .val (.int (4 : Int32)), .val (.ref A_GROUP_MEMBERS), .val (.long (5000 : Int64)), .second, .unset, .unset, .unset, .unset] [(.int (1 : Int32))]))
      refine gv (fun tQ kQ => XS.istore X44.here hx rfl (hb hby at_198) rfl (l' := #[.val (.int p0), .val (.long p1), .second, .val (.int p2), .val (.int (4 : Int32)), .val (.ref A_GROUP_MEMBERS), .val (.long (5000 : Int64)), .second, .val (.int (1 : Int32)), .unset, .unset, .unset]) rfl kQ) ?_
      show G (T44.setTop (mkF me_ 200 #[.val (.int p0), .val (.long p1), .second, .val (.int p2), .val (.int (4 : Int32)), .val (.ref A_GROUP_MEMBERS), .val (.long (5000 : Int64)), .second, .val (.int (1 : Int32)), .unset, .unset, .unset] []))
      refine gv (fun tQ kQ => XS.lload X44.here hx rfl (hb hby at_200) rfl kQ) ?_
      show G (T44.setTop (mkF me_ 202 #[.val (.int p0), .val (.long p1), .second, .val (.int p2), .val (.int (4 : Int32)), .val (.ref A_GROUP_MEMBERS), .val (.long (5000 : Int64)), .second, .val (.int (1 : Int32)), .unset, .unset, .unset] [(.long (5000 : Int64))]))
      refine gv (fun tQ kQ => XS.iloadN X44.here hx rfl (hb hby at_202) rfl kQ) ?_
      show G (T44.setTop (mkF me_ 203 #[.val (.int p0), .val (.long p1), .second, .val (.int p2), .val (.int (4 : Int32)), .val (.ref A_GROUP_MEMBERS), .val (.long (5000 : Int64)), .second, .val (.int (1 : Int32)), .unset, .unset, .unset] [(.int p2), (.long (5000 : Int64))]))
      refine gv (fun tQ kQ => XS.iconst X44.here hx rfl (hb hby at_203) kQ) ?_
      show G (T44.setTop (mkF me_ 204 #[.val (.int p0), .val (.long p1), .second, .val (.int p2), .val (.int (4 : Int32)), .val (.ref A_GROUP_MEMBERS), .val (.long (5000 : Int64)), .second, .val (.int (1 : Int32)), .unset, .unset, .unset] [(.int (3 : Int32)), (.int p2), (.long (5000 : Int64))]))
      refine gv (fun tQ kQ => XS.iand X44.here hx rfl (hb hby at_204) rfl kQ) ?_
      show G (T44.setTop (mkF me_ 205 #[.val (.int p0), .val (.long p1), .second, .val (.int p2), .val (.int (4 : Int32)), .val (.ref A_GROUP_MEMBERS), .val (.long (5000 : Int64)), .second, .val (.int (1 : Int32)), .unset, .unset, .unset] [(.int (p2 &&& (3 : Int32))), (.long (5000 : Int64))]))
      refine gv (fun tQ kQ => XS.iconst X44.here hx rfl (hb hby at_205) kQ) ?_
      show G (T44.setTop (mkF me_ 206 #[.val (.int p0), .val (.long p1), .second, .val (.int p2), .val (.int (4 : Int32)), .val (.ref A_GROUP_MEMBERS), .val (.long (5000 : Int64)), .second, .val (.int (1 : Int32)), .unset, .unset, .unset] [(.int (2 : Int32)), (.int (p2 &&& (3 : Int32))), (.long (5000 : Int64))]))
      refine gv (fun tQ kQ => XS.isub X44.here hx rfl (hb hby at_206) rfl kQ) ?_
      show G (T44.setTop (mkF me_ 207 #[.val (.int p0), .val (.long p1), .second, .val (.int p2), .val (.int (4 : Int32)), .val (.ref A_GROUP_MEMBERS), .val (.long (5000 : Int64)), .second, .val (.int (1 : Int32)), .unset, .unset, .unset] [(.int ((p2 &&& (3 : Int32)) - (2 : Int32))), (.long (5000 : Int64))]))
      refine gv (fun tQ kQ => XS.i2l X44.here hx rfl (hb hby at_207) rfl kQ) ?_
      show G (T44.setTop (mkF me_ 208 #[.val (.int p0), .val (.long p1), .second, .val (.int p2), .val (.int (4 : Int32)), .val (.ref A_GROUP_MEMBERS), .val (.long (5000 : Int64)), .second, .val (.int (1 : Int32)), .unset, .unset, .unset] [(.long (((p2 &&& (3 : Int32)) - (2 : Int32)).toInt64)), (.long (5000 : Int64))]))
      refine gv (fun tQ kQ => XS.ladd X44.here hx rfl (hb hby at_208) rfl kQ) ?_
      show G (T44.setTop (mkF me_ 209 #[.val (.int p0), .val (.long p1), .second, .val (.int p2), .val (.int (4 : Int32)), .val (.ref A_GROUP_MEMBERS), .val (.long (5000 : Int64)), .second, .val (.int (1 : Int32)), .unset, .unset, .unset] [(.long ((5000 : Int64) + (((p2 &&& (3 : Int32)) - (2 : Int32)).toInt64)))]))
      refine gv (fun tQ kQ => XS.lstore X44.here hx rfl (hb hby at_209) rfl (l' := #[.val (.int p0), .val (.long p1), .second, .val (.int p2), .val (.int (4 : Int32)), .val (.ref A_GROUP_MEMBERS), .val (.long (5000 : Int64)), .second, .val (.int (1 : Int32)), .val (.long ((5000 : Int64) + (((p2 &&& (3 : Int32)) - (2 : Int32)).toInt64))), .second, .unset]) rfl kQ) ?_
      show G (T44.setTop (mkF me_ 211 #[.val (.int p0), .val (.long p1), .second, .val (.int p2), .val (.int (4 : Int32)), .val (.ref A_GROUP_MEMBERS), .val (.long (5000 : Int64)), .second, .val (.int (1 : Int32)), .val (.long ((5000 : Int64) + (((p2 &&& (3 : Int32)) - (2 : Int32)).toInt64))), .second, .unset] []))
      refine gv (fun tQ kQ => XS.aload X44.here hx rfl (hb hby at_211) rfl rfl kQ) ?_
      show G (T44.setTop (mkF me_ 213 #[.val (.int p0), .val (.long p1), .second, .val (.int p2), .val (.int (4 : Int32)), .val (.ref A_GROUP_MEMBERS), .val (.long (5000 : Int64)), .second, .val (.int (1 : Int32)), .val (.long ((5000 : Int64) + (((p2 &&& (3 : Int32)) - (2 : Int32)).toInt64))), .second, .unset] [(.ref A_GROUP_MEMBERS)]))
      refine gv (fun tQ kQ => XS.lload X44.here hx rfl (hb hby at_213) rfl kQ) ?_
      show G (T44.setTop (mkF me_ 215 #[.val (.int p0), .val (.long p1), .second, .val (.int p2), .val (.int (4 : Int32)), .val (.ref A_GROUP_MEMBERS), .val (.long (5000 : Int64)), .second, .val (.int (1 : Int32)), .val (.long ((5000 : Int64) + (((p2 &&& (3 : Int32)) - (2 : Int32)).toInt64))), .second, .unset] [(.long ((5000 : Int64) + (((p2 &&& (3 : Int32)) - (2 : Int32)).toInt64))), (.ref A_GROUP_MEMBERS)]))
      obtain ⟨cq50, kq50, q50a, q50b, q50c⟩ := isOf hZ eq44 (u13.ext O0.2)
      obtain ⟨_, _, ⟨T50, L50, k50, n50⟩, -, X50, ⟨Lc50, hQ50, l50, y50, z50⟩, st50⟩ := X44.virtualBack hx (y := (⟨"com/example/slot1/slot1/server/Limit", "allows", "(J)Z"⟩ : MethodName)) (z := (⟨"com/example/slot1/slot1/server/Limit", "allows", "(J)Z"⟩ : MethodName)) hown (mvT hZ (hw _ (List.mem_of_getElem? (i := 5) rfl))) (mvT hZ (hw _ (List.mem_of_getElem? (i := 6) rfl))) (notFace_of_selects (args := #[]) (mvT hZ (hw _ (List.mem_of_getElem? (i := 8) rfl)))) (mvT hZ (hw _ (List.mem_of_getElem? (i := 8) rfl))) (mvT hZ (hw _ (List.mem_of_getElem? (i := 7) rfl))) (by decide) (backOf (W := 0) (rm_allows l Z a0 hw [] A_GROUP_MEMBERS ((5000 : Int64) + (((p2 &&& (3 : Int32)) - (2 : Int32)).toInt64)) (5000 : Int64) h0 n0 O0 (u22.ext O0.2)) hZ (hw _ (List.mem_of_getElem? (i := 9) rfl)) (hw _ (List.mem_of_getElem? (i := 2) rfl)) (by decide) (by decide)) q50a q50c (g := (mkF me_ 215 #[.val (.int p0), .val (.long p1), .second, .val (.int p2), .val (.int (4 : Int32)), .val (.ref A_GROUP_MEMBERS), .val (.long (5000 : Int64)), .second, .val (.int (1 : Int32)), .val (.long ((5000 : Int64) + (((p2 &&& (3 : Int32)) - (2 : Int32)).toInt64))), .second, .unset] [(.long ((5000 : Int64) + (((p2 &&& (3 : Int32)) - (2 : Int32)).toInt64))), (.ref A_GROUP_MEMBERS)])) rfl (by rw [hml]; rfl) (Steps.refl _) (argsL := [(.long ((5000 : Int64) + (((p2 &&& (3 : Int32)) - (2 : Int32)).toInt64)))]) (rest := []) (lenOf pd_0 rfl) rfl (by show 2 * 0 + _ ≤ _; exact Nat.le_of_eq rfl) (hb hby at_215) (fun _ _ => ⟨rfl, eq44, (by decide : 0 + 0 ≤ _), (by decide : 0 + 0 ≤ _)⟩)
      dsimp only [Pt.U, Pt.locs, Pt.cells, Pt.slots] at X50 l50 y50 z50 st50 hQ50
      subst l50 y50 z50
      obtain ⟨rfl, Nq50, eq50⟩ := hQ50
      have N51 := Fr.app N45 Nq50
      by_cases hb52 : (5000 : Int64) < ((5000 : Int64) + (((p2 &&& (3 : Int32)) - (2 : Int32)).toInt64))
      · rw [if_pos hb52] at st50
        refine gv (fun tQ kQ => st50.trans kQ) ?_
        show G (T50.setTop (mkF me_ 218 #[.val (.int p0), .val (.long p1), .second, .val (.int p2), .val (.int (4 : Int32)), .val (.ref A_GROUP_MEMBERS), .val (.long (5000 : Int64)), .second, .val (.int (1 : Int32)), .val (.long ((5000 : Int64) + (((p2 &&& (3 : Int32)) - (2 : Int32)).toInt64))), .second, .unset] [(.int (0 : Int32))]))
        refine gv (fun tQ kQ => XS.lload X50.here hx rfl (hb hby at_218) rfl kQ) ?_
        show G (T50.setTop (mkF me_ 220 #[.val (.int p0), .val (.long p1), .second, .val (.int p2), .val (.int (4 : Int32)), .val (.ref A_GROUP_MEMBERS), .val (.long (5000 : Int64)), .second, .val (.int (1 : Int32)), .val (.long ((5000 : Int64) + (((p2 &&& (3 : Int32)) - (2 : Int32)).toInt64))), .second, .unset] [(.long ((5000 : Int64) + (((p2 &&& (3 : Int32)) - (2 : Int32)).toInt64))), (.int (0 : Int32))]))
        refine gv (fun tQ kQ => XS.lload X50.here hx rfl (hb hby at_220) rfl kQ) ?_
        show G (T50.setTop (mkF me_ 222 #[.val (.int p0), .val (.long p1), .second, .val (.int p2), .val (.int (4 : Int32)), .val (.ref A_GROUP_MEMBERS), .val (.long (5000 : Int64)), .second, .val (.int (1 : Int32)), .val (.long ((5000 : Int64) + (((p2 &&& (3 : Int32)) - (2 : Int32)).toInt64))), .second, .unset] [(.long (5000 : Int64)), (.long ((5000 : Int64) + (((p2 &&& (3 : Int32)) - (2 : Int32)).toInt64))), (.int (0 : Int32))]))
        refine gv (fun tQ kQ => XS.lcmp X50.here hx rfl (hb hby at_222) rfl kQ) ?_
        show G (T50.setTop (mkF me_ 223 #[.val (.int p0), .val (.long p1), .second, .val (.int p2), .val (.int (4 : Int32)), .val (.ref A_GROUP_MEMBERS), .val (.long (5000 : Int64)), .second, .val (.int (1 : Int32)), .val (.long ((5000 : Int64) + (((p2 &&& (3 : Int32)) - (2 : Int32)).toInt64))), .second, .unset] [(.int (lcmpW ((5000 : Int64) + (((p2 &&& (3 : Int32)) - (2 : Int32)).toInt64)) (5000 : Int64))), (.int (0 : Int32))]))
        refine gv (fun tQ kQ => XS.ifYes X50.here hx rfl (pc0 := 223) (pc' := 230) rfl (hb hby at_223) rfl ((if0 _ _).trans (tlt ((lw_gt _ _).mpr hb52)).2.2.1) (by decide) (by decide) kQ) ?_
        show G (T50.setTop (mkF me_ 230 #[.val (.int p0), .val (.long p1), .second, .val (.int p2), .val (.int (4 : Int32)), .val (.ref A_GROUP_MEMBERS), .val (.long (5000 : Int64)), .second, .val (.int (1 : Int32)), .val (.long ((5000 : Int64) + (((p2 &&& (3 : Int32)) - (2 : Int32)).toInt64))), .second, .unset] [(.int (0 : Int32))]))
        refine gv (fun tQ kQ => XS.iconst X50.here hx rfl (hb hby at_230) kQ) ?_
        show G (T50.setTop (mkF me_ 231 #[.val (.int p0), .val (.long p1), .second, .val (.int p2), .val (.int (4 : Int32)), .val (.ref A_GROUP_MEMBERS), .val (.long (5000 : Int64)), .second, .val (.int (1 : Int32)), .val (.long ((5000 : Int64) + (((p2 &&& (3 : Int32)) - (2 : Int32)).toInt64))), .second, .unset] [(.int (0 : Int32)), (.int (0 : Int32))]))
        refine gv (fun tQ kQ => XS.icmpNo X50.here hx rfl (hb hby at_231) rfl (teq (by decide : (0 : Int32) = (0 : Int32))).2 kQ) ?_
        show G (T50.setTop (mkF me_ 234 #[.val (.int p0), .val (.long p1), .second, .val (.int p2), .val (.int (4 : Int32)), .val (.ref A_GROUP_MEMBERS), .val (.long (5000 : Int64)), .second, .val (.int (1 : Int32)), .val (.long ((5000 : Int64) + (((p2 &&& (3 : Int32)) - (2 : Int32)).toInt64))), .second, .unset] []))
        refine gv (fun tQ kQ => XS.iconst X50.here hx rfl (hb hby at_234) kQ) ?_
        show G (T50.setTop (mkF me_ 235 #[.val (.int p0), .val (.long p1), .second, .val (.int p2), .val (.int (4 : Int32)), .val (.ref A_GROUP_MEMBERS), .val (.long (5000 : Int64)), .second, .val (.int (1 : Int32)), .val (.long ((5000 : Int64) + (((p2 &&& (3 : Int32)) - (2 : Int32)).toInt64))), .second, .unset] [(.int (1 : Int32))]))
        refine gv (fun tQ kQ => XS.goto X50.here hx rfl (pc0 := 235) (pc' := 239) rfl (hb hby at_235) (by decide) (by decide) kQ) ?_
        show G (T50.setTop (mkF me_ 239 #[.val (.int p0), .val (.long p1), .second, .val (.int p2), .val (.int (4 : Int32)), .val (.ref A_GROUP_MEMBERS), .val (.long (5000 : Int64)), .second, .val (.int (1 : Int32)), .val (.long ((5000 : Int64) + (((p2 &&& (3 : Int32)) - (2 : Int32)).toInt64))), .second, .unset] [(.int (1 : Int32))]))
        refine gv (fun tQ kQ => XS.istore X50.here hx rfl (hb hby at_239) rfl (l' := #[.val (.int p0), .val (.long p1), .second, .val (.int p2), .val (.int (4 : Int32)), .val (.ref A_GROUP_MEMBERS), .val (.long (5000 : Int64)), .second, .val (.int (1 : Int32)), .val (.long ((5000 : Int64) + (((p2 &&& (3 : Int32)) - (2 : Int32)).toInt64))), .second, .val (.int (1 : Int32))]) rfl kQ) ?_
        show G (T50.setTop (mkF me_ 241 #[.val (.int p0), .val (.long p1), .second, .val (.int p2), .val (.int (4 : Int32)), .val (.ref A_GROUP_MEMBERS), .val (.long (5000 : Int64)), .second, .val (.int (1 : Int32)), .val (.long ((5000 : Int64) + (((p2 &&& (3 : Int32)) - (2 : Int32)).toInt64))), .second, .val (.int (1 : Int32))] []))
        refine gv (fun tQ kQ => XS.iload X50.here hx rfl (hb hby at_241) rfl kQ) ?_
        show G (T50.setTop (mkF me_ 243 #[.val (.int p0), .val (.long p1), .second, .val (.int p2), .val (.int (4 : Int32)), .val (.ref A_GROUP_MEMBERS), .val (.long (5000 : Int64)), .second, .val (.int (1 : Int32)), .val (.long ((5000 : Int64) + (((p2 &&& (3 : Int32)) - (2 : Int32)).toInt64))), .second, .val (.int (1 : Int32))] [(.int (1 : Int32))]))
        refine gv (fun tQ kQ => XS.ifNo X50.here hx rfl (hb hby at_243) rfl ((if0 _ _).trans (feq (by decide : ¬ ((1 : Int32) = (0 : Int32)))).1) kQ) ?_
        show G (T50.setTop (mkF me_ 246 #[.val (.int p0), .val (.long p1), .second, .val (.int p2), .val (.int (4 : Int32)), .val (.ref A_GROUP_MEMBERS), .val (.long (5000 : Int64)), .second, .val (.int (1 : Int32)), .val (.long ((5000 : Int64) + (((p2 &&& (3 : Int32)) - (2 : Int32)).toInt64))), .second, .val (.int (1 : Int32))] []))
        refine gv (fun tQ kQ => XS.iload X50.here hx rfl (hb hby at_246) rfl kQ) ?_
        show G (T50.setTop (mkF me_ 248 #[.val (.int p0), .val (.long p1), .second, .val (.int p2), .val (.int (4 : Int32)), .val (.ref A_GROUP_MEMBERS), .val (.long (5000 : Int64)), .second, .val (.int (1 : Int32)), .val (.long ((5000 : Int64) + (((p2 &&& (3 : Int32)) - (2 : Int32)).toInt64))), .second, .val (.int (1 : Int32))] [(.int (1 : Int32))]))
        refine gv (fun tQ kQ => XS.ifNo X50.here hx rfl (hb hby at_248) rfl ((if0 _ _).trans (feq (by decide : ¬ ((1 : Int32) = (0 : Int32)))).1) kQ) ?_
        show G (T50.setTop (mkF me_ 251 #[.val (.int p0), .val (.long p1), .second, .val (.int p2), .val (.int (4 : Int32)), .val (.ref A_GROUP_MEMBERS), .val (.long (5000 : Int64)), .second, .val (.int (1 : Int32)), .val (.long ((5000 : Int64) + (((p2 &&& (3 : Int32)) - (2 : Int32)).toInt64))), .second, .val (.int (1 : Int32))] []))
        refine gv (fun tQ kQ => XS.iconst X50.here hx rfl (hb hby at_251) kQ) ?_
        show G (T50.setTop (mkF me_ 252 #[.val (.int p0), .val (.long p1), .second, .val (.int p2), .val (.int (4 : Int32)), .val (.ref A_GROUP_MEMBERS), .val (.long (5000 : Int64)), .second, .val (.int (1 : Int32)), .val (.long ((5000 : Int64) + (((p2 &&& (3 : Int32)) - (2 : Int32)).toInt64))), .second, .val (.int (1 : Int32))] [(.int (1 : Int32))]))
        refine gv (fun tQ kQ => XS.goto X50.here hx rfl (pc0 := 252) (pc' := 256) rfl (hb hby at_252) (by decide) (by decide) kQ) ?_
        show G (T50.setTop (mkF me_ 256 #[.val (.int p0), .val (.long p1), .second, .val (.int p2), .val (.int (4 : Int32)), .val (.ref A_GROUP_MEMBERS), .val (.long (5000 : Int64)), .second, .val (.int (1 : Int32)), .val (.long ((5000 : Int64) + (((p2 &&& (3 : Int32)) - (2 : Int32)).toInt64))), .second, .val (.int (1 : Int32))] [(.int (1 : Int32))]))
        refine gf _ (own_ret X50 Bd.notSynchronized (v := some (.int (1 : Int32))) (fun h => by rw [Bd.returns] at h; cases h) ?_ (by decide) (by decide) (fun fs hr => retN X50 hx (t := .boolean) Bd.returns (by simp) (hb hby at_256) hr))
        show Q0 Z p0 p1 p2 A_TOPICS A_ROUTE_QUEUES A_GROUPS A_MEMBERS A_GROUP_MEMBERS A_MEMBER_TOPICS A_QUEUES A_OFFSETS A_OPTIONS_BYTES h0 n0 _ T50.heap _
        rw [eq50]
        exact ⟨rfl, N51⟩
      · skip
        rw [if_neg hb52] at st50
        refine gv (fun tQ kQ => st50.trans kQ) ?_
        show G (T50.setTop (mkF me_ 218 #[.val (.int p0), .val (.long p1), .second, .val (.int p2), .val (.int (4 : Int32)), .val (.ref A_GROUP_MEMBERS), .val (.long (5000 : Int64)), .second, .val (.int (1 : Int32)), .val (.long ((5000 : Int64) + (((p2 &&& (3 : Int32)) - (2 : Int32)).toInt64))), .second, .unset] [(.int (1 : Int32))]))
        refine gv (fun tQ kQ => XS.lload X50.here hx rfl (hb hby at_218) rfl kQ) ?_
        show G (T50.setTop (mkF me_ 220 #[.val (.int p0), .val (.long p1), .second, .val (.int p2), .val (.int (4 : Int32)), .val (.ref A_GROUP_MEMBERS), .val (.long (5000 : Int64)), .second, .val (.int (1 : Int32)), .val (.long ((5000 : Int64) + (((p2 &&& (3 : Int32)) - (2 : Int32)).toInt64))), .second, .unset] [(.long ((5000 : Int64) + (((p2 &&& (3 : Int32)) - (2 : Int32)).toInt64))), (.int (1 : Int32))]))
        refine gv (fun tQ kQ => XS.lload X50.here hx rfl (hb hby at_220) rfl kQ) ?_
        show G (T50.setTop (mkF me_ 222 #[.val (.int p0), .val (.long p1), .second, .val (.int p2), .val (.int (4 : Int32)), .val (.ref A_GROUP_MEMBERS), .val (.long (5000 : Int64)), .second, .val (.int (1 : Int32)), .val (.long ((5000 : Int64) + (((p2 &&& (3 : Int32)) - (2 : Int32)).toInt64))), .second, .unset] [(.long (5000 : Int64)), (.long ((5000 : Int64) + (((p2 &&& (3 : Int32)) - (2 : Int32)).toInt64))), (.int (1 : Int32))]))
        refine gv (fun tQ kQ => XS.lcmp X50.here hx rfl (hb hby at_222) rfl kQ) ?_
        show G (T50.setTop (mkF me_ 223 #[.val (.int p0), .val (.long p1), .second, .val (.int p2), .val (.int (4 : Int32)), .val (.ref A_GROUP_MEMBERS), .val (.long (5000 : Int64)), .second, .val (.int (1 : Int32)), .val (.long ((5000 : Int64) + (((p2 &&& (3 : Int32)) - (2 : Int32)).toInt64))), .second, .unset] [(.int (lcmpW ((5000 : Int64) + (((p2 &&& (3 : Int32)) - (2 : Int32)).toInt64)) (5000 : Int64))), (.int (1 : Int32))]))
        refine gv (fun tQ kQ => XS.ifNo X50.here hx rfl (hb hby at_223) rfl ((if0 _ _).trans (flt (mt (lw_gt _ _).mp hb52)).2.2.1) kQ) ?_
        show G (T50.setTop (mkF me_ 226 #[.val (.int p0), .val (.long p1), .second, .val (.int p2), .val (.int (4 : Int32)), .val (.ref A_GROUP_MEMBERS), .val (.long (5000 : Int64)), .second, .val (.int (1 : Int32)), .val (.long ((5000 : Int64) + (((p2 &&& (3 : Int32)) - (2 : Int32)).toInt64))), .second, .unset] [(.int (1 : Int32))]))
        refine gv (fun tQ kQ => XS.iconst X50.here hx rfl (hb hby at_226) kQ) ?_
        show G (T50.setTop (mkF me_ 227 #[.val (.int p0), .val (.long p1), .second, .val (.int p2), .val (.int (4 : Int32)), .val (.ref A_GROUP_MEMBERS), .val (.long (5000 : Int64)), .second, .val (.int (1 : Int32)), .val (.long ((5000 : Int64) + (((p2 &&& (3 : Int32)) - (2 : Int32)).toInt64))), .second, .unset] [(.int (1 : Int32)), (.int (1 : Int32))]))
        refine gv (fun tQ kQ => XS.goto X50.here hx rfl (pc0 := 227) (pc' := 231) rfl (hb hby at_227) (by decide) (by decide) kQ) ?_
        show G (T50.setTop (mkF me_ 231 #[.val (.int p0), .val (.long p1), .second, .val (.int p2), .val (.int (4 : Int32)), .val (.ref A_GROUP_MEMBERS), .val (.long (5000 : Int64)), .second, .val (.int (1 : Int32)), .val (.long ((5000 : Int64) + (((p2 &&& (3 : Int32)) - (2 : Int32)).toInt64))), .second, .unset] [(.int (1 : Int32)), (.int (1 : Int32))]))
        refine gv (fun tQ kQ => XS.icmpNo X50.here hx rfl (hb hby at_231) rfl (teq (by decide : (1 : Int32) = (1 : Int32))).2 kQ) ?_
        show G (T50.setTop (mkF me_ 234 #[.val (.int p0), .val (.long p1), .second, .val (.int p2), .val (.int (4 : Int32)), .val (.ref A_GROUP_MEMBERS), .val (.long (5000 : Int64)), .second, .val (.int (1 : Int32)), .val (.long ((5000 : Int64) + (((p2 &&& (3 : Int32)) - (2 : Int32)).toInt64))), .second, .unset] []))
        refine gv (fun tQ kQ => XS.iconst X50.here hx rfl (hb hby at_234) kQ) ?_
        show G (T50.setTop (mkF me_ 235 #[.val (.int p0), .val (.long p1), .second, .val (.int p2), .val (.int (4 : Int32)), .val (.ref A_GROUP_MEMBERS), .val (.long (5000 : Int64)), .second, .val (.int (1 : Int32)), .val (.long ((5000 : Int64) + (((p2 &&& (3 : Int32)) - (2 : Int32)).toInt64))), .second, .unset] [(.int (1 : Int32))]))
        refine gv (fun tQ kQ => XS.goto X50.here hx rfl (pc0 := 235) (pc' := 239) rfl (hb hby at_235) (by decide) (by decide) kQ) ?_
        show G (T50.setTop (mkF me_ 239 #[.val (.int p0), .val (.long p1), .second, .val (.int p2), .val (.int (4 : Int32)), .val (.ref A_GROUP_MEMBERS), .val (.long (5000 : Int64)), .second, .val (.int (1 : Int32)), .val (.long ((5000 : Int64) + (((p2 &&& (3 : Int32)) - (2 : Int32)).toInt64))), .second, .unset] [(.int (1 : Int32))]))
        refine gv (fun tQ kQ => XS.istore X50.here hx rfl (hb hby at_239) rfl (l' := #[.val (.int p0), .val (.long p1), .second, .val (.int p2), .val (.int (4 : Int32)), .val (.ref A_GROUP_MEMBERS), .val (.long (5000 : Int64)), .second, .val (.int (1 : Int32)), .val (.long ((5000 : Int64) + (((p2 &&& (3 : Int32)) - (2 : Int32)).toInt64))), .second, .val (.int (1 : Int32))]) rfl kQ) ?_
        show G (T50.setTop (mkF me_ 241 #[.val (.int p0), .val (.long p1), .second, .val (.int p2), .val (.int (4 : Int32)), .val (.ref A_GROUP_MEMBERS), .val (.long (5000 : Int64)), .second, .val (.int (1 : Int32)), .val (.long ((5000 : Int64) + (((p2 &&& (3 : Int32)) - (2 : Int32)).toInt64))), .second, .val (.int (1 : Int32))] []))
        refine gv (fun tQ kQ => XS.iload X50.here hx rfl (hb hby at_241) rfl kQ) ?_
        show G (T50.setTop (mkF me_ 243 #[.val (.int p0), .val (.long p1), .second, .val (.int p2), .val (.int (4 : Int32)), .val (.ref A_GROUP_MEMBERS), .val (.long (5000 : Int64)), .second, .val (.int (1 : Int32)), .val (.long ((5000 : Int64) + (((p2 &&& (3 : Int32)) - (2 : Int32)).toInt64))), .second, .val (.int (1 : Int32))] [(.int (1 : Int32))]))
        refine gv (fun tQ kQ => XS.ifNo X50.here hx rfl (hb hby at_243) rfl ((if0 _ _).trans (feq (by decide : ¬ ((1 : Int32) = (0 : Int32)))).1) kQ) ?_
        show G (T50.setTop (mkF me_ 246 #[.val (.int p0), .val (.long p1), .second, .val (.int p2), .val (.int (4 : Int32)), .val (.ref A_GROUP_MEMBERS), .val (.long (5000 : Int64)), .second, .val (.int (1 : Int32)), .val (.long ((5000 : Int64) + (((p2 &&& (3 : Int32)) - (2 : Int32)).toInt64))), .second, .val (.int (1 : Int32))] []))
        refine gv (fun tQ kQ => XS.iload X50.here hx rfl (hb hby at_246) rfl kQ) ?_
        show G (T50.setTop (mkF me_ 248 #[.val (.int p0), .val (.long p1), .second, .val (.int p2), .val (.int (4 : Int32)), .val (.ref A_GROUP_MEMBERS), .val (.long (5000 : Int64)), .second, .val (.int (1 : Int32)), .val (.long ((5000 : Int64) + (((p2 &&& (3 : Int32)) - (2 : Int32)).toInt64))), .second, .val (.int (1 : Int32))] [(.int (1 : Int32))]))
        refine gv (fun tQ kQ => XS.ifNo X50.here hx rfl (hb hby at_248) rfl ((if0 _ _).trans (feq (by decide : ¬ ((1 : Int32) = (0 : Int32)))).1) kQ) ?_
        show G (T50.setTop (mkF me_ 251 #[.val (.int p0), .val (.long p1), .second, .val (.int p2), .val (.int (4 : Int32)), .val (.ref A_GROUP_MEMBERS), .val (.long (5000 : Int64)), .second, .val (.int (1 : Int32)), .val (.long ((5000 : Int64) + (((p2 &&& (3 : Int32)) - (2 : Int32)).toInt64))), .second, .val (.int (1 : Int32))] []))
        refine gv (fun tQ kQ => XS.iconst X50.here hx rfl (hb hby at_251) kQ) ?_
        show G (T50.setTop (mkF me_ 252 #[.val (.int p0), .val (.long p1), .second, .val (.int p2), .val (.int (4 : Int32)), .val (.ref A_GROUP_MEMBERS), .val (.long (5000 : Int64)), .second, .val (.int (1 : Int32)), .val (.long ((5000 : Int64) + (((p2 &&& (3 : Int32)) - (2 : Int32)).toInt64))), .second, .val (.int (1 : Int32))] [(.int (1 : Int32))]))
        refine gv (fun tQ kQ => XS.goto X50.here hx rfl (pc0 := 252) (pc' := 256) rfl (hb hby at_252) (by decide) (by decide) kQ) ?_
        show G (T50.setTop (mkF me_ 256 #[.val (.int p0), .val (.long p1), .second, .val (.int p2), .val (.int (4 : Int32)), .val (.ref A_GROUP_MEMBERS), .val (.long (5000 : Int64)), .second, .val (.int (1 : Int32)), .val (.long ((5000 : Int64) + (((p2 &&& (3 : Int32)) - (2 : Int32)).toInt64))), .second, .val (.int (1 : Int32))] [(.int (1 : Int32))]))
        refine gf _ (own_ret X50 Bd.notSynchronized (v := some (.int (1 : Int32))) (fun h => by rw [Bd.returns] at h; cases h) ?_ (by decide) (by decide) (fun fs hr => retN X50 hx (t := .boolean) Bd.returns (by simp) (hb hby at_256) hr))
        show Q0 Z p0 p1 p2 A_TOPICS A_ROUTE_QUEUES A_GROUPS A_MEMBERS A_GROUP_MEMBERS A_MEMBER_TOPICS A_QUEUES A_OFFSETS A_OPTIONS_BYTES h0 n0 _ T50.heap _
        rw [eq50]
        exact ⟨rfl, N51⟩
  · rw [q]
    show G (s₁.setTop (mkF me_ 9 #[.val (.int p0), .val (.long p1), .second, .val (.int p2), .val (.int (5 : Int32)), .unset, .unset, .unset, .unset, .unset, .unset, .unset] []))
    refine gv (fun tQ kQ => XS.iload X0.here hx rfl (hb hby at_9) rfl kQ) ?_
    show G (s₁.setTop (mkF me_ 11 #[.val (.int p0), .val (.long p1), .second, .val (.int p2), .val (.int (5 : Int32)), .unset, .unset, .unset, .unset, .unset, .unset, .unset] [(.int (5 : Int32))]))
    refine gv (fun tQ kQ => XS.ifYes X0.here hx rfl (pc0 := 11) (pc' := 27) rfl (hb hby at_11) rfl ((if0 _ _).trans (feq (by decide : ¬ ((5 : Int32) = (0 : Int32)))).2) (by decide) (by decide) kQ) ?_
    show G (s₁.setTop (mkF me_ 27 #[.val (.int p0), .val (.long p1), .second, .val (.int p2), .val (.int (5 : Int32)), .unset, .unset, .unset, .unset, .unset, .unset, .unset] []))
    refine gv (fun tQ kQ => XS.iload X0.here hx rfl (hb hby at_27) rfl kQ) ?_
    show G (s₁.setTop (mkF me_ 29 #[.val (.int p0), .val (.long p1), .second, .val (.int p2), .val (.int (5 : Int32)), .unset, .unset, .unset, .unset, .unset, .unset, .unset] [(.int (5 : Int32))]))
    refine gv (fun tQ kQ => XS.iconst X0.here hx rfl (hb hby at_29) kQ) ?_
    show G (s₁.setTop (mkF me_ 30 #[.val (.int p0), .val (.long p1), .second, .val (.int p2), .val (.int (5 : Int32)), .unset, .unset, .unset, .unset, .unset, .unset, .unset] [(.int (1 : Int32)), (.int (5 : Int32))]))
    refine gv (fun tQ kQ => XS.icmpYes X0.here hx rfl (pc0 := 30) (pc' := 46) rfl (hb hby at_30) rfl (feq (by decide : ¬ ((5 : Int32) = (1 : Int32)))).2 (by decide) (by decide) kQ) ?_
    show G (s₁.setTop (mkF me_ 46 #[.val (.int p0), .val (.long p1), .second, .val (.int p2), .val (.int (5 : Int32)), .unset, .unset, .unset, .unset, .unset, .unset, .unset] []))
    refine gv (fun tQ kQ => XS.iload X0.here hx rfl (hb hby at_46) rfl kQ) ?_
    show G (s₁.setTop (mkF me_ 48 #[.val (.int p0), .val (.long p1), .second, .val (.int p2), .val (.int (5 : Int32)), .unset, .unset, .unset, .unset, .unset, .unset, .unset] [(.int (5 : Int32))]))
    refine gv (fun tQ kQ => XS.iconst X0.here hx rfl (hb hby at_48) kQ) ?_
    show G (s₁.setTop (mkF me_ 49 #[.val (.int p0), .val (.long p1), .second, .val (.int p2), .val (.int (5 : Int32)), .unset, .unset, .unset, .unset, .unset, .unset, .unset] [(.int (2 : Int32)), (.int (5 : Int32))]))
    refine gv (fun tQ kQ => XS.icmpYes X0.here hx rfl (pc0 := 49) (pc' := 65) rfl (hb hby at_49) rfl (feq (by decide : ¬ ((5 : Int32) = (2 : Int32)))).2 (by decide) (by decide) kQ) ?_
    show G (s₁.setTop (mkF me_ 65 #[.val (.int p0), .val (.long p1), .second, .val (.int p2), .val (.int (5 : Int32)), .unset, .unset, .unset, .unset, .unset, .unset, .unset] []))
    refine gv (fun tQ kQ => XS.iload X0.here hx rfl (hb hby at_65) rfl kQ) ?_
    show G (s₁.setTop (mkF me_ 67 #[.val (.int p0), .val (.long p1), .second, .val (.int p2), .val (.int (5 : Int32)), .unset, .unset, .unset, .unset, .unset, .unset, .unset] [(.int (5 : Int32))]))
    refine gv (fun tQ kQ => XS.iconst X0.here hx rfl (hb hby at_67) kQ) ?_
    show G (s₁.setTop (mkF me_ 68 #[.val (.int p0), .val (.long p1), .second, .val (.int p2), .val (.int (5 : Int32)), .unset, .unset, .unset, .unset, .unset, .unset, .unset] [(.int (3 : Int32)), (.int (5 : Int32))]))
    refine gv (fun tQ kQ => XS.icmpYes X0.here hx rfl (pc0 := 68) (pc' := 84) rfl (hb hby at_68) rfl (feq (by decide : ¬ ((5 : Int32) = (3 : Int32)))).2 (by decide) (by decide) kQ) ?_
    show G (s₁.setTop (mkF me_ 84 #[.val (.int p0), .val (.long p1), .second, .val (.int p2), .val (.int (5 : Int32)), .unset, .unset, .unset, .unset, .unset, .unset, .unset] []))
    refine gv (fun tQ kQ => XS.iload X0.here hx rfl (hb hby at_84) rfl kQ) ?_
    show G (s₁.setTop (mkF me_ 86 #[.val (.int p0), .val (.long p1), .second, .val (.int p2), .val (.int (5 : Int32)), .unset, .unset, .unset, .unset, .unset, .unset, .unset] [(.int (5 : Int32))]))
    refine gv (fun tQ kQ => XS.iconst X0.here hx rfl (hb hby at_86) kQ) ?_
    show G (s₁.setTop (mkF me_ 87 #[.val (.int p0), .val (.long p1), .second, .val (.int p2), .val (.int (5 : Int32)), .unset, .unset, .unset, .unset, .unset, .unset, .unset] [(.int (4 : Int32)), (.int (5 : Int32))]))
    refine gv (fun tQ kQ => XS.icmpYes X0.here hx rfl (pc0 := 87) (pc' := 103) rfl (hb hby at_87) rfl (feq (by decide : ¬ ((5 : Int32) = (4 : Int32)))).2 (by decide) (by decide) kQ) ?_
    show G (s₁.setTop (mkF me_ 103 #[.val (.int p0), .val (.long p1), .second, .val (.int p2), .val (.int (5 : Int32)), .unset, .unset, .unset, .unset, .unset, .unset, .unset] []))
    refine gv (fun tQ kQ => XS.iload X0.here hx rfl (hb hby at_103) rfl kQ) ?_
    show G (s₁.setTop (mkF me_ 105 #[.val (.int p0), .val (.long p1), .second, .val (.int p2), .val (.int (5 : Int32)), .unset, .unset, .unset, .unset, .unset, .unset, .unset] [(.int (5 : Int32))]))
    refine gv (fun tQ kQ => XS.iconst X0.here hx rfl (hb hby at_105) kQ) ?_
    show G (s₁.setTop (mkF me_ 106 #[.val (.int p0), .val (.long p1), .second, .val (.int p2), .val (.int (5 : Int32)), .unset, .unset, .unset, .unset, .unset, .unset, .unset] [(.int (5 : Int32)), (.int (5 : Int32))]))
    refine gv (fun tQ kQ => XS.icmpNo X0.here hx rfl (hb hby at_106) rfl (teq (by decide : (5 : Int32) = (5 : Int32))).2 kQ) ?_
    show G (s₁.setTop (mkF me_ 109 #[.val (.int p0), .val (.long p1), .second, .val (.int p2), .val (.int (5 : Int32)), .unset, .unset, .unset, .unset, .unset, .unset, .unset] []))
    obtain ⟨T53, X53, e53, st53⟩ := getS2 X0 hx hZ hown (host := "") (Or.inl (hw _ (List.mem_of_getElem? (i := 28) rfl))) Via.refl e0 (u5.ext O0.2) (g := (mkF me_ 109 #[.val (.int p0), .val (.long p1), .second, .val (.int p2), .val (.int (5 : Int32)), .unset, .unset, .unset, .unset, .unset, .unset, .unset] [])) rfl (hb hby at_109)
    refine gv st53 ?_
    show G (T53.setTop (mkF me_ 112 #[.val (.int p0), .val (.long p1), .second, .val (.int p2), .val (.int (5 : Int32)), .unset, .unset, .unset, .unset, .unset, .unset, .unset] [(.ref A_MEMBER_TOPICS)]))
    refine gv (fun tQ kQ => XS.astore X53.here hx rfl (hb hby at_112) rfl rfl (l' := #[.val (.int p0), .val (.long p1), .second, .val (.int p2), .val (.int (5 : Int32)), .val (.ref A_MEMBER_TOPICS), .unset, .unset, .unset, .unset, .unset, .unset]) rfl kQ) ?_
    show G (T53.setTop (mkF me_ 114 #[.val (.int p0), .val (.long p1), .second, .val (.int p2), .val (.int (5 : Int32)), .val (.ref A_MEMBER_TOPICS), .unset, .unset, .unset, .unset, .unset, .unset] []))
    refine gv (X53.ldc2Long hx hown (mvT hZ (hw _ (List.mem_of_getElem? (i := 24) rfl))) (g := (mkF me_ 114 #[.val (.int p0), .val (.long p1), .second, .val (.int p2), .val (.int (5 : Int32)), .val (.ref A_MEMBER_TOPICS), .unset, .unset, .unset, .unset, .unset, .unset] [])) rfl (hb hby at_114)) ?_
    show G (T53.setTop (mkF me_ 117 #[.val (.int p0), .val (.long p1), .second, .val (.int p2), .val (.int (5 : Int32)), .val (.ref A_MEMBER_TOPICS), .unset, .unset, .unset, .unset, .unset, .unset] [(.long (1000 : Int64))]))
    refine gv (fun tQ kQ => XS.lstore X53.here hx rfl (hb hby at_117) rfl (l' := #[.val (.int p0), .val (.long p1), .second, .val (.int p2), .val (.int (5 : Int32)), .val (.ref A_MEMBER_TOPICS), .val (.long (1000 : Int64)), .second, .unset, .unset, .unset, .unset]) rfl kQ) ?_
    show G (T53.setTop (mkF me_ 119 #[.val (.int p0), .val (.long p1), .second, .val (.int p2), .val (.int (5 : Int32)), .val (.ref A_MEMBER_TOPICS), .val (.long (1000 : Int64)), .second, .unset, .unset, .unset, .unset] []))
    refine gv (fun tQ kQ => XS.goto X53.here hx rfl (pc0 := 119) (pc' := 172) rfl (hb hby at_119) (by decide) (by decide) kQ) ?_
    show G (T53.setTop (mkF me_ 172 #[.val (.int p0), .val (.long p1), .second, .val (.int p2), .val (.int (5 : Int32)), .val (.ref A_MEMBER_TOPICS), .val (.long (1000 : Int64)), .second, .unset, .unset, .unset, .unset] []))
    refine gv (fun tQ kQ => XS.aload X53.here hx rfl (hb hby at_172) rfl rfl kQ) ?_
    show G (T53.setTop (mkF me_ 174 #[.val (.int p0), .val (.long p1), .second, .val (.int p2), .val (.int (5 : Int32)), .val (.ref A_MEMBER_TOPICS), .val (.long (1000 : Int64)), .second, .unset, .unset, .unset, .unset] [(.ref A_MEMBER_TOPICS)]))
    refine gv (fun tQ kQ => XS.lloadN X53.here hx rfl (hb hby at_174) rfl kQ) ?_
    show G (T53.setTop (mkF me_ 175 #[.val (.int p0), .val (.long p1), .second, .val (.int p2), .val (.int (5 : Int32)), .val (.ref A_MEMBER_TOPICS), .val (.long (1000 : Int64)), .second, .unset, .unset, .unset, .unset] [(.long p1), (.ref A_MEMBER_TOPICS)]))
    obtain ⟨cq54, kq54, q54a, q54b, q54c⟩ := isOf hZ e53 (u14.ext O0.2)
    obtain ⟨_, _, ⟨T54, L54, k54, n54⟩, -, X54, ⟨Lc54, hQ54, l54, y54, z54⟩, st54⟩ := X53.virtualBack hx (y := (⟨"com/example/slot1/slot1/server/Limit", "allows", "(J)Z"⟩ : MethodName)) (z := (⟨"com/example/slot1/slot1/server/Limit", "allows", "(J)Z"⟩ : MethodName)) hown (mvT hZ (hw _ (List.mem_of_getElem? (i := 5) rfl))) (mvT hZ (hw _ (List.mem_of_getElem? (i := 6) rfl))) (notFace_of_selects (args := #[]) (mvT hZ (hw _ (List.mem_of_getElem? (i := 8) rfl)))) (mvT hZ (hw _ (List.mem_of_getElem? (i := 8) rfl))) (mvT hZ (hw _ (List.mem_of_getElem? (i := 7) rfl))) (by decide) (backOf (W := 0) (rm_allows l Z a0 hw [] A_MEMBER_TOPICS p1 (1000 : Int64) h0 n0 O0 (u23.ext O0.2)) hZ (hw _ (List.mem_of_getElem? (i := 9) rfl)) (hw _ (List.mem_of_getElem? (i := 2) rfl)) (by decide) (by decide)) q54a q54c (g := (mkF me_ 175 #[.val (.int p0), .val (.long p1), .second, .val (.int p2), .val (.int (5 : Int32)), .val (.ref A_MEMBER_TOPICS), .val (.long (1000 : Int64)), .second, .unset, .unset, .unset, .unset] [(.long p1), (.ref A_MEMBER_TOPICS)])) rfl (by rw [hml]; rfl) (Steps.refl _) (argsL := [(.long p1)]) (rest := []) (lenOf pd_0 rfl) rfl (by show 2 * 0 + _ ≤ _; exact Nat.le_of_eq rfl) (hb hby at_175) (fun _ _ => ⟨rfl, e53, (by decide : 0 + 0 ≤ _), (by decide : 0 + 0 ≤ _)⟩)
    dsimp only [Pt.U, Pt.locs, Pt.cells, Pt.slots] at X54 l54 y54 z54 st54 hQ54
    subst l54 y54 z54
    obtain ⟨rfl, Nq54, eq54⟩ := hQ54
    have N55 := Fr.app N0 Nq54
    by_cases hb56 : (1000 : Int64) < p1
    · rw [if_pos hb56] at st54
      refine gv (fun tQ kQ => st54.trans kQ) ?_
      show G (T54.setTop (mkF me_ 178 #[.val (.int p0), .val (.long p1), .second, .val (.int p2), .val (.int (5 : Int32)), .val (.ref A_MEMBER_TOPICS), .val (.long (1000 : Int64)), .second, .unset, .unset, .unset, .unset] [(.int (0 : Int32))]))
      refine gv (fun tQ kQ => XS.lloadN X54.here hx rfl (hb hby at_178) rfl kQ) ?_
      show G (T54.setTop (mkF me_ 179 #[.val (.int p0), .val (.long p1), .second, .val (.int p2), .val (.int (5 : Int32)), .val (.ref A_MEMBER_TOPICS), .val (.long (1000 : Int64)), .second, .unset, .unset, .unset, .unset] [(.long p1), (.int (0 : Int32))]))
      refine gv (fun tQ kQ => XS.lload X54.here hx rfl (hb hby at_179) rfl kQ) ?_
      show G (T54.setTop (mkF me_ 181 #[.val (.int p0), .val (.long p1), .second, .val (.int p2), .val (.int (5 : Int32)), .val (.ref A_MEMBER_TOPICS), .val (.long (1000 : Int64)), .second, .unset, .unset, .unset, .unset] [(.long (1000 : Int64)), (.long p1), (.int (0 : Int32))]))
      refine gv (fun tQ kQ => XS.lcmp X54.here hx rfl (hb hby at_181) rfl kQ) ?_
      show G (T54.setTop (mkF me_ 182 #[.val (.int p0), .val (.long p1), .second, .val (.int p2), .val (.int (5 : Int32)), .val (.ref A_MEMBER_TOPICS), .val (.long (1000 : Int64)), .second, .unset, .unset, .unset, .unset] [(.int (lcmpW p1 (1000 : Int64))), (.int (0 : Int32))]))
      refine gv (fun tQ kQ => XS.ifYes X54.here hx rfl (pc0 := 182) (pc' := 189) rfl (hb hby at_182) rfl ((if0 _ _).trans (tlt ((lw_gt _ _).mpr hb56)).2.2.1) (by decide) (by decide) kQ) ?_
      show G (T54.setTop (mkF me_ 189 #[.val (.int p0), .val (.long p1), .second, .val (.int p2), .val (.int (5 : Int32)), .val (.ref A_MEMBER_TOPICS), .val (.long (1000 : Int64)), .second, .unset, .unset, .unset, .unset] [(.int (0 : Int32))]))
      refine gv (fun tQ kQ => XS.iconst X54.here hx rfl (hb hby at_189) kQ) ?_
      show G (T54.setTop (mkF me_ 190 #[.val (.int p0), .val (.long p1), .second, .val (.int p2), .val (.int (5 : Int32)), .val (.ref A_MEMBER_TOPICS), .val (.long (1000 : Int64)), .second, .unset, .unset, .unset, .unset] [(.int (0 : Int32)), (.int (0 : Int32))]))
      refine gv (fun tQ kQ => XS.icmpNo X54.here hx rfl (hb hby at_190) rfl (teq (by decide : (0 : Int32) = (0 : Int32))).2 kQ) ?_
      show G (T54.setTop (mkF me_ 193 #[.val (.int p0), .val (.long p1), .second, .val (.int p2), .val (.int (5 : Int32)), .val (.ref A_MEMBER_TOPICS), .val (.long (1000 : Int64)), .second, .unset, .unset, .unset, .unset] []))
      refine gv (fun tQ kQ => XS.iconst X54.here hx rfl (hb hby at_193) kQ) ?_
      show G (T54.setTop (mkF me_ 194 #[.val (.int p0), .val (.long p1), .second, .val (.int p2), .val (.int (5 : Int32)), .val (.ref A_MEMBER_TOPICS), .val (.long (1000 : Int64)), .second, .unset, .unset, .unset, .unset] [(.int (1 : Int32))]))
      refine gv (fun tQ kQ => XS.goto X54.here hx rfl (pc0 := 194) (pc' := 198) rfl (hb hby at_194) (by decide) (by decide) kQ) ?_
      show G (T54.setTop (mkF me_ 198 #[.val (.int p0), .val (.long p1), .second, .val (.int p2), .val (.int (5 : Int32)), .val (.ref A_MEMBER_TOPICS), .val (.long (1000 : Int64)), .second, .unset, .unset, .unset, .unset] [(.int (1 : Int32))]))
      refine gv (fun tQ kQ => XS.istore X54.here hx rfl (hb hby at_198) rfl (l' := #[.val (.int p0), .val (.long p1), .second, .val (.int p2), .val (.int (5 : Int32)), .val (.ref A_MEMBER_TOPICS), .val (.long (1000 : Int64)), .second, .val (.int (1 : Int32)), .unset, .unset, .unset]) rfl kQ) ?_
      show G (T54.setTop (mkF me_ 200 #[.val (.int p0), .val (.long p1), .second, .val (.int p2), .val (.int (5 : Int32)), .val (.ref A_MEMBER_TOPICS), .val (.long (1000 : Int64)), .second, .val (.int (1 : Int32)), .unset, .unset, .unset] []))
      refine gv (fun tQ kQ => XS.lload X54.here hx rfl (hb hby at_200) rfl kQ) ?_
      show G (T54.setTop (mkF me_ 202 #[.val (.int p0), .val (.long p1), .second, .val (.int p2), .val (.int (5 : Int32)), .val (.ref A_MEMBER_TOPICS), .val (.long (1000 : Int64)), .second, .val (.int (1 : Int32)), .unset, .unset, .unset] [(.long (1000 : Int64))]))
      refine gv (fun tQ kQ => XS.iloadN X54.here hx rfl (hb hby at_202) rfl kQ) ?_
      show G (T54.setTop (mkF me_ 203 #[.val (.int p0), .val (.long p1), .second, .val (.int p2), .val (.int (5 : Int32)), .val (.ref A_MEMBER_TOPICS), .val (.long (1000 : Int64)), .second, .val (.int (1 : Int32)), .unset, .unset, .unset] [(.int p2), (.long (1000 : Int64))]))
      refine gv (fun tQ kQ => XS.iconst X54.here hx rfl (hb hby at_203) kQ) ?_
      show G (T54.setTop (mkF me_ 204 #[.val (.int p0), .val (.long p1), .second, .val (.int p2), .val (.int (5 : Int32)), .val (.ref A_MEMBER_TOPICS), .val (.long (1000 : Int64)), .second, .val (.int (1 : Int32)), .unset, .unset, .unset] [(.int (3 : Int32)), (.int p2), (.long (1000 : Int64))]))
      refine gv (fun tQ kQ => XS.iand X54.here hx rfl (hb hby at_204) rfl kQ) ?_
      show G (T54.setTop (mkF me_ 205 #[.val (.int p0), .val (.long p1), .second, .val (.int p2), .val (.int (5 : Int32)), .val (.ref A_MEMBER_TOPICS), .val (.long (1000 : Int64)), .second, .val (.int (1 : Int32)), .unset, .unset, .unset] [(.int (p2 &&& (3 : Int32))), (.long (1000 : Int64))]))
      refine gv (fun tQ kQ => XS.iconst X54.here hx rfl (hb hby at_205) kQ) ?_
      show G (T54.setTop (mkF me_ 206 #[.val (.int p0), .val (.long p1), .second, .val (.int p2), .val (.int (5 : Int32)), .val (.ref A_MEMBER_TOPICS), .val (.long (1000 : Int64)), .second, .val (.int (1 : Int32)), .unset, .unset, .unset] [(.int (2 : Int32)), (.int (p2 &&& (3 : Int32))), (.long (1000 : Int64))]))
      refine gv (fun tQ kQ => XS.isub X54.here hx rfl (hb hby at_206) rfl kQ) ?_
      show G (T54.setTop (mkF me_ 207 #[.val (.int p0), .val (.long p1), .second, .val (.int p2), .val (.int (5 : Int32)), .val (.ref A_MEMBER_TOPICS), .val (.long (1000 : Int64)), .second, .val (.int (1 : Int32)), .unset, .unset, .unset] [(.int ((p2 &&& (3 : Int32)) - (2 : Int32))), (.long (1000 : Int64))]))
      refine gv (fun tQ kQ => XS.i2l X54.here hx rfl (hb hby at_207) rfl kQ) ?_
      show G (T54.setTop (mkF me_ 208 #[.val (.int p0), .val (.long p1), .second, .val (.int p2), .val (.int (5 : Int32)), .val (.ref A_MEMBER_TOPICS), .val (.long (1000 : Int64)), .second, .val (.int (1 : Int32)), .unset, .unset, .unset] [(.long (((p2 &&& (3 : Int32)) - (2 : Int32)).toInt64)), (.long (1000 : Int64))]))
      refine gv (fun tQ kQ => XS.ladd X54.here hx rfl (hb hby at_208) rfl kQ) ?_
      show G (T54.setTop (mkF me_ 209 #[.val (.int p0), .val (.long p1), .second, .val (.int p2), .val (.int (5 : Int32)), .val (.ref A_MEMBER_TOPICS), .val (.long (1000 : Int64)), .second, .val (.int (1 : Int32)), .unset, .unset, .unset] [(.long ((1000 : Int64) + (((p2 &&& (3 : Int32)) - (2 : Int32)).toInt64)))]))
      refine gv (fun tQ kQ => XS.lstore X54.here hx rfl (hb hby at_209) rfl (l' := #[.val (.int p0), .val (.long p1), .second, .val (.int p2), .val (.int (5 : Int32)), .val (.ref A_MEMBER_TOPICS), .val (.long (1000 : Int64)), .second, .val (.int (1 : Int32)), .val (.long ((1000 : Int64) + (((p2 &&& (3 : Int32)) - (2 : Int32)).toInt64))), .second, .unset]) rfl kQ) ?_
      show G (T54.setTop (mkF me_ 211 #[.val (.int p0), .val (.long p1), .second, .val (.int p2), .val (.int (5 : Int32)), .val (.ref A_MEMBER_TOPICS), .val (.long (1000 : Int64)), .second, .val (.int (1 : Int32)), .val (.long ((1000 : Int64) + (((p2 &&& (3 : Int32)) - (2 : Int32)).toInt64))), .second, .unset] []))
      refine gv (fun tQ kQ => XS.aload X54.here hx rfl (hb hby at_211) rfl rfl kQ) ?_
      show G (T54.setTop (mkF me_ 213 #[.val (.int p0), .val (.long p1), .second, .val (.int p2), .val (.int (5 : Int32)), .val (.ref A_MEMBER_TOPICS), .val (.long (1000 : Int64)), .second, .val (.int (1 : Int32)), .val (.long ((1000 : Int64) + (((p2 &&& (3 : Int32)) - (2 : Int32)).toInt64))), .second, .unset] [(.ref A_MEMBER_TOPICS)]))
      refine gv (fun tQ kQ => XS.lload X54.here hx rfl (hb hby at_213) rfl kQ) ?_
      show G (T54.setTop (mkF me_ 215 #[.val (.int p0), .val (.long p1), .second, .val (.int p2), .val (.int (5 : Int32)), .val (.ref A_MEMBER_TOPICS), .val (.long (1000 : Int64)), .second, .val (.int (1 : Int32)), .val (.long ((1000 : Int64) + (((p2 &&& (3 : Int32)) - (2 : Int32)).toInt64))), .second, .unset] [(.long ((1000 : Int64) + (((p2 &&& (3 : Int32)) - (2 : Int32)).toInt64))), (.ref A_MEMBER_TOPICS)]))
      obtain ⟨cq57, kq57, q57a, q57b, q57c⟩ := isOf hZ eq54 (u14.ext O0.2)
      obtain ⟨_, _, ⟨T57, L57, k57, n57⟩, -, X57, ⟨Lc57, hQ57, l57, y57, z57⟩, st57⟩ := X54.virtualBack hx (y := (⟨"com/example/slot1/slot1/server/Limit", "allows", "(J)Z"⟩ : MethodName)) (z := (⟨"com/example/slot1/slot1/server/Limit", "allows", "(J)Z"⟩ : MethodName)) hown (mvT hZ (hw _ (List.mem_of_getElem? (i := 5) rfl))) (mvT hZ (hw _ (List.mem_of_getElem? (i := 6) rfl))) (notFace_of_selects (args := #[]) (mvT hZ (hw _ (List.mem_of_getElem? (i := 8) rfl)))) (mvT hZ (hw _ (List.mem_of_getElem? (i := 8) rfl))) (mvT hZ (hw _ (List.mem_of_getElem? (i := 7) rfl))) (by decide) (backOf (W := 0) (rm_allows l Z a0 hw [] A_MEMBER_TOPICS ((1000 : Int64) + (((p2 &&& (3 : Int32)) - (2 : Int32)).toInt64)) (1000 : Int64) h0 n0 O0 (u23.ext O0.2)) hZ (hw _ (List.mem_of_getElem? (i := 9) rfl)) (hw _ (List.mem_of_getElem? (i := 2) rfl)) (by decide) (by decide)) q57a q57c (g := (mkF me_ 215 #[.val (.int p0), .val (.long p1), .second, .val (.int p2), .val (.int (5 : Int32)), .val (.ref A_MEMBER_TOPICS), .val (.long (1000 : Int64)), .second, .val (.int (1 : Int32)), .val (.long ((1000 : Int64) + (((p2 &&& (3 : Int32)) - (2 : Int32)).toInt64))), .second, .unset] [(.long ((1000 : Int64) + (((p2 &&& (3 : Int32)) - (2 : Int32)).toInt64))), (.ref A_MEMBER_TOPICS)])) rfl (by rw [hml]; rfl) (Steps.refl _) (argsL := [(.long ((1000 : Int64) + (((p2 &&& (3 : Int32)) - (2 : Int32)).toInt64)))]) (rest := []) (lenOf pd_0 rfl) rfl (by show 2 * 0 + _ ≤ _; exact Nat.le_of_eq rfl) (hb hby at_215) (fun _ _ => ⟨rfl, eq54, (by decide : 0 + 0 ≤ _), (by decide : 0 + 0 ≤ _)⟩)
      dsimp only [Pt.U, Pt.locs, Pt.cells, Pt.slots] at X57 l57 y57 z57 st57 hQ57
      subst l57 y57 z57
      obtain ⟨rfl, Nq57, eq57⟩ := hQ57
      have N58 := Fr.app N55 Nq57
      by_cases hb59 : (1000 : Int64) < ((1000 : Int64) + (((p2 &&& (3 : Int32)) - (2 : Int32)).toInt64))
      · rw [if_pos hb59] at st57
        refine gv (fun tQ kQ => st57.trans kQ) ?_
        show G (T57.setTop (mkF me_ 218 #[.val (.int p0), .val (.long p1), .second, .val (.int p2), .val (.int (5 : Int32)), .val (.ref A_MEMBER_TOPICS), .val (.long (1000 : Int64)), .second, .val (.int (1 : Int32)), .val (.long ((1000 : Int64) + (((p2 &&& (3 : Int32)) - (2 : Int32)).toInt64))), .second, .unset] [(.int (0 : Int32))]))
        refine gv (fun tQ kQ => XS.lload X57.here hx rfl (hb hby at_218) rfl kQ) ?_
        show G (T57.setTop (mkF me_ 220 #[.val (.int p0), .val (.long p1), .second, .val (.int p2), .val (.int (5 : Int32)), .val (.ref A_MEMBER_TOPICS), .val (.long (1000 : Int64)), .second, .val (.int (1 : Int32)), .val (.long ((1000 : Int64) + (((p2 &&& (3 : Int32)) - (2 : Int32)).toInt64))), .second, .unset] [(.long ((1000 : Int64) + (((p2 &&& (3 : Int32)) - (2 : Int32)).toInt64))), (.int (0 : Int32))]))
        refine gv (fun tQ kQ => XS.lload X57.here hx rfl (hb hby at_220) rfl kQ) ?_
        show G (T57.setTop (mkF me_ 222 #[.val (.int p0), .val (.long p1), .second, .val (.int p2), .val (.int (5 : Int32)), .val (.ref A_MEMBER_TOPICS), .val (.long (1000 : Int64)), .second, .val (.int (1 : Int32)), .val (.long ((1000 : Int64) + (((p2 &&& (3 : Int32)) - (2 : Int32)).toInt64))), .second, .unset] [(.long (1000 : Int64)), (.long ((1000 : Int64) + (((p2 &&& (3 : Int32)) - (2 : Int32)).toInt64))), (.int (0 : Int32))]))
        refine gv (fun tQ kQ => XS.lcmp X57.here hx rfl (hb hby at_222) rfl kQ) ?_
        show G (T57.setTop (mkF me_ 223 #[.val (.int p0), .val (.long p1), .second, .val (.int p2), .val (.int (5 : Int32)), .val (.ref A_MEMBER_TOPICS), .val (.long (1000 : Int64)), .second, .val (.int (1 : Int32)), .val (.long ((1000 : Int64) + (((p2 &&& (3 : Int32)) - (2 : Int32)).toInt64))), .second, .unset] [(.int (lcmpW ((1000 : Int64) + (((p2 &&& (3 : Int32)) - (2 : Int32)).toInt64)) (1000 : Int64))), (.int (0 : Int32))]))
        refine gv (fun tQ kQ => XS.ifYes X57.here hx rfl (pc0 := 223) (pc' := 230) rfl (hb hby at_223) rfl ((if0 _ _).trans (tlt ((lw_gt _ _).mpr hb59)).2.2.1) (by decide) (by decide) kQ) ?_
        show G (T57.setTop (mkF me_ 230 #[.val (.int p0), .val (.long p1), .second, .val (.int p2), .val (.int (5 : Int32)), .val (.ref A_MEMBER_TOPICS), .val (.long (1000 : Int64)), .second, .val (.int (1 : Int32)), .val (.long ((1000 : Int64) + (((p2 &&& (3 : Int32)) - (2 : Int32)).toInt64))), .second, .unset] [(.int (0 : Int32))]))
        refine gv (fun tQ kQ => XS.iconst X57.here hx rfl (hb hby at_230) kQ) ?_
        show G (T57.setTop (mkF me_ 231 #[.val (.int p0), .val (.long p1), .second, .val (.int p2), .val (.int (5 : Int32)), .val (.ref A_MEMBER_TOPICS), .val (.long (1000 : Int64)), .second, .val (.int (1 : Int32)), .val (.long ((1000 : Int64) + (((p2 &&& (3 : Int32)) - (2 : Int32)).toInt64))), .second, .unset] [(.int (0 : Int32)), (.int (0 : Int32))]))
        refine gv (fun tQ kQ => XS.icmpNo X57.here hx rfl (hb hby at_231) rfl (teq (by decide : (0 : Int32) = (0 : Int32))).2 kQ) ?_
        show G (T57.setTop (mkF me_ 234 #[.val (.int p0), .val (.long p1), .second, .val (.int p2), .val (.int (5 : Int32)), .val (.ref A_MEMBER_TOPICS), .val (.long (1000 : Int64)), .second, .val (.int (1 : Int32)), .val (.long ((1000 : Int64) + (((p2 &&& (3 : Int32)) - (2 : Int32)).toInt64))), .second, .unset] []))
        refine gv (fun tQ kQ => XS.iconst X57.here hx rfl (hb hby at_234) kQ) ?_
        show G (T57.setTop (mkF me_ 235 #[.val (.int p0), .val (.long p1), .second, .val (.int p2), .val (.int (5 : Int32)), .val (.ref A_MEMBER_TOPICS), .val (.long (1000 : Int64)), .second, .val (.int (1 : Int32)), .val (.long ((1000 : Int64) + (((p2 &&& (3 : Int32)) - (2 : Int32)).toInt64))), .second, .unset] [(.int (1 : Int32))]))
        refine gv (fun tQ kQ => XS.goto X57.here hx rfl (pc0 := 235) (pc' := 239) rfl (hb hby at_235) (by decide) (by decide) kQ) ?_
        show G (T57.setTop (mkF me_ 239 #[.val (.int p0), .val (.long p1), .second, .val (.int p2), .val (.int (5 : Int32)), .val (.ref A_MEMBER_TOPICS), .val (.long (1000 : Int64)), .second, .val (.int (1 : Int32)), .val (.long ((1000 : Int64) + (((p2 &&& (3 : Int32)) - (2 : Int32)).toInt64))), .second, .unset] [(.int (1 : Int32))]))
        refine gv (fun tQ kQ => XS.istore X57.here hx rfl (hb hby at_239) rfl (l' := #[.val (.int p0), .val (.long p1), .second, .val (.int p2), .val (.int (5 : Int32)), .val (.ref A_MEMBER_TOPICS), .val (.long (1000 : Int64)), .second, .val (.int (1 : Int32)), .val (.long ((1000 : Int64) + (((p2 &&& (3 : Int32)) - (2 : Int32)).toInt64))), .second, .val (.int (1 : Int32))]) rfl kQ) ?_
        show G (T57.setTop (mkF me_ 241 #[.val (.int p0), .val (.long p1), .second, .val (.int p2), .val (.int (5 : Int32)), .val (.ref A_MEMBER_TOPICS), .val (.long (1000 : Int64)), .second, .val (.int (1 : Int32)), .val (.long ((1000 : Int64) + (((p2 &&& (3 : Int32)) - (2 : Int32)).toInt64))), .second, .val (.int (1 : Int32))] []))
        refine gv (fun tQ kQ => XS.iload X57.here hx rfl (hb hby at_241) rfl kQ) ?_
        show G (T57.setTop (mkF me_ 243 #[.val (.int p0), .val (.long p1), .second, .val (.int p2), .val (.int (5 : Int32)), .val (.ref A_MEMBER_TOPICS), .val (.long (1000 : Int64)), .second, .val (.int (1 : Int32)), .val (.long ((1000 : Int64) + (((p2 &&& (3 : Int32)) - (2 : Int32)).toInt64))), .second, .val (.int (1 : Int32))] [(.int (1 : Int32))]))
        refine gv (fun tQ kQ => XS.ifNo X57.here hx rfl (hb hby at_243) rfl ((if0 _ _).trans (feq (by decide : ¬ ((1 : Int32) = (0 : Int32)))).1) kQ) ?_
        show G (T57.setTop (mkF me_ 246 #[.val (.int p0), .val (.long p1), .second, .val (.int p2), .val (.int (5 : Int32)), .val (.ref A_MEMBER_TOPICS), .val (.long (1000 : Int64)), .second, .val (.int (1 : Int32)), .val (.long ((1000 : Int64) + (((p2 &&& (3 : Int32)) - (2 : Int32)).toInt64))), .second, .val (.int (1 : Int32))] []))
        refine gv (fun tQ kQ => XS.iload X57.here hx rfl (hb hby at_246) rfl kQ) ?_
        show G (T57.setTop (mkF me_ 248 #[.val (.int p0), .val (.long p1), .second, .val (.int p2), .val (.int (5 : Int32)), .val (.ref A_MEMBER_TOPICS), .val (.long (1000 : Int64)), .second, .val (.int (1 : Int32)), .val (.long ((1000 : Int64) + (((p2 &&& (3 : Int32)) - (2 : Int32)).toInt64))), .second, .val (.int (1 : Int32))] [(.int (1 : Int32))]))
        refine gv (fun tQ kQ => XS.ifNo X57.here hx rfl (hb hby at_248) rfl ((if0 _ _).trans (feq (by decide : ¬ ((1 : Int32) = (0 : Int32)))).1) kQ) ?_
        show G (T57.setTop (mkF me_ 251 #[.val (.int p0), .val (.long p1), .second, .val (.int p2), .val (.int (5 : Int32)), .val (.ref A_MEMBER_TOPICS), .val (.long (1000 : Int64)), .second, .val (.int (1 : Int32)), .val (.long ((1000 : Int64) + (((p2 &&& (3 : Int32)) - (2 : Int32)).toInt64))), .second, .val (.int (1 : Int32))] []))
        refine gv (fun tQ kQ => XS.iconst X57.here hx rfl (hb hby at_251) kQ) ?_
        show G (T57.setTop (mkF me_ 252 #[.val (.int p0), .val (.long p1), .second, .val (.int p2), .val (.int (5 : Int32)), .val (.ref A_MEMBER_TOPICS), .val (.long (1000 : Int64)), .second, .val (.int (1 : Int32)), .val (.long ((1000 : Int64) + (((p2 &&& (3 : Int32)) - (2 : Int32)).toInt64))), .second, .val (.int (1 : Int32))] [(.int (1 : Int32))]))
        refine gv (fun tQ kQ => XS.goto X57.here hx rfl (pc0 := 252) (pc' := 256) rfl (hb hby at_252) (by decide) (by decide) kQ) ?_
        show G (T57.setTop (mkF me_ 256 #[.val (.int p0), .val (.long p1), .second, .val (.int p2), .val (.int (5 : Int32)), .val (.ref A_MEMBER_TOPICS), .val (.long (1000 : Int64)), .second, .val (.int (1 : Int32)), .val (.long ((1000 : Int64) + (((p2 &&& (3 : Int32)) - (2 : Int32)).toInt64))), .second, .val (.int (1 : Int32))] [(.int (1 : Int32))]))
        refine gf _ (own_ret X57 Bd.notSynchronized (v := some (.int (1 : Int32))) (fun h => by rw [Bd.returns] at h; cases h) ?_ (by decide) (by decide) (fun fs hr => retN X57 hx (t := .boolean) Bd.returns (by simp) (hb hby at_256) hr))
        show Q0 Z p0 p1 p2 A_TOPICS A_ROUTE_QUEUES A_GROUPS A_MEMBERS A_GROUP_MEMBERS A_MEMBER_TOPICS A_QUEUES A_OFFSETS A_OPTIONS_BYTES h0 n0 _ T57.heap _
        rw [eq57]
        exact ⟨rfl, N58⟩
      · skip
        rw [if_neg hb59] at st57
        refine gv (fun tQ kQ => st57.trans kQ) ?_
        show G (T57.setTop (mkF me_ 218 #[.val (.int p0), .val (.long p1), .second, .val (.int p2), .val (.int (5 : Int32)), .val (.ref A_MEMBER_TOPICS), .val (.long (1000 : Int64)), .second, .val (.int (1 : Int32)), .val (.long ((1000 : Int64) + (((p2 &&& (3 : Int32)) - (2 : Int32)).toInt64))), .second, .unset] [(.int (1 : Int32))]))
        refine gv (fun tQ kQ => XS.lload X57.here hx rfl (hb hby at_218) rfl kQ) ?_
        show G (T57.setTop (mkF me_ 220 #[.val (.int p0), .val (.long p1), .second, .val (.int p2), .val (.int (5 : Int32)), .val (.ref A_MEMBER_TOPICS), .val (.long (1000 : Int64)), .second, .val (.int (1 : Int32)), .val (.long ((1000 : Int64) + (((p2 &&& (3 : Int32)) - (2 : Int32)).toInt64))), .second, .unset] [(.long ((1000 : Int64) + (((p2 &&& (3 : Int32)) - (2 : Int32)).toInt64))), (.int (1 : Int32))]))
        refine gv (fun tQ kQ => XS.lload X57.here hx rfl (hb hby at_220) rfl kQ) ?_
        show G (T57.setTop (mkF me_ 222 #[.val (.int p0), .val (.long p1), .second, .val (.int p2), .val (.int (5 : Int32)), .val (.ref A_MEMBER_TOPICS), .val (.long (1000 : Int64)), .second, .val (.int (1 : Int32)), .val (.long ((1000 : Int64) + (((p2 &&& (3 : Int32)) - (2 : Int32)).toInt64))), .second, .unset] [(.long (1000 : Int64)), (.long ((1000 : Int64) + (((p2 &&& (3 : Int32)) - (2 : Int32)).toInt64))), (.int (1 : Int32))]))
        refine gv (fun tQ kQ => XS.lcmp X57.here hx rfl (hb hby at_222) rfl kQ) ?_
        show G (T57.setTop (mkF me_ 223 #[.val (.int p0), .val (.long p1), .second, .val (.int p2), .val (.int (5 : Int32)), .val (.ref A_MEMBER_TOPICS), .val (.long (1000 : Int64)), .second, .val (.int (1 : Int32)), .val (.long ((1000 : Int64) + (((p2 &&& (3 : Int32)) - (2 : Int32)).toInt64))), .second, .unset] [(.int (lcmpW ((1000 : Int64) + (((p2 &&& (3 : Int32)) - (2 : Int32)).toInt64)) (1000 : Int64))), (.int (1 : Int32))]))
        refine gv (fun tQ kQ => XS.ifNo X57.here hx rfl (hb hby at_223) rfl ((if0 _ _).trans (flt (mt (lw_gt _ _).mp hb59)).2.2.1) kQ) ?_
        show G (T57.setTop (mkF me_ 226 #[.val (.int p0), .val (.long p1), .second, .val (.int p2), .val (.int (5 : Int32)), .val (.ref A_MEMBER_TOPICS), .val (.long (1000 : Int64)), .second, .val (.int (1 : Int32)), .val (.long ((1000 : Int64) + (((p2 &&& (3 : Int32)) - (2 : Int32)).toInt64))), .second, .unset] [(.int (1 : Int32))]))
        refine gv (fun tQ kQ => XS.iconst X57.here hx rfl (hb hby at_226) kQ) ?_
        show G (T57.setTop (mkF me_ 227 #[.val (.int p0), .val (.long p1), .second, .val (.int p2), .val (.int (5 : Int32)), .val (.ref A_MEMBER_TOPICS), .val (.long (1000 : Int64)), .second, .val (.int (1 : Int32)), .val (.long ((1000 : Int64) + (((p2 &&& (3 : Int32)) - (2 : Int32)).toInt64))), .second, .unset] [(.int (1 : Int32)), (.int (1 : Int32))]))
        refine gv (fun tQ kQ => XS.goto X57.here hx rfl (pc0 := 227) (pc' := 231) rfl (hb hby at_227) (by decide) (by decide) kQ) ?_
        show G (T57.setTop (mkF me_ 231 #[.val (.int p0), .val (.long p1), .second, .val (.int p2), .val (.int (5 : Int32)), .val (.ref A_MEMBER_TOPICS), .val (.long (1000 : Int64)), .second, .val (.int (1 : Int32)), .val (.long ((1000 : Int64) + (((p2 &&& (3 : Int32)) - (2 : Int32)).toInt64))), .second, .unset] [(.int (1 : Int32)), (.int (1 : Int32))]))
        refine gv (fun tQ kQ => XS.icmpNo X57.here hx rfl (hb hby at_231) rfl (teq (by decide : (1 : Int32) = (1 : Int32))).2 kQ) ?_
        show G (T57.setTop (mkF me_ 234 #[.val (.int p0), .val (.long p1), .second, .val (.int p2), .val (.int (5 : Int32)), .val (.ref A_MEMBER_TOPICS), .val (.long (1000 : Int64)), .second, .val (.int (1 : Int32)), .val (.long ((1000 : Int64) + (((p2 &&& (3 : Int32)) - (2 : Int32)).toInt64))), .second, .unset] []))
        refine gv (fun tQ kQ => XS.iconst X57.here hx rfl (hb hby at_234) kQ) ?_
        show G (T57.setTop (mkF me_ 235 #[.val (.int p0), .val (.long p1), .second, .val (.int p2), .val (.int (5 : Int32)), .val (.ref A_MEMBER_TOPICS), .val (.long (1000 : Int64)), .second, .val (.int (1 : Int32)), .val (.long ((1000 : Int64) + (((p2 &&& (3 : Int32)) - (2 : Int32)).toInt64))), .second, .unset] [(.int (1 : Int32))]))
        refine gv (fun tQ kQ => XS.goto X57.here hx rfl (pc0 := 235) (pc' := 239) rfl (hb hby at_235) (by decide) (by decide) kQ) ?_
        show G (T57.setTop (mkF me_ 239 #[.val (.int p0), .val (.long p1), .second, .val (.int p2), .val (.int (5 : Int32)), .val (.ref A_MEMBER_TOPICS), .val (.long (1000 : Int64)), .second, .val (.int (1 : Int32)), .val (.long ((1000 : Int64) + (((p2 &&& (3 : Int32)) - (2 : Int32)).toInt64))), .second, .unset] [(.int (1 : Int32))]))
        refine gv (fun tQ kQ => XS.istore X57.here hx rfl (hb hby at_239) rfl (l' := #[.val (.int p0), .val (.long p1), .second, .val (.int p2), .val (.int (5 : Int32)), .val (.ref A_MEMBER_TOPICS), .val (.long (1000 : Int64)), .second, .val (.int (1 : Int32)), .val (.long ((1000 : Int64) + (((p2 &&& (3 : Int32)) - (2 : Int32)).toInt64))), .second, .val (.int (1 : Int32))]) rfl kQ) ?_
        show G (T57.setTop (mkF me_ 241 #[.val (.int p0), .val (.long p1), .second, .val (.int p2), .val (.int (5 : Int32)), .val (.ref A_MEMBER_TOPICS), .val (.long (1000 : Int64)), .second, .val (.int (1 : Int32)), .val (.long ((1000 : Int64) + (((p2 &&& (3 : Int32)) - (2 : Int32)).toInt64))), .second, .val (.int (1 : Int32))] []))
        refine gv (fun tQ kQ => XS.iload X57.here hx rfl (hb hby at_241) rfl kQ) ?_
        show G (T57.setTop (mkF me_ 243 #[.val (.int p0), .val (.long p1), .second, .val (.int p2), .val (.int (5 : Int32)), .val (.ref A_MEMBER_TOPICS), .val (.long (1000 : Int64)), .second, .val (.int (1 : Int32)), .val (.long ((1000 : Int64) + (((p2 &&& (3 : Int32)) - (2 : Int32)).toInt64))), .second, .val (.int (1 : Int32))] [(.int (1 : Int32))]))
        refine gv (fun tQ kQ => XS.ifNo X57.here hx rfl (hb hby at_243) rfl ((if0 _ _).trans (feq (by decide : ¬ ((1 : Int32) = (0 : Int32)))).1) kQ) ?_
        show G (T57.setTop (mkF me_ 246 #[.val (.int p0), .val (.long p1), .second, .val (.int p2), .val (.int (5 : Int32)), .val (.ref A_MEMBER_TOPICS), .val (.long (1000 : Int64)), .second, .val (.int (1 : Int32)), .val (.long ((1000 : Int64) + (((p2 &&& (3 : Int32)) - (2 : Int32)).toInt64))), .second, .val (.int (1 : Int32))] []))
        refine gv (fun tQ kQ => XS.iload X57.here hx rfl (hb hby at_246) rfl kQ) ?_
        show G (T57.setTop (mkF me_ 248 #[.val (.int p0), .val (.long p1), .second, .val (.int p2), .val (.int (5 : Int32)), .val (.ref A_MEMBER_TOPICS), .val (.long (1000 : Int64)), .second, .val (.int (1 : Int32)), .val (.long ((1000 : Int64) + (((p2 &&& (3 : Int32)) - (2 : Int32)).toInt64))), .second, .val (.int (1 : Int32))] [(.int (1 : Int32))]))
        refine gv (fun tQ kQ => XS.ifNo X57.here hx rfl (hb hby at_248) rfl ((if0 _ _).trans (feq (by decide : ¬ ((1 : Int32) = (0 : Int32)))).1) kQ) ?_
        show G (T57.setTop (mkF me_ 251 #[.val (.int p0), .val (.long p1), .second, .val (.int p2), .val (.int (5 : Int32)), .val (.ref A_MEMBER_TOPICS), .val (.long (1000 : Int64)), .second, .val (.int (1 : Int32)), .val (.long ((1000 : Int64) + (((p2 &&& (3 : Int32)) - (2 : Int32)).toInt64))), .second, .val (.int (1 : Int32))] []))
        refine gv (fun tQ kQ => XS.iconst X57.here hx rfl (hb hby at_251) kQ) ?_
        show G (T57.setTop (mkF me_ 252 #[.val (.int p0), .val (.long p1), .second, .val (.int p2), .val (.int (5 : Int32)), .val (.ref A_MEMBER_TOPICS), .val (.long (1000 : Int64)), .second, .val (.int (1 : Int32)), .val (.long ((1000 : Int64) + (((p2 &&& (3 : Int32)) - (2 : Int32)).toInt64))), .second, .val (.int (1 : Int32))] [(.int (1 : Int32))]))
        refine gv (fun tQ kQ => XS.goto X57.here hx rfl (pc0 := 252) (pc' := 256) rfl (hb hby at_252) (by decide) (by decide) kQ) ?_
        show G (T57.setTop (mkF me_ 256 #[.val (.int p0), .val (.long p1), .second, .val (.int p2), .val (.int (5 : Int32)), .val (.ref A_MEMBER_TOPICS), .val (.long (1000 : Int64)), .second, .val (.int (1 : Int32)), .val (.long ((1000 : Int64) + (((p2 &&& (3 : Int32)) - (2 : Int32)).toInt64))), .second, .val (.int (1 : Int32))] [(.int (1 : Int32))]))
        refine gf _ (own_ret X57 Bd.notSynchronized (v := some (.int (1 : Int32))) (fun h => by rw [Bd.returns] at h; cases h) ?_ (by decide) (by decide) (fun fs hr => retN X57 hx (t := .boolean) Bd.returns (by simp) (hb hby at_256) hr))
        show Q0 Z p0 p1 p2 A_TOPICS A_ROUTE_QUEUES A_GROUPS A_MEMBERS A_GROUP_MEMBERS A_MEMBER_TOPICS A_QUEUES A_OFFSETS A_OPTIONS_BYTES h0 n0 _ T57.heap _
        rw [eq57]
        exact ⟨rfl, N58⟩
    · skip
      rw [if_neg hb56] at st54
      refine gv (fun tQ kQ => st54.trans kQ) ?_
      show G (T54.setTop (mkF me_ 178 #[.val (.int p0), .val (.long p1), .second, .val (.int p2), .val (.int (5 : Int32)), .val (.ref A_MEMBER_TOPICS), .val (.long (1000 : Int64)), .second, .unset, .unset, .unset, .unset] [(.int (1 : Int32))]))
      refine gv (fun tQ kQ => XS.lloadN X54.here hx rfl (hb hby at_178) rfl kQ) ?_
      show G (T54.setTop (mkF me_ 179 #[.val (.int p0), .val (.long p1), .second, .val (.int p2), .val (.int (5 : Int32)), .val (.ref A_MEMBER_TOPICS), .val (.long (1000 : Int64)), .second, .unset, .unset, .unset, .unset] [(.long p1), (.int (1 : Int32))]))
      refine gv (fun tQ kQ => XS.lload X54.here hx rfl (hb hby at_179) rfl kQ) ?_
      show G (T54.setTop (mkF me_ 181 #[.val (.int p0), .val (.long p1), .second, .val (.int p2), .val (.int (5 : Int32)), .val (.ref A_MEMBER_TOPICS), .val (.long (1000 : Int64)), .second, .unset, .unset, .unset, .unset] [(.long (1000 : Int64)), (.long p1), (.int (1 : Int32))]))
      refine gv (fun tQ kQ => XS.lcmp X54.here hx rfl (hb hby at_181) rfl kQ) ?_
      show G (T54.setTop (mkF me_ 182 #[.val (.int p0), .val (.long p1), .second, .val (.int p2), .val (.int (5 : Int32)), .val (.ref A_MEMBER_TOPICS), .val (.long (1000 : Int64)), .second, .unset, .unset, .unset, .unset] [(.int (lcmpW p1 (1000 : Int64))), (.int (1 : Int32))]))
      refine gv (fun tQ kQ => XS.ifNo X54.here hx rfl (hb hby at_182) rfl ((if0 _ _).trans (flt (mt (lw_gt _ _).mp hb56)).2.2.1) kQ) ?_
      show G (T54.setTop (mkF me_ 185 #[.val (.int p0), .val (.long p1), .second, .val (.int p2), .val (.int (5 : Int32)), .val (.ref A_MEMBER_TOPICS), .val (.long (1000 : Int64)), .second, .unset, .unset, .unset, .unset] [(.int (1 : Int32))]))
      refine gv (fun tQ kQ => XS.iconst X54.here hx rfl (hb hby at_185) kQ) ?_
      show G (T54.setTop (mkF me_ 186 #[.val (.int p0), .val (.long p1), .second, .val (.int p2), .val (.int (5 : Int32)), .val (.ref A_MEMBER_TOPICS), .val (.long (1000 : Int64)), .second, .unset, .unset, .unset, .unset] [(.int (1 : Int32)), (.int (1 : Int32))]))
      refine gv (fun tQ kQ => XS.goto X54.here hx rfl (pc0 := 186) (pc' := 190) rfl (hb hby at_186) (by decide) (by decide) kQ) ?_
      show G (T54.setTop (mkF me_ 190 #[.val (.int p0), .val (.long p1), .second, .val (.int p2), .val (.int (5 : Int32)), .val (.ref A_MEMBER_TOPICS), .val (.long (1000 : Int64)), .second, .unset, .unset, .unset, .unset] [(.int (1 : Int32)), (.int (1 : Int32))]))
      refine gv (fun tQ kQ => XS.icmpNo X54.here hx rfl (hb hby at_190) rfl (teq (by decide : (1 : Int32) = (1 : Int32))).2 kQ) ?_
      show G (T54.setTop (mkF me_ 193 #[.val (.int p0), .val (.long p1), .second, .val (.int p2), .val (.int (5 : Int32)), .val (.ref A_MEMBER_TOPICS), .val (.long (1000 : Int64)), .second, .unset, .unset, .unset, .unset] []))
      refine gv (fun tQ kQ => XS.iconst X54.here hx rfl (hb hby at_193) kQ) ?_
      show G (T54.setTop (mkF me_ 194 #[.val (.int p0), .val (.long p1), .second, .val (.int p2), .val (.int (5 : Int32)), .val (.ref A_MEMBER_TOPICS), .val (.long (1000 : Int64)), .second, .unset, .unset, .unset, .unset] [(.int (1 : Int32))]))
      refine gv (fun tQ kQ => XS.goto X54.here hx rfl (pc0 := 194) (pc' := 198) rfl (hb hby at_194) (by decide) (by decide) kQ) ?_
      show G (T54.setTop (mkF me_ 198 #[.val (.int p0), .val (.long p1), .second, .val (.int p2), .val (.int (5 : Int32)), .val (.ref A_MEMBER_TOPICS), .val (.long (1000 : Int64)), .second, .unset, .unset, .unset, .unset] [(.int (1 : Int32))]))
      refine gv (fun tQ kQ => XS.istore X54.here hx rfl (hb hby at_198) rfl (l' := #[.val (.int p0), .val (.long p1), .second, .val (.int p2), .val (.int (5 : Int32)), .val (.ref A_MEMBER_TOPICS), .val (.long (1000 : Int64)), .second, .val (.int (1 : Int32)), .unset, .unset, .unset]) rfl kQ) ?_
      show G (T54.setTop (mkF me_ 200 #[.val (.int p0), .val (.long p1), .second, .val (.int p2), .val (.int (5 : Int32)), .val (.ref A_MEMBER_TOPICS), .val (.long (1000 : Int64)), .second, .val (.int (1 : Int32)), .unset, .unset, .unset] []))
      refine gv (fun tQ kQ => XS.lload X54.here hx rfl (hb hby at_200) rfl kQ) ?_
      show G (T54.setTop (mkF me_ 202 #[.val (.int p0), .val (.long p1), .second, .val (.int p2), .val (.int (5 : Int32)), .val (.ref A_MEMBER_TOPICS), .val (.long (1000 : Int64)), .second, .val (.int (1 : Int32)), .unset, .unset, .unset] [(.long (1000 : Int64))]))
      refine gv (fun tQ kQ => XS.iloadN X54.here hx rfl (hb hby at_202) rfl kQ) ?_
      show G (T54.setTop (mkF me_ 203 #[.val (.int p0), .val (.long p1), .second, .val (.int p2), .val (.int (5 : Int32)), .val (.ref A_MEMBER_TOPICS), .val (.long (1000 : Int64)), .second, .val (.int (1 : Int32)), .unset, .unset, .unset] [(.int p2), (.long (1000 : Int64))]))
      refine gv (fun tQ kQ => XS.iconst X54.here hx rfl (hb hby at_203) kQ) ?_
      show G (T54.setTop (mkF me_ 204 #[.val (.int p0), .val (.long p1), .second, .val (.int p2), .val (.int (5 : Int32)), .val (.ref A_MEMBER_TOPICS), .val (.long (1000 : Int64)), .second, .val (.int (1 : Int32)), .unset, .unset, .unset] [(.int (3 : Int32)), (.int p2), (.long (1000 : Int64))]))
      refine gv (fun tQ kQ => XS.iand X54.here hx rfl (hb hby at_204) rfl kQ) ?_
      show G (T54.setTop (mkF me_ 205 #[.val (.int p0), .val (.long p1), .second, .val (.int p2), .val (.int (5 : Int32)), .val (.ref A_MEMBER_TOPICS), .val (.long (1000 : Int64)), .second, .val (.int (1 : Int32)), .unset, .unset, .unset] [(.int (p2 &&& (3 : Int32))), (.long (1000 : Int64))]))
      refine gv (fun tQ kQ => XS.iconst X54.here hx rfl (hb hby at_205) kQ) ?_
      show G (T54.setTop (mkF me_ 206 #[.val (.int p0), .val (.long p1), .second, .val (.int p2), .val (.int (5 : Int32)), .val (.ref A_MEMBER_TOPICS), .val (.long (1000 : Int64)), .second, .val (.int (1 : Int32)), .unset, .unset, .unset] [(.int (2 : Int32)), (.int (p2 &&& (3 : Int32))), (.long (1000 : Int64))]))
      refine gv (fun tQ kQ => XS.isub X54.here hx rfl (hb hby at_206) rfl kQ) ?_
      show G (T54.setTop (mkF me_ 207 #[.val (.int p0), .val (.long p1), .second, .val (.int p2), .val (.int (5 : Int32)), .val (.ref A_MEMBER_TOPICS), .val (.long (1000 : Int64)), .second, .val (.int (1 : Int32)), .unset, .unset, .unset] [(.int ((p2 &&& (3 : Int32)) - (2 : Int32))), (.long (1000 : Int64))]))
      refine gv (fun tQ kQ => XS.i2l X54.here hx rfl (hb hby at_207) rfl kQ) ?_
      show G (T54.setTop (mkF me_ 208 #[.val (.int p0), .val (.long p1), .second, .val (.int p2), .val (.int (5 : Int32)), .val (.ref A_MEMBER_TOPICS), .val (.long (1000 : Int64)), .second, .val (.int (1 : Int32)), .unset, .unset, .unset] [(.long (((p2 &&& (3 : Int32)) - (2 : Int32)).toInt64)), (.long (1000 : Int64))]))
      refine gv (fun tQ kQ => XS.ladd X54.here hx rfl (hb hby at_208) rfl kQ) ?_
      show G (T54.setTop (mkF me_ 209 #[.val (.int p0), .val (.long p1), .second, .val (.int p2), .val (.int (5 : Int32)), .val (.ref A_MEMBER_TOPICS), .val (.long (1000 : Int64)), .second, .val (.int (1 : Int32)), .unset, .unset, .unset] [(.long ((1000 : Int64) + (((p2 &&& (3 : Int32)) - (2 : Int32)).toInt64)))]))
      refine gv (fun tQ kQ => XS.lstore X54.here hx rfl (hb hby at_209) rfl (l' := #[.val (.int p0), .val (.long p1), .second, .val (.int p2), .val (.int (5 : Int32)), .val (.ref A_MEMBER_TOPICS), .val (.long (1000 : Int64)), .second, .val (.int (1 : Int32)), .val (.long ((1000 : Int64) + (((p2 &&& (3 : Int32)) - (2 : Int32)).toInt64))), .second, .unset]) rfl kQ) ?_
      show G (T54.setTop (mkF me_ 211 #[.val (.int p0), .val (.long p1), .second, .val (.int p2), .val (.int (5 : Int32)), .val (.ref A_MEMBER_TOPICS), .val (.long (1000 : Int64)), .second, .val (.int (1 : Int32)), .val (.long ((1000 : Int64) + (((p2 &&& (3 : Int32)) - (2 : Int32)).toInt64))), .second, .unset] []))
      refine gv (fun tQ kQ => XS.aload X54.here hx rfl (hb hby at_211) rfl rfl kQ) ?_
      show G (T54.setTop (mkF me_ 213 #[.val (.int p0), .val (.long p1), .second, .val (.int p2), .val (.int (5 : Int32)), .val (.ref A_MEMBER_TOPICS), .val (.long (1000 : Int64)), .second, .val (.int (1 : Int32)), .val (.long ((1000 : Int64) + (((p2 &&& (3 : Int32)) - (2 : Int32)).toInt64))), .second, .unset] [(.ref A_MEMBER_TOPICS)]))
      refine gv (fun tQ kQ => XS.lload X54.here hx rfl (hb hby at_213) rfl kQ) ?_
      show G (T54.setTop (mkF me_ 215 #[.val (.int p0), .val (.long p1), .second, .val (.int p2), .val (.int (5 : Int32)), .val (.ref A_MEMBER_TOPICS), .val (.long (1000 : Int64)), .second, .val (.int (1 : Int32)), .val (.long ((1000 : Int64) + (((p2 &&& (3 : Int32)) - (2 : Int32)).toInt64))), .second, .unset] [(.long ((1000 : Int64) + (((p2 &&& (3 : Int32)) - (2 : Int32)).toInt64))), (.ref A_MEMBER_TOPICS)]))
      obtain ⟨cq60, kq60, q60a, q60b, q60c⟩ := isOf hZ eq54 (u14.ext O0.2)
      obtain ⟨_, _, ⟨T60, L60, k60, n60⟩, -, X60, ⟨Lc60, hQ60, l60, y60, z60⟩, st60⟩ := X54.virtualBack hx (y := (⟨"com/example/slot1/slot1/server/Limit", "allows", "(J)Z"⟩ : MethodName)) (z := (⟨"com/example/slot1/slot1/server/Limit", "allows", "(J)Z"⟩ : MethodName)) hown (mvT hZ (hw _ (List.mem_of_getElem? (i := 5) rfl))) (mvT hZ (hw _ (List.mem_of_getElem? (i := 6) rfl))) (notFace_of_selects (args := #[]) (mvT hZ (hw _ (List.mem_of_getElem? (i := 8) rfl)))) (mvT hZ (hw _ (List.mem_of_getElem? (i := 8) rfl))) (mvT hZ (hw _ (List.mem_of_getElem? (i := 7) rfl))) (by decide) (backOf (W := 0) (rm_allows l Z a0 hw [] A_MEMBER_TOPICS ((1000 : Int64) + (((p2 &&& (3 : Int32)) - (2 : Int32)).toInt64)) (1000 : Int64) h0 n0 O0 (u23.ext O0.2)) hZ (hw _ (List.mem_of_getElem? (i := 9) rfl)) (hw _ (List.mem_of_getElem? (i := 2) rfl)) (by decide) (by decide)) q60a q60c (g := (mkF me_ 215 #[.val (.int p0), .val (.long p1), .second, .val (.int p2), .val (.int (5 : Int32)), .val (.ref A_MEMBER_TOPICS), .val (.long (1000 : Int64)), .second, .val (.int (1 : Int32)), .val (.long ((1000 : Int64) + (((p2 &&& (3 : Int32)) - (2 : Int32)).toInt64))), .second, .unset] [(.long ((1000 : Int64) + (((p2 &&& (3 : Int32)) - (2 : Int32)).toInt64))), (.ref A_MEMBER_TOPICS)])) rfl (by rw [hml]; rfl) (Steps.refl _) (argsL := [(.long ((1000 : Int64) + (((p2 &&& (3 : Int32)) - (2 : Int32)).toInt64)))]) (rest := []) (lenOf pd_0 rfl) rfl (by show 2 * 0 + _ ≤ _; exact Nat.le_of_eq rfl) (hb hby at_215) (fun _ _ => ⟨rfl, eq54, (by decide : 0 + 0 ≤ _), (by decide : 0 + 0 ≤ _)⟩)
      dsimp only [Pt.U, Pt.locs, Pt.cells, Pt.slots] at X60 l60 y60 z60 st60 hQ60
      subst l60 y60 z60
      obtain ⟨rfl, Nq60, eq60⟩ := hQ60
      have N61 := Fr.app N55 Nq60
      by_cases hb62 : (1000 : Int64) < ((1000 : Int64) + (((p2 &&& (3 : Int32)) - (2 : Int32)).toInt64))
      · rw [if_pos hb62] at st60
        refine gv (fun tQ kQ => st60.trans kQ) ?_
        show G (T60.setTop (mkF me_ 218 #[.val (.int p0), .val (.long p1), .second, .val (.int p2), .val (.int (5 : Int32)), .val (.ref A_MEMBER_TOPICS), .val (.long (1000 : Int64)), .second, .val (.int (1 : Int32)), .val (.long ((1000 : Int64) + (((p2 &&& (3 : Int32)) - (2 : Int32)).toInt64))), .second, .unset] [(.int (0 : Int32))]))
        refine gv (fun tQ kQ => XS.lload X60.here hx rfl (hb hby at_218) rfl kQ) ?_
        show G (T60.setTop (mkF me_ 220 #[.val (.int p0), .val (.long p1), .second, .val (.int p2), .val (.int (5 : Int32)), .val (.ref A_MEMBER_TOPICS), .val (.long (1000 : Int64)), .second, .val (.int (1 : Int32)), .val (.long ((1000 : Int64) + (((p2 &&& (3 : Int32)) - (2 : Int32)).toInt64))), .second, .unset] [(.long ((1000 : Int64) + (((p2 &&& (3 : Int32)) - (2 : Int32)).toInt64))), (.int (0 : Int32))]))
        refine gv (fun tQ kQ => XS.lload X60.here hx rfl (hb hby at_220) rfl kQ) ?_
        show G (T60.setTop (mkF me_ 222 #[.val (.int p0), .val (.long p1), .second, .val (.int p2), .val (.int (5 : Int32)), .val (.ref A_MEMBER_TOPICS), .val (.long (1000 : Int64)), .second, .val (.int (1 : Int32)), .val (.long ((1000 : Int64) + (((p2 &&& (3 : Int32)) - (2 : Int32)).toInt64))), .second, .unset] [(.long (1000 : Int64)), (.long ((1000 : Int64) + (((p2 &&& (3 : Int32)) - (2 : Int32)).toInt64))), (.int (0 : Int32))]))
        refine gv (fun tQ kQ => XS.lcmp X60.here hx rfl (hb hby at_222) rfl kQ) ?_
        show G (T60.setTop (mkF me_ 223 #[.val (.int p0), .val (.long p1), .second, .val (.int p2), .val (.int (5 : Int32)), .val (.ref A_MEMBER_TOPICS), .val (.long (1000 : Int64)), .second, .val (.int (1 : Int32)), .val (.long ((1000 : Int64) + (((p2 &&& (3 : Int32)) - (2 : Int32)).toInt64))), .second, .unset] [(.int (lcmpW ((1000 : Int64) + (((p2 &&& (3 : Int32)) - (2 : Int32)).toInt64)) (1000 : Int64))), (.int (0 : Int32))]))
        refine gv (fun tQ kQ => XS.ifYes X60.here hx rfl (pc0 := 223) (pc' := 230) rfl (hb hby at_223) rfl ((if0 _ _).trans (tlt ((lw_gt _ _).mpr hb62)).2.2.1) (by decide) (by decide) kQ) ?_
        show G (T60.setTop (mkF me_ 230 #[.val (.int p0), .val (.long p1), .second, .val (.int p2), .val (.int (5 : Int32)), .val (.ref A_MEMBER_TOPICS), .val (.long (1000 : Int64)), .second, .val (.int (1 : Int32)), .val (.long ((1000 : Int64) + (((p2 &&& (3 : Int32)) - (2 : Int32)).toInt64))), .second, .unset] [(.int (0 : Int32))]))
        refine gv (fun tQ kQ => XS.iconst X60.here hx rfl (hb hby at_230) kQ) ?_
        show G (T60.setTop (mkF me_ 231 #[.val (.int p0), .val (.long p1), .second, .val (.int p2), .val (.int (5 : Int32)), .val (.ref A_MEMBER_TOPICS), .val (.long (1000 : Int64)), .second, .val (.int (1 : Int32)), .val (.long ((1000 : Int64) + (((p2 &&& (3 : Int32)) - (2 : Int32)).toInt64))), .second, .unset] [(.int (0 : Int32)), (.int (0 : Int32))]))
        refine gv (fun tQ kQ => XS.icmpNo X60.here hx rfl (hb hby at_231) rfl (teq (by decide : (0 : Int32) = (0 : Int32))).2 kQ) ?_
        show G (T60.setTop (mkF me_ 234 #[.val (.int p0), .val (.long p1), .second, .val (.int p2), .val (.int (5 : Int32)), .val (.ref A_MEMBER_TOPICS), .val (.long (1000 : Int64)), .second, .val (.int (1 : Int32)), .val (.long ((1000 : Int64) + (((p2 &&& (3 : Int32)) - (2 : Int32)).toInt64))), .second, .unset] []))
        refine gv (fun tQ kQ => XS.iconst X60.here hx rfl (hb hby at_234) kQ) ?_
        show G (T60.setTop (mkF me_ 235 #[.val (.int p0), .val (.long p1), .second, .val (.int p2), .val (.int (5 : Int32)), .val (.ref A_MEMBER_TOPICS), .val (.long (1000 : Int64)), .second, .val (.int (1 : Int32)), .val (.long ((1000 : Int64) + (((p2 &&& (3 : Int32)) - (2 : Int32)).toInt64))), .second, .unset] [(.int (1 : Int32))]))
        refine gv (fun tQ kQ => XS.goto X60.here hx rfl (pc0 := 235) (pc' := 239) rfl (hb hby at_235) (by decide) (by decide) kQ) ?_
        show G (T60.setTop (mkF me_ 239 #[.val (.int p0), .val (.long p1), .second, .val (.int p2), .val (.int (5 : Int32)), .val (.ref A_MEMBER_TOPICS), .val (.long (1000 : Int64)), .second, .val (.int (1 : Int32)), .val (.long ((1000 : Int64) + (((p2 &&& (3 : Int32)) - (2 : Int32)).toInt64))), .second, .unset] [(.int (1 : Int32))]))
        refine gv (fun tQ kQ => XS.istore X60.here hx rfl (hb hby at_239) rfl (l' := #[.val (.int p0), .val (.long p1), .second, .val (.int p2), .val (.int (5 : Int32)), .val (.ref A_MEMBER_TOPICS), .val (.long (1000 : Int64)), .second, .val (.int (1 : Int32)), .val (.long ((1000 : Int64) + (((p2 &&& (3 : Int32)) - (2 : Int32)).toInt64))), .second, .val (.int (1 : Int32))]) rfl kQ) ?_
        show G (T60.setTop (mkF me_ 241 #[.val (.int p0), .val (.long p1), .second, .val (.int p2), .val (.int (5 : Int32)), .val (.ref A_MEMBER_TOPICS), .val (.long (1000 : Int64)), .second, .val (.int (1 : Int32)), .val (.long ((1000 : Int64) + (((p2 &&& (3 : Int32)) - (2 : Int32)).toInt64))), .second, .val (.int (1 : Int32))] []))
        refine gv (fun tQ kQ => XS.iload X60.here hx rfl (hb hby at_241) rfl kQ) ?_
        show G (T60.setTop (mkF me_ 243 #[.val (.int p0), .val (.long p1), .second, .val (.int p2), .val (.int (5 : Int32)), .val (.ref A_MEMBER_TOPICS), .val (.long (1000 : Int64)), .second, .val (.int (1 : Int32)), .val (.long ((1000 : Int64) + (((p2 &&& (3 : Int32)) - (2 : Int32)).toInt64))), .second, .val (.int (1 : Int32))] [(.int (1 : Int32))]))
        refine gv (fun tQ kQ => XS.ifNo X60.here hx rfl (hb hby at_243) rfl ((if0 _ _).trans (feq (by decide : ¬ ((1 : Int32) = (0 : Int32)))).1) kQ) ?_
        show G (T60.setTop (mkF me_ 246 #[.val (.int p0), .val (.long p1), .second, .val (.int p2), .val (.int (5 : Int32)), .val (.ref A_MEMBER_TOPICS), .val (.long (1000 : Int64)), .second, .val (.int (1 : Int32)), .val (.long ((1000 : Int64) + (((p2 &&& (3 : Int32)) - (2 : Int32)).toInt64))), .second, .val (.int (1 : Int32))] []))
        refine gv (fun tQ kQ => XS.iload X60.here hx rfl (hb hby at_246) rfl kQ) ?_
        show G (T60.setTop (mkF me_ 248 #[.val (.int p0), .val (.long p1), .second, .val (.int p2), .val (.int (5 : Int32)), .val (.ref A_MEMBER_TOPICS), .val (.long (1000 : Int64)), .second, .val (.int (1 : Int32)), .val (.long ((1000 : Int64) + (((p2 &&& (3 : Int32)) - (2 : Int32)).toInt64))), .second, .val (.int (1 : Int32))] [(.int (1 : Int32))]))
        refine gv (fun tQ kQ => XS.ifNo X60.here hx rfl (hb hby at_248) rfl ((if0 _ _).trans (feq (by decide : ¬ ((1 : Int32) = (0 : Int32)))).1) kQ) ?_
        show G (T60.setTop (mkF me_ 251 #[.val (.int p0), .val (.long p1), .second, .val (.int p2), .val (.int (5 : Int32)), .val (.ref A_MEMBER_TOPICS), .val (.long (1000 : Int64)), .second, .val (.int (1 : Int32)), .val (.long ((1000 : Int64) + (((p2 &&& (3 : Int32)) - (2 : Int32)).toInt64))), .second, .val (.int (1 : Int32))] []))
        refine gv (fun tQ kQ => XS.iconst X60.here hx rfl (hb hby at_251) kQ) ?_
        show G (T60.setTop (mkF me_ 252 #[.val (.int p0), .val (.long p1), .second, .val (.int p2), .val (.int (5 : Int32)), .val (.ref A_MEMBER_TOPICS), .val (.long (1000 : Int64)), .second, .val (.int (1 : Int32)), .val (.long ((1000 : Int64) + (((p2 &&& (3 : Int32)) - (2 : Int32)).toInt64))), .second, .val (.int (1 : Int32))] [(.int (1 : Int32))]))
        refine gv (fun tQ kQ => XS.goto X60.here hx rfl (pc0 := 252) (pc' := 256) rfl (hb hby at_252) (by decide) (by decide) kQ) ?_
        show G (T60.setTop (mkF me_ 256 #[.val (.int p0), .val (.long p1), .second, .val (.int p2), .val (.int (5 : Int32)), .val (.ref A_MEMBER_TOPICS), .val (.long (1000 : Int64)), .second, .val (.int (1 : Int32)), .val (.long ((1000 : Int64) + (((p2 &&& (3 : Int32)) - (2 : Int32)).toInt64))), .second, .val (.int (1 : Int32))] [(.int (1 : Int32))]))
        refine gf _ (own_ret X60 Bd.notSynchronized (v := some (.int (1 : Int32))) (fun h => by rw [Bd.returns] at h; cases h) ?_ (by decide) (by decide) (fun fs hr => retN X60 hx (t := .boolean) Bd.returns (by simp) (hb hby at_256) hr))
        show Q0 Z p0 p1 p2 A_TOPICS A_ROUTE_QUEUES A_GROUPS A_MEMBERS A_GROUP_MEMBERS A_MEMBER_TOPICS A_QUEUES A_OFFSETS A_OPTIONS_BYTES h0 n0 _ T60.heap _
        rw [eq60]
        exact ⟨rfl, N61⟩
      · skip
        rw [if_neg hb62] at st60
        refine gv (fun tQ kQ => st60.trans kQ) ?_
        show G (T60.setTop (mkF me_ 218 #[.val (.int p0), .val (.long p1), .second, .val (.int p2), .val (.int (5 : Int32)), .val (.ref A_MEMBER_TOPICS), .val (.long (1000 : Int64)), .second, .val (.int (1 : Int32)), .val (.long ((1000 : Int64) + (((p2 &&& (3 : Int32)) - (2 : Int32)).toInt64))), .second, .unset] [(.int (1 : Int32))]))
        refine gv (fun tQ kQ => XS.lload X60.here hx rfl (hb hby at_218) rfl kQ) ?_
        show G (T60.setTop (mkF me_ 220 #[.val (.int p0), .val (.long p1), .second, .val (.int p2), .val (.int (5 : Int32)), .val (.ref A_MEMBER_TOPICS), .val (.long (1000 : Int64)), .second, .val (.int (1 : Int32)), .val (.long ((1000 : Int64) + (((p2 &&& (3 : Int32)) - (2 : Int32)).toInt64))), .second, .unset] [(.long ((1000 : Int64) + (((p2 &&& (3 : Int32)) - (2 : Int32)).toInt64))), (.int (1 : Int32))]))
        refine gv (fun tQ kQ => XS.lload X60.here hx rfl (hb hby at_220) rfl kQ) ?_
        show G (T60.setTop (mkF me_ 222 #[.val (.int p0), .val (.long p1), .second, .val (.int p2), .val (.int (5 : Int32)), .val (.ref A_MEMBER_TOPICS), .val (.long (1000 : Int64)), .second, .val (.int (1 : Int32)), .val (.long ((1000 : Int64) + (((p2 &&& (3 : Int32)) - (2 : Int32)).toInt64))), .second, .unset] [(.long (1000 : Int64)), (.long ((1000 : Int64) + (((p2 &&& (3 : Int32)) - (2 : Int32)).toInt64))), (.int (1 : Int32))]))
        refine gv (fun tQ kQ => XS.lcmp X60.here hx rfl (hb hby at_222) rfl kQ) ?_
        show G (T60.setTop (mkF me_ 223 #[.val (.int p0), .val (.long p1), .second, .val (.int p2), .val (.int (5 : Int32)), .val (.ref A_MEMBER_TOPICS), .val (.long (1000 : Int64)), .second, .val (.int (1 : Int32)), .val (.long ((1000 : Int64) + (((p2 &&& (3 : Int32)) - (2 : Int32)).toInt64))), .second, .unset] [(.int (lcmpW ((1000 : Int64) + (((p2 &&& (3 : Int32)) - (2 : Int32)).toInt64)) (1000 : Int64))), (.int (1 : Int32))]))
        refine gv (fun tQ kQ => XS.ifNo X60.here hx rfl (hb hby at_223) rfl ((if0 _ _).trans (flt (mt (lw_gt _ _).mp hb62)).2.2.1) kQ) ?_
        show G (T60.setTop (mkF me_ 226 #[.val (.int p0), .val (.long p1), .second, .val (.int p2), .val (.int (5 : Int32)), .val (.ref A_MEMBER_TOPICS), .val (.long (1000 : Int64)), .second, .val (.int (1 : Int32)), .val (.long ((1000 : Int64) + (((p2 &&& (3 : Int32)) - (2 : Int32)).toInt64))), .second, .unset] [(.int (1 : Int32))]))
        refine gv (fun tQ kQ => XS.iconst X60.here hx rfl (hb hby at_226) kQ) ?_
        show G (T60.setTop (mkF me_ 227 #[.val (.int p0), .val (.long p1), .second, .val (.int p2), .val (.int (5 : Int32)), .val (.ref A_MEMBER_TOPICS), .val (.long (1000 : Int64)), .second, .val (.int (1 : Int32)), .val (.long ((1000 : Int64) + (((p2 &&& (3 : Int32)) - (2 : Int32)).toInt64))), .second, .unset] [(.int (1 : Int32)), (.int (1 : Int32))]))
        refine gv (fun tQ kQ => XS.goto X60.here hx rfl (pc0 := 227) (pc' := 231) rfl (hb hby at_227) (by decide) (by decide) kQ) ?_
        show G (T60.setTop (mkF me_ 231 #[.val (.int p0), .val (.long p1), .second, .val (.int p2), .val (.int (5 : Int32)), .val (.ref A_MEMBER_TOPICS), .val (.long (1000 : Int64)), .second, .val (.int (1 : Int32)), .val (.long ((1000 : Int64) + (((p2 &&& (3 : Int32)) - (2 : Int32)).toInt64))), .second, .unset] [(.int (1 : Int32)), (.int (1 : Int32))]))
        refine gv (fun tQ kQ => XS.icmpNo X60.here hx rfl (hb hby at_231) rfl (teq (by decide : (1 : Int32) = (1 : Int32))).2 kQ) ?_
        show G (T60.setTop (mkF me_ 234 #[.val (.int p0), .val (.long p1), .second, .val (.int p2), .val (.int (5 : Int32)), .val (.ref A_MEMBER_TOPICS), .val (.long (1000 : Int64)), .second, .val (.int (1 : Int32)), .val (.long ((1000 : Int64) + (((p2 &&& (3 : Int32)) - (2 : Int32)).toInt64))), .second, .unset] []))
        refine gv (fun tQ kQ => XS.iconst X60.here hx rfl (hb hby at_234) kQ) ?_
        show G (T60.setTop (mkF me_ 235 #[.val (.int p0), .val (.long p1), .second, .val (.int p2), .val (.int (5 : Int32)), .val (.ref A_MEMBER_TOPICS), .val (.long (1000 : Int64)), .second, .val (.int (1 : Int32)), .val (.long ((1000 : Int64) + (((p2 &&& (3 : Int32)) - (2 : Int32)).toInt64))), .second, .unset] [(.int (1 : Int32))]))
        refine gv (fun tQ kQ => XS.goto X60.here hx rfl (pc0 := 235) (pc' := 239) rfl (hb hby at_235) (by decide) (by decide) kQ) ?_
        show G (T60.setTop (mkF me_ 239 #[.val (.int p0), .val (.long p1), .second, .val (.int p2), .val (.int (5 : Int32)), .val (.ref A_MEMBER_TOPICS), .val (.long (1000 : Int64)), .second, .val (.int (1 : Int32)), .val (.long ((1000 : Int64) + (((p2 &&& (3 : Int32)) - (2 : Int32)).toInt64))), .second, .unset] [(.int (1 : Int32))]))
        refine gv (fun tQ kQ => XS.istore X60.here hx rfl (hb hby at_239) rfl (l' := #[.val (.int p0), .val (.long p1), .second, .val (.int p2), .val (.int (5 : Int32)), .val (.ref A_MEMBER_TOPICS), .val (.long (1000 : Int64)), .second, .val (.int (1 : Int32)), .val (.long ((1000 : Int64) + (((p2 &&& (3 : Int32)) - (2 : Int32)).toInt64))), .second, .val (.int (1 : Int32))]) rfl kQ) ?_
        show G (T60.setTop (mkF me_ 241 #[.val (.int p0), .val (.long p1), .second, .val (.int p2), .val (.int (5 : Int32)), .val (.ref A_MEMBER_TOPICS), .val (.long (1000 : Int64)), .second, .val (.int (1 : Int32)), .val (.long ((1000 : Int64) + (((p2 &&& (3 : Int32)) - (2 : Int32)).toInt64))), .second, .val (.int (1 : Int32))] []))
        refine gv (fun tQ kQ => XS.iload X60.here hx rfl (hb hby at_241) rfl kQ) ?_
        show G (T60.setTop (mkF me_ 243 #[.val (.int p0), .val (.long p1), .second, .val (.int p2), .val (.int (5 : Int32)), .val (.ref A_MEMBER_TOPICS), .val (.long (1000 : Int64)), .second, .val (.int (1 : Int32)), .val (.long ((1000 : Int64) + (((p2 &&& (3 : Int32)) - (2 : Int32)).toInt64))), .second, .val (.int (1 : Int32))] [(.int (1 : Int32))]))
        refine gv (fun tQ kQ => XS.ifNo X60.here hx rfl (hb hby at_243) rfl ((if0 _ _).trans (feq (by decide : ¬ ((1 : Int32) = (0 : Int32)))).1) kQ) ?_
        show G (T60.setTop (mkF me_ 246 #[.val (.int p0), .val (.long p1), .second, .val (.int p2), .val (.int (5 : Int32)), .val (.ref A_MEMBER_TOPICS), .val (.long (1000 : Int64)), .second, .val (.int (1 : Int32)), .val (.long ((1000 : Int64) + (((p2 &&& (3 : Int32)) - (2 : Int32)).toInt64))), .second, .val (.int (1 : Int32))] []))
        refine gv (fun tQ kQ => XS.iload X60.here hx rfl (hb hby at_246) rfl kQ) ?_
        show G (T60.setTop (mkF me_ 248 #[.val (.int p0), .val (.long p1), .second, .val (.int p2), .val (.int (5 : Int32)), .val (.ref A_MEMBER_TOPICS), .val (.long (1000 : Int64)), .second, .val (.int (1 : Int32)), .val (.long ((1000 : Int64) + (((p2 &&& (3 : Int32)) - (2 : Int32)).toInt64))), .second, .val (.int (1 : Int32))] [(.int (1 : Int32))]))
        refine gv (fun tQ kQ => XS.ifNo X60.here hx rfl (hb hby at_248) rfl ((if0 _ _).trans (feq (by decide : ¬ ((1 : Int32) = (0 : Int32)))).1) kQ) ?_
        show G (T60.setTop (mkF me_ 251 #[.val (.int p0), .val (.long p1), .second, .val (.int p2), .val (.int (5 : Int32)), .val (.ref A_MEMBER_TOPICS), .val (.long (1000 : Int64)), .second, .val (.int (1 : Int32)), .val (.long ((1000 : Int64) + (((p2 &&& (3 : Int32)) - (2 : Int32)).toInt64))), .second, .val (.int (1 : Int32))] []))
        refine gv (fun tQ kQ => XS.iconst X60.here hx rfl (hb hby at_251) kQ) ?_
        show G (T60.setTop (mkF me_ 252 #[.val (.int p0), .val (.long p1), .second, .val (.int p2), .val (.int (5 : Int32)), .val (.ref A_MEMBER_TOPICS), .val (.long (1000 : Int64)), .second, .val (.int (1 : Int32)), .val (.long ((1000 : Int64) + (((p2 &&& (3 : Int32)) - (2 : Int32)).toInt64))), .second, .val (.int (1 : Int32))] [(.int (1 : Int32))]))
        refine gv (fun tQ kQ => XS.goto X60.here hx rfl (pc0 := 252) (pc' := 256) rfl (hb hby at_252) (by decide) (by decide) kQ) ?_
        show G (T60.setTop (mkF me_ 256 #[.val (.int p0), .val (.long p1), .second, .val (.int p2), .val (.int (5 : Int32)), .val (.ref A_MEMBER_TOPICS), .val (.long (1000 : Int64)), .second, .val (.int (1 : Int32)), .val (.long ((1000 : Int64) + (((p2 &&& (3 : Int32)) - (2 : Int32)).toInt64))), .second, .val (.int (1 : Int32))] [(.int (1 : Int32))]))
        refine gf _ (own_ret X60 Bd.notSynchronized (v := some (.int (1 : Int32))) (fun h => by rw [Bd.returns] at h; cases h) ?_ (by decide) (by decide) (fun fs hr => retN X60 hx (t := .boolean) Bd.returns (by simp) (hb hby at_256) hr))
        show Q0 Z p0 p1 p2 A_TOPICS A_ROUTE_QUEUES A_GROUPS A_MEMBERS A_GROUP_MEMBERS A_MEMBER_TOPICS A_QUEUES A_OFFSETS A_OPTIONS_BYTES h0 n0 _ T60.heap _
        rw [eq60]
        exact ⟨rfl, N61⟩
  · rw [q]
    show G (s₁.setTop (mkF me_ 9 #[.val (.int p0), .val (.long p1), .second, .val (.int p2), .val (.int (6 : Int32)), .unset, .unset, .unset, .unset, .unset, .unset, .unset] []))
    refine gv (fun tQ kQ => XS.iload X0.here hx rfl (hb hby at_9) rfl kQ) ?_
    show G (s₁.setTop (mkF me_ 11 #[.val (.int p0), .val (.long p1), .second, .val (.int p2), .val (.int (6 : Int32)), .unset, .unset, .unset, .unset, .unset, .unset, .unset] [(.int (6 : Int32))]))
    refine gv (fun tQ kQ => XS.ifYes X0.here hx rfl (pc0 := 11) (pc' := 27) rfl (hb hby at_11) rfl ((if0 _ _).trans (feq (by decide : ¬ ((6 : Int32) = (0 : Int32)))).2) (by decide) (by decide) kQ) ?_
    show G (s₁.setTop (mkF me_ 27 #[.val (.int p0), .val (.long p1), .second, .val (.int p2), .val (.int (6 : Int32)), .unset, .unset, .unset, .unset, .unset, .unset, .unset] []))
    refine gv (fun tQ kQ => XS.iload X0.here hx rfl (hb hby at_27) rfl kQ) ?_
    show G (s₁.setTop (mkF me_ 29 #[.val (.int p0), .val (.long p1), .second, .val (.int p2), .val (.int (6 : Int32)), .unset, .unset, .unset, .unset, .unset, .unset, .unset] [(.int (6 : Int32))]))
    refine gv (fun tQ kQ => XS.iconst X0.here hx rfl (hb hby at_29) kQ) ?_
    show G (s₁.setTop (mkF me_ 30 #[.val (.int p0), .val (.long p1), .second, .val (.int p2), .val (.int (6 : Int32)), .unset, .unset, .unset, .unset, .unset, .unset, .unset] [(.int (1 : Int32)), (.int (6 : Int32))]))
    refine gv (fun tQ kQ => XS.icmpYes X0.here hx rfl (pc0 := 30) (pc' := 46) rfl (hb hby at_30) rfl (feq (by decide : ¬ ((6 : Int32) = (1 : Int32)))).2 (by decide) (by decide) kQ) ?_
    show G (s₁.setTop (mkF me_ 46 #[.val (.int p0), .val (.long p1), .second, .val (.int p2), .val (.int (6 : Int32)), .unset, .unset, .unset, .unset, .unset, .unset, .unset] []))
    refine gv (fun tQ kQ => XS.iload X0.here hx rfl (hb hby at_46) rfl kQ) ?_
    show G (s₁.setTop (mkF me_ 48 #[.val (.int p0), .val (.long p1), .second, .val (.int p2), .val (.int (6 : Int32)), .unset, .unset, .unset, .unset, .unset, .unset, .unset] [(.int (6 : Int32))]))
    refine gv (fun tQ kQ => XS.iconst X0.here hx rfl (hb hby at_48) kQ) ?_
    show G (s₁.setTop (mkF me_ 49 #[.val (.int p0), .val (.long p1), .second, .val (.int p2), .val (.int (6 : Int32)), .unset, .unset, .unset, .unset, .unset, .unset, .unset] [(.int (2 : Int32)), (.int (6 : Int32))]))
    refine gv (fun tQ kQ => XS.icmpYes X0.here hx rfl (pc0 := 49) (pc' := 65) rfl (hb hby at_49) rfl (feq (by decide : ¬ ((6 : Int32) = (2 : Int32)))).2 (by decide) (by decide) kQ) ?_
    show G (s₁.setTop (mkF me_ 65 #[.val (.int p0), .val (.long p1), .second, .val (.int p2), .val (.int (6 : Int32)), .unset, .unset, .unset, .unset, .unset, .unset, .unset] []))
    refine gv (fun tQ kQ => XS.iload X0.here hx rfl (hb hby at_65) rfl kQ) ?_
    show G (s₁.setTop (mkF me_ 67 #[.val (.int p0), .val (.long p1), .second, .val (.int p2), .val (.int (6 : Int32)), .unset, .unset, .unset, .unset, .unset, .unset, .unset] [(.int (6 : Int32))]))
    refine gv (fun tQ kQ => XS.iconst X0.here hx rfl (hb hby at_67) kQ) ?_
    show G (s₁.setTop (mkF me_ 68 #[.val (.int p0), .val (.long p1), .second, .val (.int p2), .val (.int (6 : Int32)), .unset, .unset, .unset, .unset, .unset, .unset, .unset] [(.int (3 : Int32)), (.int (6 : Int32))]))
    refine gv (fun tQ kQ => XS.icmpYes X0.here hx rfl (pc0 := 68) (pc' := 84) rfl (hb hby at_68) rfl (feq (by decide : ¬ ((6 : Int32) = (3 : Int32)))).2 (by decide) (by decide) kQ) ?_
    show G (s₁.setTop (mkF me_ 84 #[.val (.int p0), .val (.long p1), .second, .val (.int p2), .val (.int (6 : Int32)), .unset, .unset, .unset, .unset, .unset, .unset, .unset] []))
    refine gv (fun tQ kQ => XS.iload X0.here hx rfl (hb hby at_84) rfl kQ) ?_
    show G (s₁.setTop (mkF me_ 86 #[.val (.int p0), .val (.long p1), .second, .val (.int p2), .val (.int (6 : Int32)), .unset, .unset, .unset, .unset, .unset, .unset, .unset] [(.int (6 : Int32))]))
    refine gv (fun tQ kQ => XS.iconst X0.here hx rfl (hb hby at_86) kQ) ?_
    show G (s₁.setTop (mkF me_ 87 #[.val (.int p0), .val (.long p1), .second, .val (.int p2), .val (.int (6 : Int32)), .unset, .unset, .unset, .unset, .unset, .unset, .unset] [(.int (4 : Int32)), (.int (6 : Int32))]))
    refine gv (fun tQ kQ => XS.icmpYes X0.here hx rfl (pc0 := 87) (pc' := 103) rfl (hb hby at_87) rfl (feq (by decide : ¬ ((6 : Int32) = (4 : Int32)))).2 (by decide) (by decide) kQ) ?_
    show G (s₁.setTop (mkF me_ 103 #[.val (.int p0), .val (.long p1), .second, .val (.int p2), .val (.int (6 : Int32)), .unset, .unset, .unset, .unset, .unset, .unset, .unset] []))
    refine gv (fun tQ kQ => XS.iload X0.here hx rfl (hb hby at_103) rfl kQ) ?_
    show G (s₁.setTop (mkF me_ 105 #[.val (.int p0), .val (.long p1), .second, .val (.int p2), .val (.int (6 : Int32)), .unset, .unset, .unset, .unset, .unset, .unset, .unset] [(.int (6 : Int32))]))
    refine gv (fun tQ kQ => XS.iconst X0.here hx rfl (hb hby at_105) kQ) ?_
    show G (s₁.setTop (mkF me_ 106 #[.val (.int p0), .val (.long p1), .second, .val (.int p2), .val (.int (6 : Int32)), .unset, .unset, .unset, .unset, .unset, .unset, .unset] [(.int (5 : Int32)), (.int (6 : Int32))]))
    refine gv (fun tQ kQ => XS.icmpYes X0.here hx rfl (pc0 := 106) (pc' := 122) rfl (hb hby at_106) rfl (feq (by decide : ¬ ((6 : Int32) = (5 : Int32)))).2 (by decide) (by decide) kQ) ?_
    show G (s₁.setTop (mkF me_ 122 #[.val (.int p0), .val (.long p1), .second, .val (.int p2), .val (.int (6 : Int32)), .unset, .unset, .unset, .unset, .unset, .unset, .unset] []))
    refine gv (fun tQ kQ => XS.iload X0.here hx rfl (hb hby at_122) rfl kQ) ?_
    show G (s₁.setTop (mkF me_ 124 #[.val (.int p0), .val (.long p1), .second, .val (.int p2), .val (.int (6 : Int32)), .unset, .unset, .unset, .unset, .unset, .unset, .unset] [(.int (6 : Int32))]))
    refine gv (fun tQ kQ => XS.bipush X0.here hx rfl (hb hby at_124) kQ) ?_
    show G (s₁.setTop (mkF me_ 126 #[.val (.int p0), .val (.long p1), .second, .val (.int p2), .val (.int (6 : Int32)), .unset, .unset, .unset, .unset, .unset, .unset, .unset] [(.int (6 : Int32)), (.int (6 : Int32))]))
    refine gv (fun tQ kQ => XS.icmpNo X0.here hx rfl (hb hby at_126) rfl (teq (by decide : (6 : Int32) = (6 : Int32))).2 kQ) ?_
    show G (s₁.setTop (mkF me_ 129 #[.val (.int p0), .val (.long p1), .second, .val (.int p2), .val (.int (6 : Int32)), .unset, .unset, .unset, .unset, .unset, .unset, .unset] []))
    obtain ⟨T63, X63, e63, st63⟩ := getS2 X0 hx hZ hown (host := "") (Or.inl (hw _ (List.mem_of_getElem? (i := 20) rfl))) Via.refl e0 (u6.ext O0.2) (g := (mkF me_ 129 #[.val (.int p0), .val (.long p1), .second, .val (.int p2), .val (.int (6 : Int32)), .unset, .unset, .unset, .unset, .unset, .unset, .unset] [])) rfl (hb hby at_129)
    refine gv st63 ?_
    show G (T63.setTop (mkF me_ 132 #[.val (.int p0), .val (.long p1), .second, .val (.int p2), .val (.int (6 : Int32)), .unset, .unset, .unset, .unset, .unset, .unset, .unset] [(.ref A_QUEUES)]))
    refine gv (fun tQ kQ => XS.astore X63.here hx rfl (hb hby at_132) rfl rfl (l' := #[.val (.int p0), .val (.long p1), .second, .val (.int p2), .val (.int (6 : Int32)), .val (.ref A_QUEUES), .unset, .unset, .unset, .unset, .unset, .unset]) rfl kQ) ?_
    show G (T63.setTop (mkF me_ 134 #[.val (.int p0), .val (.long p1), .second, .val (.int p2), .val (.int (6 : Int32)), .val (.ref A_QUEUES), .unset, .unset, .unset, .unset, .unset, .unset] []))
    refine gv (X63.ldc2Long hx hown (mvT hZ (hw _ (List.mem_of_getElem? (i := 16) rfl))) (g := (mkF me_ 134 #[.val (.int p0), .val (.long p1), .second, .val (.int p2), .val (.int (6 : Int32)), .val (.ref A_QUEUES), .unset, .unset, .unset, .unset, .unset, .unset] [])) rfl (hb hby at_134)) ?_
    show G (T63.setTop (mkF me_ 137 #[.val (.int p0), .val (.long p1), .second, .val (.int p2), .val (.int (6 : Int32)), .val (.ref A_QUEUES), .unset, .unset, .unset, .unset, .unset, .unset] [(.long (1000000 : Int64))]))
    refine gv (fun tQ kQ => XS.lstore X63.here hx rfl (hb hby at_137) rfl (l' := #[.val (.int p0), .val (.long p1), .second, .val (.int p2), .val (.int (6 : Int32)), .val (.ref A_QUEUES), .val (.long (1000000 : Int64)), .second, .unset, .unset, .unset, .unset]) rfl kQ) ?_
    show G (T63.setTop (mkF me_ 139 #[.val (.int p0), .val (.long p1), .second, .val (.int p2), .val (.int (6 : Int32)), .val (.ref A_QUEUES), .val (.long (1000000 : Int64)), .second, .unset, .unset, .unset, .unset] []))
    refine gv (fun tQ kQ => XS.goto X63.here hx rfl (pc0 := 139) (pc' := 172) rfl (hb hby at_139) (by decide) (by decide) kQ) ?_
    show G (T63.setTop (mkF me_ 172 #[.val (.int p0), .val (.long p1), .second, .val (.int p2), .val (.int (6 : Int32)), .val (.ref A_QUEUES), .val (.long (1000000 : Int64)), .second, .unset, .unset, .unset, .unset] []))
    refine gv (fun tQ kQ => XS.aload X63.here hx rfl (hb hby at_172) rfl rfl kQ) ?_
    show G (T63.setTop (mkF me_ 174 #[.val (.int p0), .val (.long p1), .second, .val (.int p2), .val (.int (6 : Int32)), .val (.ref A_QUEUES), .val (.long (1000000 : Int64)), .second, .unset, .unset, .unset, .unset] [(.ref A_QUEUES)]))
    refine gv (fun tQ kQ => XS.lloadN X63.here hx rfl (hb hby at_174) rfl kQ) ?_
    show G (T63.setTop (mkF me_ 175 #[.val (.int p0), .val (.long p1), .second, .val (.int p2), .val (.int (6 : Int32)), .val (.ref A_QUEUES), .val (.long (1000000 : Int64)), .second, .unset, .unset, .unset, .unset] [(.long p1), (.ref A_QUEUES)]))
    obtain ⟨cq64, kq64, q64a, q64b, q64c⟩ := isOf hZ e63 (u15.ext O0.2)
    obtain ⟨_, _, ⟨T64, L64, k64, n64⟩, -, X64, ⟨Lc64, hQ64, l64, y64, z64⟩, st64⟩ := X63.virtualBack hx (y := (⟨"com/example/slot1/slot1/server/Limit", "allows", "(J)Z"⟩ : MethodName)) (z := (⟨"com/example/slot1/slot1/server/Limit", "allows", "(J)Z"⟩ : MethodName)) hown (mvT hZ (hw _ (List.mem_of_getElem? (i := 5) rfl))) (mvT hZ (hw _ (List.mem_of_getElem? (i := 6) rfl))) (notFace_of_selects (args := #[]) (mvT hZ (hw _ (List.mem_of_getElem? (i := 8) rfl)))) (mvT hZ (hw _ (List.mem_of_getElem? (i := 8) rfl))) (mvT hZ (hw _ (List.mem_of_getElem? (i := 7) rfl))) (by decide) (backOf (W := 0) (rm_allows l Z a0 hw [] A_QUEUES p1 (1000000 : Int64) h0 n0 O0 (u24.ext O0.2)) hZ (hw _ (List.mem_of_getElem? (i := 9) rfl)) (hw _ (List.mem_of_getElem? (i := 2) rfl)) (by decide) (by decide)) q64a q64c (g := (mkF me_ 175 #[.val (.int p0), .val (.long p1), .second, .val (.int p2), .val (.int (6 : Int32)), .val (.ref A_QUEUES), .val (.long (1000000 : Int64)), .second, .unset, .unset, .unset, .unset] [(.long p1), (.ref A_QUEUES)])) rfl (by rw [hml]; rfl) (Steps.refl _) (argsL := [(.long p1)]) (rest := []) (lenOf pd_0 rfl) rfl (by show 2 * 0 + _ ≤ _; exact Nat.le_of_eq rfl) (hb hby at_175) (fun _ _ => ⟨rfl, e63, (by decide : 0 + 0 ≤ _), (by decide : 0 + 0 ≤ _)⟩)
    dsimp only [Pt.U, Pt.locs, Pt.cells, Pt.slots] at X64 l64 y64 z64 st64 hQ64
    subst l64 y64 z64
    obtain ⟨rfl, Nq64, eq64⟩ := hQ64
    have N65 := Fr.app N0 Nq64
    by_cases hb66 : (1000000 : Int64) < p1
    · rw [if_pos hb66] at st64
      refine gv (fun tQ kQ => st64.trans kQ) ?_
      show G (T64.setTop (mkF me_ 178 #[.val (.int p0), .val (.long p1), .second, .val (.int p2), .val (.int (6 : Int32)), .val (.ref A_QUEUES), .val (.long (1000000 : Int64)), .second, .unset, .unset, .unset, .unset] [(.int (0 : Int32))]))
      refine gv (fun tQ kQ => XS.lloadN X64.here hx rfl (hb hby at_178) rfl kQ) ?_
      show G (T64.setTop (mkF me_ 179 #[.val (.int p0), .val (.long p1), .second, .val (.int p2), .val (.int (6 : Int32)), .val (.ref A_QUEUES), .val (.long (1000000 : Int64)), .second, .unset, .unset, .unset, .unset] [(.long p1), (.int (0 : Int32))]))
      refine gv (fun tQ kQ => XS.lload X64.here hx rfl (hb hby at_179) rfl kQ) ?_
      show G (T64.setTop (mkF me_ 181 #[.val (.int p0), .val (.long p1), .second, .val (.int p2), .val (.int (6 : Int32)), .val (.ref A_QUEUES), .val (.long (1000000 : Int64)), .second, .unset, .unset, .unset, .unset] [(.long (1000000 : Int64)), (.long p1), (.int (0 : Int32))]))
      refine gv (fun tQ kQ => XS.lcmp X64.here hx rfl (hb hby at_181) rfl kQ) ?_
      show G (T64.setTop (mkF me_ 182 #[.val (.int p0), .val (.long p1), .second, .val (.int p2), .val (.int (6 : Int32)), .val (.ref A_QUEUES), .val (.long (1000000 : Int64)), .second, .unset, .unset, .unset, .unset] [(.int (lcmpW p1 (1000000 : Int64))), (.int (0 : Int32))]))
      refine gv (fun tQ kQ => XS.ifYes X64.here hx rfl (pc0 := 182) (pc' := 189) rfl (hb hby at_182) rfl ((if0 _ _).trans (tlt ((lw_gt _ _).mpr hb66)).2.2.1) (by decide) (by decide) kQ) ?_
      show G (T64.setTop (mkF me_ 189 #[.val (.int p0), .val (.long p1), .second, .val (.int p2), .val (.int (6 : Int32)), .val (.ref A_QUEUES), .val (.long (1000000 : Int64)), .second, .unset, .unset, .unset, .unset] [(.int (0 : Int32))]))
      refine gv (fun tQ kQ => XS.iconst X64.here hx rfl (hb hby at_189) kQ) ?_
      show G (T64.setTop (mkF me_ 190 #[.val (.int p0), .val (.long p1), .second, .val (.int p2), .val (.int (6 : Int32)), .val (.ref A_QUEUES), .val (.long (1000000 : Int64)), .second, .unset, .unset, .unset, .unset] [(.int (0 : Int32)), (.int (0 : Int32))]))
      refine gv (fun tQ kQ => XS.icmpNo X64.here hx rfl (hb hby at_190) rfl (teq (by decide : (0 : Int32) = (0 : Int32))).2 kQ) ?_
      show G (T64.setTop (mkF me_ 193 #[.val (.int p0), .val (.long p1), .second, .val (.int p2), .val (.int (6 : Int32)), .val (.ref A_QUEUES), .val (.long (1000000 : Int64)), .second, .unset, .unset, .unset, .unset] []))
      refine gv (fun tQ kQ => XS.iconst X64.here hx rfl (hb hby at_193) kQ) ?_
      show G (T64.setTop (mkF me_ 194 #[.val (.int p0), .val (.long p1), .second, .val (.int p2), .val (.int (6 : Int32)), .val (.ref A_QUEUES), .val (.long (1000000 : Int64)), .second, .unset, .unset, .unset, .unset] [(.int (1 : Int32))]))
      refine gv (fun tQ kQ => XS.goto X64.here hx rfl (pc0 := 194) (pc' := 198) rfl (hb hby at_194) (by decide) (by decide) kQ) ?_
      show G (T64.setTop (mkF me_ 198 #[.val (.int p0), .val (.long p1), .second, .val (.int p2), .val (.int (6 : Int32)), .val (.ref A_QUEUES), .val (.long (1000000 : Int64)), .second, .unset, .unset, .unset, .unset] [(.int (1 : Int32))]))
      refine gv (fun tQ kQ => XS.istore X64.here hx rfl (hb hby at_198) rfl (l' := #[.val (.int p0), .val (.long p1), .second, .val (.int p2), .val (.int (6 : Int32)), .val (.ref A_QUEUES), .val (.long (1000000 : Int64)), .second, .val (.int (1 : Int32)), .unset, .unset, .unset]) rfl kQ) ?_
      show G (T64.setTop (mkF me_ 200 #[.val (.int p0), .val (.long p1), .second, .val (.int p2), .val (.int (6 : Int32)), .val (.ref A_QUEUES), .val (.long (1000000 : Int64)), .second, .val (.int (1 : Int32)), .unset, .unset, .unset] []))
      refine gv (fun tQ kQ => XS.lload X64.here hx rfl (hb hby at_200) rfl kQ) ?_
      show G (T64.setTop (mkF me_ 202 #[.val (.int p0), .val (.long p1), .second, .val (.int p2), .val (.int (6 : Int32)), .val (.ref A_QUEUES), .val (.long (1000000 : Int64)), .second, .val (.int (1 : Int32)), .unset, .unset, .unset] [(.long (1000000 : Int64))]))
      refine gv (fun tQ kQ => XS.iloadN X64.here hx rfl (hb hby at_202) rfl kQ) ?_
      show G (T64.setTop (mkF me_ 203 #[.val (.int p0), .val (.long p1), .second, .val (.int p2), .val (.int (6 : Int32)), .val (.ref A_QUEUES), .val (.long (1000000 : Int64)), .second, .val (.int (1 : Int32)), .unset, .unset, .unset] [(.int p2), (.long (1000000 : Int64))]))
      refine gv (fun tQ kQ => XS.iconst X64.here hx rfl (hb hby at_203) kQ) ?_
      show G (T64.setTop (mkF me_ 204 #[.val (.int p0), .val (.long p1), .second, .val (.int p2), .val (.int (6 : Int32)), .val (.ref A_QUEUES), .val (.long (1000000 : Int64)), .second, .val (.int (1 : Int32)), .unset, .unset, .unset] [(.int (3 : Int32)), (.int p2), (.long (1000000 : Int64))]))
      refine gv (fun tQ kQ => XS.iand X64.here hx rfl (hb hby at_204) rfl kQ) ?_
      show G (T64.setTop (mkF me_ 205 #[.val (.int p0), .val (.long p1), .second, .val (.int p2), .val (.int (6 : Int32)), .val (.ref A_QUEUES), .val (.long (1000000 : Int64)), .second, .val (.int (1 : Int32)), .unset, .unset, .unset] [(.int (p2 &&& (3 : Int32))), (.long (1000000 : Int64))]))
      refine gv (fun tQ kQ => XS.iconst X64.here hx rfl (hb hby at_205) kQ) ?_
      show G (T64.setTop (mkF me_ 206 #[.val (.int p0), .val (.long p1), .second, .val (.int p2), .val (.int (6 : Int32)), .val (.ref A_QUEUES), .val (.long (1000000 : Int64)), .second, .val (.int (1 : Int32)), .unset, .unset, .unset] [(.int (2 : Int32)), (.int (p2 &&& (3 : Int32))), (.long (1000000 : Int64))]))
      refine gv (fun tQ kQ => XS.isub X64.here hx rfl (hb hby at_206) rfl kQ) ?_
      show G (T64.setTop (mkF me_ 207 #[.val (.int p0), .val (.long p1), .second, .val (.int p2), .val (.int (6 : Int32)), .val (.ref A_QUEUES), .val (.long (1000000 : Int64)), .second, .val (.int (1 : Int32)), .unset, .unset, .unset] [(.int ((p2 &&& (3 : Int32)) - (2 : Int32))), (.long (1000000 : Int64))]))
      refine gv (fun tQ kQ => XS.i2l X64.here hx rfl (hb hby at_207) rfl kQ) ?_
      show G (T64.setTop (mkF me_ 208 #[.val (.int p0), .val (.long p1), .second, .val (.int p2), .val (.int (6 : Int32)), .val (.ref A_QUEUES), .val (.long (1000000 : Int64)), .second, .val (.int (1 : Int32)), .unset, .unset, .unset] [(.long (((p2 &&& (3 : Int32)) - (2 : Int32)).toInt64)), (.long (1000000 : Int64))]))
      refine gv (fun tQ kQ => XS.ladd X64.here hx rfl (hb hby at_208) rfl kQ) ?_
      show G (T64.setTop (mkF me_ 209 #[.val (.int p0), .val (.long p1), .second, .val (.int p2), .val (.int (6 : Int32)), .val (.ref A_QUEUES), .val (.long (1000000 : Int64)), .second, .val (.int (1 : Int32)), .unset, .unset, .unset] [(.long ((1000000 : Int64) + (((p2 &&& (3 : Int32)) - (2 : Int32)).toInt64)))]))
      refine gv (fun tQ kQ => XS.lstore X64.here hx rfl (hb hby at_209) rfl (l' := #[.val (.int p0), .val (.long p1), .second, .val (.int p2), .val (.int (6 : Int32)), .val (.ref A_QUEUES), .val (.long (1000000 : Int64)), .second, .val (.int (1 : Int32)), .val (.long ((1000000 : Int64) + (((p2 &&& (3 : Int32)) - (2 : Int32)).toInt64))), .second, .unset]) rfl kQ) ?_
      show G (T64.setTop (mkF me_ 211 #[.val (.int p0), .val (.long p1), .second, .val (.int p2), .val (.int (6 : Int32)), .val (.ref A_QUEUES), .val (.long (1000000 : Int64)), .second, .val (.int (1 : Int32)), .val (.long ((1000000 : Int64) + (((p2 &&& (3 : Int32)) - (2 : Int32)).toInt64))), .second, .unset] []))
      refine gv (fun tQ kQ => XS.aload X64.here hx rfl (hb hby at_211) rfl rfl kQ) ?_
      show G (T64.setTop (mkF me_ 213 #[.val (.int p0), .val (.long p1), .second, .val (.int p2), .val (.int (6 : Int32)), .val (.ref A_QUEUES), .val (.long (1000000 : Int64)), .second, .val (.int (1 : Int32)), .val (.long ((1000000 : Int64) + (((p2 &&& (3 : Int32)) - (2 : Int32)).toInt64))), .second, .unset] [(.ref A_QUEUES)]))
      refine gv (fun tQ kQ => XS.lload X64.here hx rfl (hb hby at_213) rfl kQ) ?_
      show G (T64.setTop (mkF me_ 215 #[.val (.int p0), .val (.long p1), .second, .val (.int p2), .val (.int (6 : Int32)), .val (.ref A_QUEUES), .val (.long (1000000 : Int64)), .second, .val (.int (1 : Int32)), .val (.long ((1000000 : Int64) + (((p2 &&& (3 : Int32)) - (2 : Int32)).toInt64))), .second, .unset] [(.long ((1000000 : Int64) + (((p2 &&& (3 : Int32)) - (2 : Int32)).toInt64))), (.ref A_QUEUES)]))
      obtain ⟨cq67, kq67, q67a, q67b, q67c⟩ := isOf hZ eq64 (u15.ext O0.2)
      obtain ⟨_, _, ⟨T67, L67, k67, n67⟩, -, X67, ⟨Lc67, hQ67, l67, y67, z67⟩, st67⟩ := X64.virtualBack hx (y := (⟨"com/example/slot1/slot1/server/Limit", "allows", "(J)Z"⟩ : MethodName)) (z := (⟨"com/example/slot1/slot1/server/Limit", "allows", "(J)Z"⟩ : MethodName)) hown (mvT hZ (hw _ (List.mem_of_getElem? (i := 5) rfl))) (mvT hZ (hw _ (List.mem_of_getElem? (i := 6) rfl))) (notFace_of_selects (args := #[]) (mvT hZ (hw _ (List.mem_of_getElem? (i := 8) rfl)))) (mvT hZ (hw _ (List.mem_of_getElem? (i := 8) rfl))) (mvT hZ (hw _ (List.mem_of_getElem? (i := 7) rfl))) (by decide) (backOf (W := 0) (rm_allows l Z a0 hw [] A_QUEUES ((1000000 : Int64) + (((p2 &&& (3 : Int32)) - (2 : Int32)).toInt64)) (1000000 : Int64) h0 n0 O0 (u24.ext O0.2)) hZ (hw _ (List.mem_of_getElem? (i := 9) rfl)) (hw _ (List.mem_of_getElem? (i := 2) rfl)) (by decide) (by decide)) q67a q67c (g := (mkF me_ 215 #[.val (.int p0), .val (.long p1), .second, .val (.int p2), .val (.int (6 : Int32)), .val (.ref A_QUEUES), .val (.long (1000000 : Int64)), .second, .val (.int (1 : Int32)), .val (.long ((1000000 : Int64) + (((p2 &&& (3 : Int32)) - (2 : Int32)).toInt64))), .second, .unset] [(.long ((1000000 : Int64) + (((p2 &&& (3 : Int32)) - (2 : Int32)).toInt64))), (.ref A_QUEUES)])) rfl (by rw [hml]; rfl) (Steps.refl _) (argsL := [(.long ((1000000 : Int64) + (((p2 &&& (3 : Int32)) - (2 : Int32)).toInt64)))]) (rest := []) (lenOf pd_0 rfl) rfl (by show 2 * 0 + _ ≤ _; exact Nat.le_of_eq rfl) (hb hby at_215) (fun _ _ => ⟨rfl, eq64, (by decide : 0 + 0 ≤ _), (by decide : 0 + 0 ≤ _)⟩)
      dsimp only [Pt.U, Pt.locs, Pt.cells, Pt.slots] at X67 l67 y67 z67 st67 hQ67
      subst l67 y67 z67
      obtain ⟨rfl, Nq67, eq67⟩ := hQ67
      have N68 := Fr.app N65 Nq67
      by_cases hb69 : (1000000 : Int64) < ((1000000 : Int64) + (((p2 &&& (3 : Int32)) - (2 : Int32)).toInt64))
      · rw [if_pos hb69] at st67
        refine gv (fun tQ kQ => st67.trans kQ) ?_
        show G (T67.setTop (mkF me_ 218 #[.val (.int p0), .val (.long p1), .second, .val (.int p2), .val (.int (6 : Int32)), .val (.ref A_QUEUES), .val (.long (1000000 : Int64)), .second, .val (.int (1 : Int32)), .val (.long ((1000000 : Int64) + (((p2 &&& (3 : Int32)) - (2 : Int32)).toInt64))), .second, .unset] [(.int (0 : Int32))]))
        refine gv (fun tQ kQ => XS.lload X67.here hx rfl (hb hby at_218) rfl kQ) ?_
        show G (T67.setTop (mkF me_ 220 #[.val (.int p0), .val (.long p1), .second, .val (.int p2), .val (.int (6 : Int32)), .val (.ref A_QUEUES), .val (.long (1000000 : Int64)), .second, .val (.int (1 : Int32)), .val (.long ((1000000 : Int64) + (((p2 &&& (3 : Int32)) - (2 : Int32)).toInt64))), .second, .unset] [(.long ((1000000 : Int64) + (((p2 &&& (3 : Int32)) - (2 : Int32)).toInt64))), (.int (0 : Int32))]))
        refine gv (fun tQ kQ => XS.lload X67.here hx rfl (hb hby at_220) rfl kQ) ?_
        show G (T67.setTop (mkF me_ 222 #[.val (.int p0), .val (.long p1), .second, .val (.int p2), .val (.int (6 : Int32)), .val (.ref A_QUEUES), .val (.long (1000000 : Int64)), .second, .val (.int (1 : Int32)), .val (.long ((1000000 : Int64) + (((p2 &&& (3 : Int32)) - (2 : Int32)).toInt64))), .second, .unset] [(.long (1000000 : Int64)), (.long ((1000000 : Int64) + (((p2 &&& (3 : Int32)) - (2 : Int32)).toInt64))), (.int (0 : Int32))]))
        refine gv (fun tQ kQ => XS.lcmp X67.here hx rfl (hb hby at_222) rfl kQ) ?_
        show G (T67.setTop (mkF me_ 223 #[.val (.int p0), .val (.long p1), .second, .val (.int p2), .val (.int (6 : Int32)), .val (.ref A_QUEUES), .val (.long (1000000 : Int64)), .second, .val (.int (1 : Int32)), .val (.long ((1000000 : Int64) + (((p2 &&& (3 : Int32)) - (2 : Int32)).toInt64))), .second, .unset] [(.int (lcmpW ((1000000 : Int64) + (((p2 &&& (3 : Int32)) - (2 : Int32)).toInt64)) (1000000 : Int64))), (.int (0 : Int32))]))
        refine gv (fun tQ kQ => XS.ifYes X67.here hx rfl (pc0 := 223) (pc' := 230) rfl (hb hby at_223) rfl ((if0 _ _).trans (tlt ((lw_gt _ _).mpr hb69)).2.2.1) (by decide) (by decide) kQ) ?_
        show G (T67.setTop (mkF me_ 230 #[.val (.int p0), .val (.long p1), .second, .val (.int p2), .val (.int (6 : Int32)), .val (.ref A_QUEUES), .val (.long (1000000 : Int64)), .second, .val (.int (1 : Int32)), .val (.long ((1000000 : Int64) + (((p2 &&& (3 : Int32)) - (2 : Int32)).toInt64))), .second, .unset] [(.int (0 : Int32))]))
        refine gv (fun tQ kQ => XS.iconst X67.here hx rfl (hb hby at_230) kQ) ?_
        show G (T67.setTop (mkF me_ 231 #[.val (.int p0), .val (.long p1), .second, .val (.int p2), .val (.int (6 : Int32)), .val (.ref A_QUEUES), .val (.long (1000000 : Int64)), .second, .val (.int (1 : Int32)), .val (.long ((1000000 : Int64) + (((p2 &&& (3 : Int32)) - (2 : Int32)).toInt64))), .second, .unset] [(.int (0 : Int32)), (.int (0 : Int32))]))
        refine gv (fun tQ kQ => XS.icmpNo X67.here hx rfl (hb hby at_231) rfl (teq (by decide : (0 : Int32) = (0 : Int32))).2 kQ) ?_
        show G (T67.setTop (mkF me_ 234 #[.val (.int p0), .val (.long p1), .second, .val (.int p2), .val (.int (6 : Int32)), .val (.ref A_QUEUES), .val (.long (1000000 : Int64)), .second, .val (.int (1 : Int32)), .val (.long ((1000000 : Int64) + (((p2 &&& (3 : Int32)) - (2 : Int32)).toInt64))), .second, .unset] []))
        refine gv (fun tQ kQ => XS.iconst X67.here hx rfl (hb hby at_234) kQ) ?_
        show G (T67.setTop (mkF me_ 235 #[.val (.int p0), .val (.long p1), .second, .val (.int p2), .val (.int (6 : Int32)), .val (.ref A_QUEUES), .val (.long (1000000 : Int64)), .second, .val (.int (1 : Int32)), .val (.long ((1000000 : Int64) + (((p2 &&& (3 : Int32)) - (2 : Int32)).toInt64))), .second, .unset] [(.int (1 : Int32))]))
        refine gv (fun tQ kQ => XS.goto X67.here hx rfl (pc0 := 235) (pc' := 239) rfl (hb hby at_235) (by decide) (by decide) kQ) ?_
        show G (T67.setTop (mkF me_ 239 #[.val (.int p0), .val (.long p1), .second, .val (.int p2), .val (.int (6 : Int32)), .val (.ref A_QUEUES), .val (.long (1000000 : Int64)), .second, .val (.int (1 : Int32)), .val (.long ((1000000 : Int64) + (((p2 &&& (3 : Int32)) - (2 : Int32)).toInt64))), .second, .unset] [(.int (1 : Int32))]))
        refine gv (fun tQ kQ => XS.istore X67.here hx rfl (hb hby at_239) rfl (l' := #[.val (.int p0), .val (.long p1), .second, .val (.int p2), .val (.int (6 : Int32)), .val (.ref A_QUEUES), .val (.long (1000000 : Int64)), .second, .val (.int (1 : Int32)), .val (.long ((1000000 : Int64) + (((p2 &&& (3 : Int32)) - (2 : Int32)).toInt64))), .second, .val (.int (1 : Int32))]) rfl kQ) ?_
        show G (T67.setTop (mkF me_ 241 #[.val (.int p0), .val (.long p1), .second, .val (.int p2), .val (.int (6 : Int32)), .val (.ref A_QUEUES), .val (.long (1000000 : Int64)), .second, .val (.int (1 : Int32)), .val (.long ((1000000 : Int64) + (((p2 &&& (3 : Int32)) - (2 : Int32)).toInt64))), .second, .val (.int (1 : Int32))] []))
        refine gv (fun tQ kQ => XS.iload X67.here hx rfl (hb hby at_241) rfl kQ) ?_
        show G (T67.setTop (mkF me_ 243 #[.val (.int p0), .val (.long p1), .second, .val (.int p2), .val (.int (6 : Int32)), .val (.ref A_QUEUES), .val (.long (1000000 : Int64)), .second, .val (.int (1 : Int32)), .val (.long ((1000000 : Int64) + (((p2 &&& (3 : Int32)) - (2 : Int32)).toInt64))), .second, .val (.int (1 : Int32))] [(.int (1 : Int32))]))
        refine gv (fun tQ kQ => XS.ifNo X67.here hx rfl (hb hby at_243) rfl ((if0 _ _).trans (feq (by decide : ¬ ((1 : Int32) = (0 : Int32)))).1) kQ) ?_
        show G (T67.setTop (mkF me_ 246 #[.val (.int p0), .val (.long p1), .second, .val (.int p2), .val (.int (6 : Int32)), .val (.ref A_QUEUES), .val (.long (1000000 : Int64)), .second, .val (.int (1 : Int32)), .val (.long ((1000000 : Int64) + (((p2 &&& (3 : Int32)) - (2 : Int32)).toInt64))), .second, .val (.int (1 : Int32))] []))
        refine gv (fun tQ kQ => XS.iload X67.here hx rfl (hb hby at_246) rfl kQ) ?_
        show G (T67.setTop (mkF me_ 248 #[.val (.int p0), .val (.long p1), .second, .val (.int p2), .val (.int (6 : Int32)), .val (.ref A_QUEUES), .val (.long (1000000 : Int64)), .second, .val (.int (1 : Int32)), .val (.long ((1000000 : Int64) + (((p2 &&& (3 : Int32)) - (2 : Int32)).toInt64))), .second, .val (.int (1 : Int32))] [(.int (1 : Int32))]))
        refine gv (fun tQ kQ => XS.ifNo X67.here hx rfl (hb hby at_248) rfl ((if0 _ _).trans (feq (by decide : ¬ ((1 : Int32) = (0 : Int32)))).1) kQ) ?_
        show G (T67.setTop (mkF me_ 251 #[.val (.int p0), .val (.long p1), .second, .val (.int p2), .val (.int (6 : Int32)), .val (.ref A_QUEUES), .val (.long (1000000 : Int64)), .second, .val (.int (1 : Int32)), .val (.long ((1000000 : Int64) + (((p2 &&& (3 : Int32)) - (2 : Int32)).toInt64))), .second, .val (.int (1 : Int32))] []))
        refine gv (fun tQ kQ => XS.iconst X67.here hx rfl (hb hby at_251) kQ) ?_
        show G (T67.setTop (mkF me_ 252 #[.val (.int p0), .val (.long p1), .second, .val (.int p2), .val (.int (6 : Int32)), .val (.ref A_QUEUES), .val (.long (1000000 : Int64)), .second, .val (.int (1 : Int32)), .val (.long ((1000000 : Int64) + (((p2 &&& (3 : Int32)) - (2 : Int32)).toInt64))), .second, .val (.int (1 : Int32))] [(.int (1 : Int32))]))
        refine gv (fun tQ kQ => XS.goto X67.here hx rfl (pc0 := 252) (pc' := 256) rfl (hb hby at_252) (by decide) (by decide) kQ) ?_
        show G (T67.setTop (mkF me_ 256 #[.val (.int p0), .val (.long p1), .second, .val (.int p2), .val (.int (6 : Int32)), .val (.ref A_QUEUES), .val (.long (1000000 : Int64)), .second, .val (.int (1 : Int32)), .val (.long ((1000000 : Int64) + (((p2 &&& (3 : Int32)) - (2 : Int32)).toInt64))), .second, .val (.int (1 : Int32))] [(.int (1 : Int32))]))
        refine gf _ (own_ret X67 Bd.notSynchronized (v := some (.int (1 : Int32))) (fun h => by rw [Bd.returns] at h; cases h) ?_ (by decide) (by decide) (fun fs hr => retN X67 hx (t := .boolean) Bd.returns (by simp) (hb hby at_256) hr))
        show Q0 Z p0 p1 p2 A_TOPICS A_ROUTE_QUEUES A_GROUPS A_MEMBERS A_GROUP_MEMBERS A_MEMBER_TOPICS A_QUEUES A_OFFSETS A_OPTIONS_BYTES h0 n0 _ T67.heap _
        rw [eq67]
        exact ⟨rfl, N68⟩
      · skip
        rw [if_neg hb69] at st67
        refine gv (fun tQ kQ => st67.trans kQ) ?_
        show G (T67.setTop (mkF me_ 218 #[.val (.int p0), .val (.long p1), .second, .val (.int p2), .val (.int (6 : Int32)), .val (.ref A_QUEUES), .val (.long (1000000 : Int64)), .second, .val (.int (1 : Int32)), .val (.long ((1000000 : Int64) + (((p2 &&& (3 : Int32)) - (2 : Int32)).toInt64))), .second, .unset] [(.int (1 : Int32))]))
        refine gv (fun tQ kQ => XS.lload X67.here hx rfl (hb hby at_218) rfl kQ) ?_
        show G (T67.setTop (mkF me_ 220 #[.val (.int p0), .val (.long p1), .second, .val (.int p2), .val (.int (6 : Int32)), .val (.ref A_QUEUES), .val (.long (1000000 : Int64)), .second, .val (.int (1 : Int32)), .val (.long ((1000000 : Int64) + (((p2 &&& (3 : Int32)) - (2 : Int32)).toInt64))), .second, .unset] [(.long ((1000000 : Int64) + (((p2 &&& (3 : Int32)) - (2 : Int32)).toInt64))), (.int (1 : Int32))]))
        refine gv (fun tQ kQ => XS.lload X67.here hx rfl (hb hby at_220) rfl kQ) ?_
        show G (T67.setTop (mkF me_ 222 #[.val (.int p0), .val (.long p1), .second, .val (.int p2), .val (.int (6 : Int32)), .val (.ref A_QUEUES), .val (.long (1000000 : Int64)), .second, .val (.int (1 : Int32)), .val (.long ((1000000 : Int64) + (((p2 &&& (3 : Int32)) - (2 : Int32)).toInt64))), .second, .unset] [(.long (1000000 : Int64)), (.long ((1000000 : Int64) + (((p2 &&& (3 : Int32)) - (2 : Int32)).toInt64))), (.int (1 : Int32))]))
        refine gv (fun tQ kQ => XS.lcmp X67.here hx rfl (hb hby at_222) rfl kQ) ?_
        show G (T67.setTop (mkF me_ 223 #[.val (.int p0), .val (.long p1), .second, .val (.int p2), .val (.int (6 : Int32)), .val (.ref A_QUEUES), .val (.long (1000000 : Int64)), .second, .val (.int (1 : Int32)), .val (.long ((1000000 : Int64) + (((p2 &&& (3 : Int32)) - (2 : Int32)).toInt64))), .second, .unset] [(.int (lcmpW ((1000000 : Int64) + (((p2 &&& (3 : Int32)) - (2 : Int32)).toInt64)) (1000000 : Int64))), (.int (1 : Int32))]))
        refine gv (fun tQ kQ => XS.ifNo X67.here hx rfl (hb hby at_223) rfl ((if0 _ _).trans (flt (mt (lw_gt _ _).mp hb69)).2.2.1) kQ) ?_
        show G (T67.setTop (mkF me_ 226 #[.val (.int p0), .val (.long p1), .second, .val (.int p2), .val (.int (6 : Int32)), .val (.ref A_QUEUES), .val (.long (1000000 : Int64)), .second, .val (.int (1 : Int32)), .val (.long ((1000000 : Int64) + (((p2 &&& (3 : Int32)) - (2 : Int32)).toInt64))), .second, .unset] [(.int (1 : Int32))]))
        refine gv (fun tQ kQ => XS.iconst X67.here hx rfl (hb hby at_226) kQ) ?_
        show G (T67.setTop (mkF me_ 227 #[.val (.int p0), .val (.long p1), .second, .val (.int p2), .val (.int (6 : Int32)), .val (.ref A_QUEUES), .val (.long (1000000 : Int64)), .second, .val (.int (1 : Int32)), .val (.long ((1000000 : Int64) + (((p2 &&& (3 : Int32)) - (2 : Int32)).toInt64))), .second, .unset] [(.int (1 : Int32)), (.int (1 : Int32))]))
        refine gv (fun tQ kQ => XS.goto X67.here hx rfl (pc0 := 227) (pc' := 231) rfl (hb hby at_227) (by decide) (by decide) kQ) ?_
        show G (T67.setTop (mkF me_ 231 #[.val (.int p0), .val (.long p1), .second, .val (.int p2), .val (.int (6 : Int32)), .val (.ref A_QUEUES), .val (.long (1000000 : Int64)), .second, .val (.int (1 : Int32)), .val (.long ((1000000 : Int64) + (((p2 &&& (3 : Int32)) - (2 : Int32)).toInt64))), .second, .unset] [(.int (1 : Int32)), (.int (1 : Int32))]))
        refine gv (fun tQ kQ => XS.icmpNo X67.here hx rfl (hb hby at_231) rfl (teq (by decide : (1 : Int32) = (1 : Int32))).2 kQ) ?_
        show G (T67.setTop (mkF me_ 234 #[.val (.int p0), .val (.long p1), .second, .val (.int p2), .val (.int (6 : Int32)), .val (.ref A_QUEUES), .val (.long (1000000 : Int64)), .second, .val (.int (1 : Int32)), .val (.long ((1000000 : Int64) + (((p2 &&& (3 : Int32)) - (2 : Int32)).toInt64))), .second, .unset] []))
        refine gv (fun tQ kQ => XS.iconst X67.here hx rfl (hb hby at_234) kQ) ?_
        show G (T67.setTop (mkF me_ 235 #[.val (.int p0), .val (.long p1), .second, .val (.int p2), .val (.int (6 : Int32)), .val (.ref A_QUEUES), .val (.long (1000000 : Int64)), .second, .val (.int (1 : Int32)), .val (.long ((1000000 : Int64) + (((p2 &&& (3 : Int32)) - (2 : Int32)).toInt64))), .second, .unset] [(.int (1 : Int32))]))
        refine gv (fun tQ kQ => XS.goto X67.here hx rfl (pc0 := 235) (pc' := 239) rfl (hb hby at_235) (by decide) (by decide) kQ) ?_
        show G (T67.setTop (mkF me_ 239 #[.val (.int p0), .val (.long p1), .second, .val (.int p2), .val (.int (6 : Int32)), .val (.ref A_QUEUES), .val (.long (1000000 : Int64)), .second, .val (.int (1 : Int32)), .val (.long ((1000000 : Int64) + (((p2 &&& (3 : Int32)) - (2 : Int32)).toInt64))), .second, .unset] [(.int (1 : Int32))]))
        refine gv (fun tQ kQ => XS.istore X67.here hx rfl (hb hby at_239) rfl (l' := #[.val (.int p0), .val (.long p1), .second, .val (.int p2), .val (.int (6 : Int32)), .val (.ref A_QUEUES), .val (.long (1000000 : Int64)), .second, .val (.int (1 : Int32)), .val (.long ((1000000 : Int64) + (((p2 &&& (3 : Int32)) - (2 : Int32)).toInt64))), .second, .val (.int (1 : Int32))]) rfl kQ) ?_
        show G (T67.setTop (mkF me_ 241 #[.val (.int p0), .val (.long p1), .second, .val (.int p2), .val (.int (6 : Int32)), .val (.ref A_QUEUES), .val (.long (1000000 : Int64)), .second, .val (.int (1 : Int32)), .val (.long ((1000000 : Int64) + (((p2 &&& (3 : Int32)) - (2 : Int32)).toInt64))), .second, .val (.int (1 : Int32))] []))
        refine gv (fun tQ kQ => XS.iload X67.here hx rfl (hb hby at_241) rfl kQ) ?_
        show G (T67.setTop (mkF me_ 243 #[.val (.int p0), .val (.long p1), .second, .val (.int p2), .val (.int (6 : Int32)), .val (.ref A_QUEUES), .val (.long (1000000 : Int64)), .second, .val (.int (1 : Int32)), .val (.long ((1000000 : Int64) + (((p2 &&& (3 : Int32)) - (2 : Int32)).toInt64))), .second, .val (.int (1 : Int32))] [(.int (1 : Int32))]))
        refine gv (fun tQ kQ => XS.ifNo X67.here hx rfl (hb hby at_243) rfl ((if0 _ _).trans (feq (by decide : ¬ ((1 : Int32) = (0 : Int32)))).1) kQ) ?_
        show G (T67.setTop (mkF me_ 246 #[.val (.int p0), .val (.long p1), .second, .val (.int p2), .val (.int (6 : Int32)), .val (.ref A_QUEUES), .val (.long (1000000 : Int64)), .second, .val (.int (1 : Int32)), .val (.long ((1000000 : Int64) + (((p2 &&& (3 : Int32)) - (2 : Int32)).toInt64))), .second, .val (.int (1 : Int32))] []))
        refine gv (fun tQ kQ => XS.iload X67.here hx rfl (hb hby at_246) rfl kQ) ?_
        show G (T67.setTop (mkF me_ 248 #[.val (.int p0), .val (.long p1), .second, .val (.int p2), .val (.int (6 : Int32)), .val (.ref A_QUEUES), .val (.long (1000000 : Int64)), .second, .val (.int (1 : Int32)), .val (.long ((1000000 : Int64) + (((p2 &&& (3 : Int32)) - (2 : Int32)).toInt64))), .second, .val (.int (1 : Int32))] [(.int (1 : Int32))]))
        refine gv (fun tQ kQ => XS.ifNo X67.here hx rfl (hb hby at_248) rfl ((if0 _ _).trans (feq (by decide : ¬ ((1 : Int32) = (0 : Int32)))).1) kQ) ?_
        show G (T67.setTop (mkF me_ 251 #[.val (.int p0), .val (.long p1), .second, .val (.int p2), .val (.int (6 : Int32)), .val (.ref A_QUEUES), .val (.long (1000000 : Int64)), .second, .val (.int (1 : Int32)), .val (.long ((1000000 : Int64) + (((p2 &&& (3 : Int32)) - (2 : Int32)).toInt64))), .second, .val (.int (1 : Int32))] []))
        refine gv (fun tQ kQ => XS.iconst X67.here hx rfl (hb hby at_251) kQ) ?_
        show G (T67.setTop (mkF me_ 252 #[.val (.int p0), .val (.long p1), .second, .val (.int p2), .val (.int (6 : Int32)), .val (.ref A_QUEUES), .val (.long (1000000 : Int64)), .second, .val (.int (1 : Int32)), .val (.long ((1000000 : Int64) + (((p2 &&& (3 : Int32)) - (2 : Int32)).toInt64))), .second, .val (.int (1 : Int32))] [(.int (1 : Int32))]))
        refine gv (fun tQ kQ => XS.goto X67.here hx rfl (pc0 := 252) (pc' := 256) rfl (hb hby at_252) (by decide) (by decide) kQ) ?_
        show G (T67.setTop (mkF me_ 256 #[.val (.int p0), .val (.long p1), .second, .val (.int p2), .val (.int (6 : Int32)), .val (.ref A_QUEUES), .val (.long (1000000 : Int64)), .second, .val (.int (1 : Int32)), .val (.long ((1000000 : Int64) + (((p2 &&& (3 : Int32)) - (2 : Int32)).toInt64))), .second, .val (.int (1 : Int32))] [(.int (1 : Int32))]))
        refine gf _ (own_ret X67 Bd.notSynchronized (v := some (.int (1 : Int32))) (fun h => by rw [Bd.returns] at h; cases h) ?_ (by decide) (by decide) (fun fs hr => retN X67 hx (t := .boolean) Bd.returns (by simp) (hb hby at_256) hr))
        show Q0 Z p0 p1 p2 A_TOPICS A_ROUTE_QUEUES A_GROUPS A_MEMBERS A_GROUP_MEMBERS A_MEMBER_TOPICS A_QUEUES A_OFFSETS A_OPTIONS_BYTES h0 n0 _ T67.heap _
        rw [eq67]
        exact ⟨rfl, N68⟩
    · skip
      rw [if_neg hb66] at st64
      refine gv (fun tQ kQ => st64.trans kQ) ?_
      show G (T64.setTop (mkF me_ 178 #[.val (.int p0), .val (.long p1), .second, .val (.int p2), .val (.int (6 : Int32)), .val (.ref A_QUEUES), .val (.long (1000000 : Int64)), .second, .unset, .unset, .unset, .unset] [(.int (1 : Int32))]))
      refine gv (fun tQ kQ => XS.lloadN X64.here hx rfl (hb hby at_178) rfl kQ) ?_
      show G (T64.setTop (mkF me_ 179 #[.val (.int p0), .val (.long p1), .second, .val (.int p2), .val (.int (6 : Int32)), .val (.ref A_QUEUES), .val (.long (1000000 : Int64)), .second, .unset, .unset, .unset, .unset] [(.long p1), (.int (1 : Int32))]))
      refine gv (fun tQ kQ => XS.lload X64.here hx rfl (hb hby at_179) rfl kQ) ?_
      show G (T64.setTop (mkF me_ 181 #[.val (.int p0), .val (.long p1), .second, .val (.int p2), .val (.int (6 : Int32)), .val (.ref A_QUEUES), .val (.long (1000000 : Int64)), .second, .unset, .unset, .unset, .unset] [(.long (1000000 : Int64)), (.long p1), (.int (1 : Int32))]))
      refine gv (fun tQ kQ => XS.lcmp X64.here hx rfl (hb hby at_181) rfl kQ) ?_
      show G (T64.setTop (mkF me_ 182 #[.val (.int p0), .val (.long p1), .second, .val (.int p2), .val (.int (6 : Int32)), .val (.ref A_QUEUES), .val (.long (1000000 : Int64)), .second, .unset, .unset, .unset, .unset] [(.int (lcmpW p1 (1000000 : Int64))), (.int (1 : Int32))]))
      refine gv (fun tQ kQ => XS.ifNo X64.here hx rfl (hb hby at_182) rfl ((if0 _ _).trans (flt (mt (lw_gt _ _).mp hb66)).2.2.1) kQ) ?_
      show G (T64.setTop (mkF me_ 185 #[.val (.int p0), .val (.long p1), .second, .val (.int p2), .val (.int (6 : Int32)), .val (.ref A_QUEUES), .val (.long (1000000 : Int64)), .second, .unset, .unset, .unset, .unset] [(.int (1 : Int32))]))
      refine gv (fun tQ kQ => XS.iconst X64.here hx rfl (hb hby at_185) kQ) ?_
      show G (T64.setTop (mkF me_ 186 #[.val (.int p0), .val (.long p1), .second, .val (.int p2), .val (.int (6 : Int32)), .val (.ref A_QUEUES), .val (.long (1000000 : Int64)), .second, .unset, .unset, .unset, .unset] [(.int (1 : Int32)), (.int (1 : Int32))]))
      refine gv (fun tQ kQ => XS.goto X64.here hx rfl (pc0 := 186) (pc' := 190) rfl (hb hby at_186) (by decide) (by decide) kQ) ?_
      show G (T64.setTop (mkF me_ 190 #[.val (.int p0), .val (.long p1), .second, .val (.int p2), .val (.int (6 : Int32)), .val (.ref A_QUEUES), .val (.long (1000000 : Int64)), .second, .unset, .unset, .unset, .unset] [(.int (1 : Int32)), (.int (1 : Int32))]))
      refine gv (fun tQ kQ => XS.icmpNo X64.here hx rfl (hb hby at_190) rfl (teq (by decide : (1 : Int32) = (1 : Int32))).2 kQ) ?_
      show G (T64.setTop (mkF me_ 193 #[.val (.int p0), .val (.long p1), .second, .val (.int p2), .val (.int (6 : Int32)), .val (.ref A_QUEUES), .val (.long (1000000 : Int64)), .second, .unset, .unset, .unset, .unset] []))
      refine gv (fun tQ kQ => XS.iconst X64.here hx rfl (hb hby at_193) kQ) ?_
      show G (T64.setTop (mkF me_ 194 #[.val (.int p0), .val (.long p1), .second, .val (.int p2), .val (.int (6 : Int32)), .val (.ref A_QUEUES), .val (.long (1000000 : Int64)), .second, .unset, .unset, .unset, .unset] [(.int (1 : Int32))]))
      refine gv (fun tQ kQ => XS.goto X64.here hx rfl (pc0 := 194) (pc' := 198) rfl (hb hby at_194) (by decide) (by decide) kQ) ?_
      show G (T64.setTop (mkF me_ 198 #[.val (.int p0), .val (.long p1), .second, .val (.int p2), .val (.int (6 : Int32)), .val (.ref A_QUEUES), .val (.long (1000000 : Int64)), .second, .unset, .unset, .unset, .unset] [(.int (1 : Int32))]))
      refine gv (fun tQ kQ => XS.istore X64.here hx rfl (hb hby at_198) rfl (l' := #[.val (.int p0), .val (.long p1), .second, .val (.int p2), .val (.int (6 : Int32)), .val (.ref A_QUEUES), .val (.long (1000000 : Int64)), .second, .val (.int (1 : Int32)), .unset, .unset, .unset]) rfl kQ) ?_
      show G (T64.setTop (mkF me_ 200 #[.val (.int p0), .val (.long p1), .second, .val (.int p2), .val (.int (6 : Int32)), .val (.ref A_QUEUES), .val (.long (1000000 : Int64)), .second, .val (.int (1 : Int32)), .unset, .unset, .unset] []))
      refine gv (fun tQ kQ => XS.lload X64.here hx rfl (hb hby at_200) rfl kQ) ?_
      show G (T64.setTop (mkF me_ 202 #[.val (.int p0), .val (.long p1), .second, .val (.int p2), .val (.int (6 : Int32)), .val (.ref A_QUEUES), .val (.long (1000000 : Int64)), .second, .val (.int (1 : Int32)), .unset, .unset, .unset] [(.long (1000000 : Int64))]))
      refine gv (fun tQ kQ => XS.iloadN X64.here hx rfl (hb hby at_202) rfl kQ) ?_
      show G (T64.setTop (mkF me_ 203 #[.val (.int p0), .val (.long p1), .second, .val (.int p2), .val (.int (6 : Int32)), .val (.ref A_QUEUES), .val (.long (1000000 : Int64)), .second, .val (.int (1 : Int32)), .unset, .unset, .unset] [(.int p2), (.long (1000000 : Int64))]))
      refine gv (fun tQ kQ => XS.iconst X64.here hx rfl (hb hby at_203) kQ) ?_
      show G (T64.setTop (mkF me_ 204 #[.val (.int p0), .val (.long p1), .second, .val (.int p2), .val (.int (6 : Int32)), .val (.ref A_QUEUES), .val (.long (1000000 : Int64)), .second, .val (.int (1 : Int32)), .unset, .unset, .unset] [(.int (3 : Int32)), (.int p2), (.long (1000000 : Int64))]))
      refine gv (fun tQ kQ => XS.iand X64.here hx rfl (hb hby at_204) rfl kQ) ?_
      show G (T64.setTop (mkF me_ 205 #[.val (.int p0), .val (.long p1), .second, .val (.int p2), .val (.int (6 : Int32)), .val (.ref A_QUEUES), .val (.long (1000000 : Int64)), .second, .val (.int (1 : Int32)), .unset, .unset, .unset] [(.int (p2 &&& (3 : Int32))), (.long (1000000 : Int64))]))
      refine gv (fun tQ kQ => XS.iconst X64.here hx rfl (hb hby at_205) kQ) ?_
      show G (T64.setTop (mkF me_ 206 #[.val (.int p0), .val (.long p1), .second, .val (.int p2), .val (.int (6 : Int32)), .val (.ref A_QUEUES), .val (.long (1000000 : Int64)), .second, .val (.int (1 : Int32)), .unset, .unset, .unset] [(.int (2 : Int32)), (.int (p2 &&& (3 : Int32))), (.long (1000000 : Int64))]))
      refine gv (fun tQ kQ => XS.isub X64.here hx rfl (hb hby at_206) rfl kQ) ?_
      show G (T64.setTop (mkF me_ 207 #[.val (.int p0), .val (.long p1), .second, .val (.int p2), .val (.int (6 : Int32)), .val (.ref A_QUEUES), .val (.long (1000000 : Int64)), .second, .val (.int (1 : Int32)), .unset, .unset, .unset] [(.int ((p2 &&& (3 : Int32)) - (2 : Int32))), (.long (1000000 : Int64))]))
      refine gv (fun tQ kQ => XS.i2l X64.here hx rfl (hb hby at_207) rfl kQ) ?_
      show G (T64.setTop (mkF me_ 208 #[.val (.int p0), .val (.long p1), .second, .val (.int p2), .val (.int (6 : Int32)), .val (.ref A_QUEUES), .val (.long (1000000 : Int64)), .second, .val (.int (1 : Int32)), .unset, .unset, .unset] [(.long (((p2 &&& (3 : Int32)) - (2 : Int32)).toInt64)), (.long (1000000 : Int64))]))
      refine gv (fun tQ kQ => XS.ladd X64.here hx rfl (hb hby at_208) rfl kQ) ?_
      show G (T64.setTop (mkF me_ 209 #[.val (.int p0), .val (.long p1), .second, .val (.int p2), .val (.int (6 : Int32)), .val (.ref A_QUEUES), .val (.long (1000000 : Int64)), .second, .val (.int (1 : Int32)), .unset, .unset, .unset] [(.long ((1000000 : Int64) + (((p2 &&& (3 : Int32)) - (2 : Int32)).toInt64)))]))
      refine gv (fun tQ kQ => XS.lstore X64.here hx rfl (hb hby at_209) rfl (l' := #[.val (.int p0), .val (.long p1), .second, .val (.int p2), .val (.int (6 : Int32)), .val (.ref A_QUEUES), .val (.long (1000000 : Int64)), .second, .val (.int (1 : Int32)), .val (.long ((1000000 : Int64) + (((p2 &&& (3 : Int32)) - (2 : Int32)).toInt64))), .second, .unset]) rfl kQ) ?_
      show G (T64.setTop (mkF me_ 211 #[.val (.int p0), .val (.long p1), .second, .val (.int p2), .val (.int (6 : Int32)), .val (.ref A_QUEUES), .val (.long (1000000 : Int64)), .second, .val (.int (1 : Int32)), .val (.long ((1000000 : Int64) + (((p2 &&& (3 : Int32)) - (2 : Int32)).toInt64))), .second, .unset] []))
      refine gv (fun tQ kQ => XS.aload X64.here hx rfl (hb hby at_211) rfl rfl kQ) ?_
      show G (T64.setTop (mkF me_ 213 #[.val (.int p0), .val (.long p1), .second, .val (.int p2), .val (.int (6 : Int32)), .val (.ref A_QUEUES), .val (.long (1000000 : Int64)), .second, .val (.int (1 : Int32)), .val (.long ((1000000 : Int64) + (((p2 &&& (3 : Int32)) - (2 : Int32)).toInt64))), .second, .unset] [(.ref A_QUEUES)]))
      refine gv (fun tQ kQ => XS.lload X64.here hx rfl (hb hby at_213) rfl kQ) ?_
      show G (T64.setTop (mkF me_ 215 #[.val (.int p0), .val (.long p1), .second, .val (.int p2), .val (.int (6 : Int32)), .val (.ref A_QUEUES), .val (.long (1000000 : Int64)), .second, .val (.int (1 : Int32)), .val (.long ((1000000 : Int64) + (((p2 &&& (3 : Int32)) - (2 : Int32)).toInt64))), .second, .unset] [(.long ((1000000 : Int64) + (((p2 &&& (3 : Int32)) - (2 : Int32)).toInt64))), (.ref A_QUEUES)]))
      obtain ⟨cq70, kq70, q70a, q70b, q70c⟩ := isOf hZ eq64 (u15.ext O0.2)
      obtain ⟨_, _, ⟨T70, L70, k70, n70⟩, -, X70, ⟨Lc70, hQ70, l70, y70, z70⟩, st70⟩ := X64.virtualBack hx (y := (⟨"com/example/slot1/slot1/server/Limit", "allows", "(J)Z"⟩ : MethodName)) (z := (⟨"com/example/slot1/slot1/server/Limit", "allows", "(J)Z"⟩ : MethodName)) hown (mvT hZ (hw _ (List.mem_of_getElem? (i := 5) rfl))) (mvT hZ (hw _ (List.mem_of_getElem? (i := 6) rfl))) (notFace_of_selects (args := #[]) (mvT hZ (hw _ (List.mem_of_getElem? (i := 8) rfl)))) (mvT hZ (hw _ (List.mem_of_getElem? (i := 8) rfl))) (mvT hZ (hw _ (List.mem_of_getElem? (i := 7) rfl))) (by decide) (backOf (W := 0) (rm_allows l Z a0 hw [] A_QUEUES ((1000000 : Int64) + (((p2 &&& (3 : Int32)) - (2 : Int32)).toInt64)) (1000000 : Int64) h0 n0 O0 (u24.ext O0.2)) hZ (hw _ (List.mem_of_getElem? (i := 9) rfl)) (hw _ (List.mem_of_getElem? (i := 2) rfl)) (by decide) (by decide)) q70a q70c (g := (mkF me_ 215 #[.val (.int p0), .val (.long p1), .second, .val (.int p2), .val (.int (6 : Int32)), .val (.ref A_QUEUES), .val (.long (1000000 : Int64)), .second, .val (.int (1 : Int32)), .val (.long ((1000000 : Int64) + (((p2 &&& (3 : Int32)) - (2 : Int32)).toInt64))), .second, .unset] [(.long ((1000000 : Int64) + (((p2 &&& (3 : Int32)) - (2 : Int32)).toInt64))), (.ref A_QUEUES)])) rfl (by rw [hml]; rfl) (Steps.refl _) (argsL := [(.long ((1000000 : Int64) + (((p2 &&& (3 : Int32)) - (2 : Int32)).toInt64)))]) (rest := []) (lenOf pd_0 rfl) rfl (by show 2 * 0 + _ ≤ _; exact Nat.le_of_eq rfl) (hb hby at_215) (fun _ _ => ⟨rfl, eq64, (by decide : 0 + 0 ≤ _), (by decide : 0 + 0 ≤ _)⟩)
      dsimp only [Pt.U, Pt.locs, Pt.cells, Pt.slots] at X70 l70 y70 z70 st70 hQ70
      subst l70 y70 z70
      obtain ⟨rfl, Nq70, eq70⟩ := hQ70
      have N71 := Fr.app N65 Nq70
      by_cases hb72 : (1000000 : Int64) < ((1000000 : Int64) + (((p2 &&& (3 : Int32)) - (2 : Int32)).toInt64))
      · rw [if_pos hb72] at st70
        refine gv (fun tQ kQ => st70.trans kQ) ?_
        show G (T70.setTop (mkF me_ 218 #[.val (.int p0), .val (.long p1), .second, .val (.int p2), .val (.int (6 : Int32)), .val (.ref A_QUEUES), .val (.long (1000000 : Int64)), .second, .val (.int (1 : Int32)), .val (.long ((1000000 : Int64) + (((p2 &&& (3 : Int32)) - (2 : Int32)).toInt64))), .second, .unset] [(.int (0 : Int32))]))
        refine gv (fun tQ kQ => XS.lload X70.here hx rfl (hb hby at_218) rfl kQ) ?_
        show G (T70.setTop (mkF me_ 220 #[.val (.int p0), .val (.long p1), .second, .val (.int p2), .val (.int (6 : Int32)), .val (.ref A_QUEUES), .val (.long (1000000 : Int64)), .second, .val (.int (1 : Int32)), .val (.long ((1000000 : Int64) + (((p2 &&& (3 : Int32)) - (2 : Int32)).toInt64))), .second, .unset] [(.long ((1000000 : Int64) + (((p2 &&& (3 : Int32)) - (2 : Int32)).toInt64))), (.int (0 : Int32))]))
        refine gv (fun tQ kQ => XS.lload X70.here hx rfl (hb hby at_220) rfl kQ) ?_
        show G (T70.setTop (mkF me_ 222 #[.val (.int p0), .val (.long p1), .second, .val (.int p2), .val (.int (6 : Int32)), .val (.ref A_QUEUES), .val (.long (1000000 : Int64)), .second, .val (.int (1 : Int32)), .val (.long ((1000000 : Int64) + (((p2 &&& (3 : Int32)) - (2 : Int32)).toInt64))), .second, .unset] [(.long (1000000 : Int64)), (.long ((1000000 : Int64) + (((p2 &&& (3 : Int32)) - (2 : Int32)).toInt64))), (.int (0 : Int32))]))
        refine gv (fun tQ kQ => XS.lcmp X70.here hx rfl (hb hby at_222) rfl kQ) ?_
        show G (T70.setTop (mkF me_ 223 #[.val (.int p0), .val (.long p1), .second, .val (.int p2), .val (.int (6 : Int32)), .val (.ref A_QUEUES), .val (.long (1000000 : Int64)), .second, .val (.int (1 : Int32)), .val (.long ((1000000 : Int64) + (((p2 &&& (3 : Int32)) - (2 : Int32)).toInt64))), .second, .unset] [(.int (lcmpW ((1000000 : Int64) + (((p2 &&& (3 : Int32)) - (2 : Int32)).toInt64)) (1000000 : Int64))), (.int (0 : Int32))]))
        refine gv (fun tQ kQ => XS.ifYes X70.here hx rfl (pc0 := 223) (pc' := 230) rfl (hb hby at_223) rfl ((if0 _ _).trans (tlt ((lw_gt _ _).mpr hb72)).2.2.1) (by decide) (by decide) kQ) ?_
        show G (T70.setTop (mkF me_ 230 #[.val (.int p0), .val (.long p1), .second, .val (.int p2), .val (.int (6 : Int32)), .val (.ref A_QUEUES), .val (.long (1000000 : Int64)), .second, .val (.int (1 : Int32)), .val (.long ((1000000 : Int64) + (((p2 &&& (3 : Int32)) - (2 : Int32)).toInt64))), .second, .unset] [(.int (0 : Int32))]))
        refine gv (fun tQ kQ => XS.iconst X70.here hx rfl (hb hby at_230) kQ) ?_
        show G (T70.setTop (mkF me_ 231 #[.val (.int p0), .val (.long p1), .second, .val (.int p2), .val (.int (6 : Int32)), .val (.ref A_QUEUES), .val (.long (1000000 : Int64)), .second, .val (.int (1 : Int32)), .val (.long ((1000000 : Int64) + (((p2 &&& (3 : Int32)) - (2 : Int32)).toInt64))), .second, .unset] [(.int (0 : Int32)), (.int (0 : Int32))]))
        refine gv (fun tQ kQ => XS.icmpNo X70.here hx rfl (hb hby at_231) rfl (teq (by decide : (0 : Int32) = (0 : Int32))).2 kQ) ?_
        show G (T70.setTop (mkF me_ 234 #[.val (.int p0), .val (.long p1), .second, .val (.int p2), .val (.int (6 : Int32)), .val (.ref A_QUEUES), .val (.long (1000000 : Int64)), .second, .val (.int (1 : Int32)), .val (.long ((1000000 : Int64) + (((p2 &&& (3 : Int32)) - (2 : Int32)).toInt64))), .second, .unset] []))
        refine gv (fun tQ kQ => XS.iconst X70.here hx rfl (hb hby at_234) kQ) ?_
        show G (T70.setTop (mkF me_ 235 #[.val (.int p0), .val (.long p1), .second, .val (.int p2), .val (.int (6 : Int32)), .val (.ref A_QUEUES), .val (.long (1000000 : Int64)), .second, .val (.int (1 : Int32)), .val (.long ((1000000 : Int64) + (((p2 &&& (3 : Int32)) - (2 : Int32)).toInt64))), .second, .unset] [(.int (1 : Int32))]))
        refine gv (fun tQ kQ => XS.goto X70.here hx rfl (pc0 := 235) (pc' := 239) rfl (hb hby at_235) (by decide) (by decide) kQ) ?_
        show G (T70.setTop (mkF me_ 239 #[.val (.int p0), .val (.long p1), .second, .val (.int p2), .val (.int (6 : Int32)), .val (.ref A_QUEUES), .val (.long (1000000 : Int64)), .second, .val (.int (1 : Int32)), .val (.long ((1000000 : Int64) + (((p2 &&& (3 : Int32)) - (2 : Int32)).toInt64))), .second, .unset] [(.int (1 : Int32))]))
        refine gv (fun tQ kQ => XS.istore X70.here hx rfl (hb hby at_239) rfl (l' := #[.val (.int p0), .val (.long p1), .second, .val (.int p2), .val (.int (6 : Int32)), .val (.ref A_QUEUES), .val (.long (1000000 : Int64)), .second, .val (.int (1 : Int32)), .val (.long ((1000000 : Int64) + (((p2 &&& (3 : Int32)) - (2 : Int32)).toInt64))), .second, .val (.int (1 : Int32))]) rfl kQ) ?_
        show G (T70.setTop (mkF me_ 241 #[.val (.int p0), .val (.long p1), .second, .val (.int p2), .val (.int (6 : Int32)), .val (.ref A_QUEUES), .val (.long (1000000 : Int64)), .second, .val (.int (1 : Int32)), .val (.long ((1000000 : Int64) + (((p2 &&& (3 : Int32)) - (2 : Int32)).toInt64))), .second, .val (.int (1 : Int32))] []))
        refine gv (fun tQ kQ => XS.iload X70.here hx rfl (hb hby at_241) rfl kQ) ?_
        show G (T70.setTop (mkF me_ 243 #[.val (.int p0), .val (.long p1), .second, .val (.int p2), .val (.int (6 : Int32)), .val (.ref A_QUEUES), .val (.long (1000000 : Int64)), .second, .val (.int (1 : Int32)), .val (.long ((1000000 : Int64) + (((p2 &&& (3 : Int32)) - (2 : Int32)).toInt64))), .second, .val (.int (1 : Int32))] [(.int (1 : Int32))]))
        refine gv (fun tQ kQ => XS.ifNo X70.here hx rfl (hb hby at_243) rfl ((if0 _ _).trans (feq (by decide : ¬ ((1 : Int32) = (0 : Int32)))).1) kQ) ?_
        show G (T70.setTop (mkF me_ 246 #[.val (.int p0), .val (.long p1), .second, .val (.int p2), .val (.int (6 : Int32)), .val (.ref A_QUEUES), .val (.long (1000000 : Int64)), .second, .val (.int (1 : Int32)), .val (.long ((1000000 : Int64) + (((p2 &&& (3 : Int32)) - (2 : Int32)).toInt64))), .second, .val (.int (1 : Int32))] []))
        refine gv (fun tQ kQ => XS.iload X70.here hx rfl (hb hby at_246) rfl kQ) ?_
        show G (T70.setTop (mkF me_ 248 #[.val (.int p0), .val (.long p1), .second, .val (.int p2), .val (.int (6 : Int32)), .val (.ref A_QUEUES), .val (.long (1000000 : Int64)), .second, .val (.int (1 : Int32)), .val (.long ((1000000 : Int64) + (((p2 &&& (3 : Int32)) - (2 : Int32)).toInt64))), .second, .val (.int (1 : Int32))] [(.int (1 : Int32))]))
        refine gv (fun tQ kQ => XS.ifNo X70.here hx rfl (hb hby at_248) rfl ((if0 _ _).trans (feq (by decide : ¬ ((1 : Int32) = (0 : Int32)))).1) kQ) ?_
        show G (T70.setTop (mkF me_ 251 #[.val (.int p0), .val (.long p1), .second, .val (.int p2), .val (.int (6 : Int32)), .val (.ref A_QUEUES), .val (.long (1000000 : Int64)), .second, .val (.int (1 : Int32)), .val (.long ((1000000 : Int64) + (((p2 &&& (3 : Int32)) - (2 : Int32)).toInt64))), .second, .val (.int (1 : Int32))] []))
        refine gv (fun tQ kQ => XS.iconst X70.here hx rfl (hb hby at_251) kQ) ?_
        show G (T70.setTop (mkF me_ 252 #[.val (.int p0), .val (.long p1), .second, .val (.int p2), .val (.int (6 : Int32)), .val (.ref A_QUEUES), .val (.long (1000000 : Int64)), .second, .val (.int (1 : Int32)), .val (.long ((1000000 : Int64) + (((p2 &&& (3 : Int32)) - (2 : Int32)).toInt64))), .second, .val (.int (1 : Int32))] [(.int (1 : Int32))]))
        refine gv (fun tQ kQ => XS.goto X70.here hx rfl (pc0 := 252) (pc' := 256) rfl (hb hby at_252) (by decide) (by decide) kQ) ?_
        show G (T70.setTop (mkF me_ 256 #[.val (.int p0), .val (.long p1), .second, .val (.int p2), .val (.int (6 : Int32)), .val (.ref A_QUEUES), .val (.long (1000000 : Int64)), .second, .val (.int (1 : Int32)), .val (.long ((1000000 : Int64) + (((p2 &&& (3 : Int32)) - (2 : Int32)).toInt64))), .second, .val (.int (1 : Int32))] [(.int (1 : Int32))]))
        refine gf _ (own_ret X70 Bd.notSynchronized (v := some (.int (1 : Int32))) (fun h => by rw [Bd.returns] at h; cases h) ?_ (by decide) (by decide) (fun fs hr => retN X70 hx (t := .boolean) Bd.returns (by simp) (hb hby at_256) hr))
        show Q0 Z p0 p1 p2 A_TOPICS A_ROUTE_QUEUES A_GROUPS A_MEMBERS A_GROUP_MEMBERS A_MEMBER_TOPICS A_QUEUES A_OFFSETS A_OPTIONS_BYTES h0 n0 _ T70.heap _
        rw [eq70]
        exact ⟨rfl, N71⟩
      · skip
        rw [if_neg hb72] at st70
        refine gv (fun tQ kQ => st70.trans kQ) ?_
        show G (T70.setTop (mkF me_ 218 #[.val (.int p0), .val (.long p1), .second, .val (.int p2), .val (.int (6 : Int32)), .val (.ref A_QUEUES), .val (.long (1000000 : Int64)), .second, .val (.int (1 : Int32)), .val (.long ((1000000 : Int64) + (((p2 &&& (3 : Int32)) - (2 : Int32)).toInt64))), .second, .unset] [(.int (1 : Int32))]))
        refine gv (fun tQ kQ => XS.lload X70.here hx rfl (hb hby at_218) rfl kQ) ?_
        show G (T70.setTop (mkF me_ 220 #[.val (.int p0), .val (.long p1), .second, .val (.int p2), .val (.int (6 : Int32)), .val (.ref A_QUEUES), .val (.long (1000000 : Int64)), .second, .val (.int (1 : Int32)), .val (.long ((1000000 : Int64) + (((p2 &&& (3 : Int32)) - (2 : Int32)).toInt64))), .second, .unset] [(.long ((1000000 : Int64) + (((p2 &&& (3 : Int32)) - (2 : Int32)).toInt64))), (.int (1 : Int32))]))
        refine gv (fun tQ kQ => XS.lload X70.here hx rfl (hb hby at_220) rfl kQ) ?_
        show G (T70.setTop (mkF me_ 222 #[.val (.int p0), .val (.long p1), .second, .val (.int p2), .val (.int (6 : Int32)), .val (.ref A_QUEUES), .val (.long (1000000 : Int64)), .second, .val (.int (1 : Int32)), .val (.long ((1000000 : Int64) + (((p2 &&& (3 : Int32)) - (2 : Int32)).toInt64))), .second, .unset] [(.long (1000000 : Int64)), (.long ((1000000 : Int64) + (((p2 &&& (3 : Int32)) - (2 : Int32)).toInt64))), (.int (1 : Int32))]))
        refine gv (fun tQ kQ => XS.lcmp X70.here hx rfl (hb hby at_222) rfl kQ) ?_
        show G (T70.setTop (mkF me_ 223 #[.val (.int p0), .val (.long p1), .second, .val (.int p2), .val (.int (6 : Int32)), .val (.ref A_QUEUES), .val (.long (1000000 : Int64)), .second, .val (.int (1 : Int32)), .val (.long ((1000000 : Int64) + (((p2 &&& (3 : Int32)) - (2 : Int32)).toInt64))), .second, .unset] [(.int (lcmpW ((1000000 : Int64) + (((p2 &&& (3 : Int32)) - (2 : Int32)).toInt64)) (1000000 : Int64))), (.int (1 : Int32))]))
        refine gv (fun tQ kQ => XS.ifNo X70.here hx rfl (hb hby at_223) rfl ((if0 _ _).trans (flt (mt (lw_gt _ _).mp hb72)).2.2.1) kQ) ?_
        show G (T70.setTop (mkF me_ 226 #[.val (.int p0), .val (.long p1), .second, .val (.int p2), .val (.int (6 : Int32)), .val (.ref A_QUEUES), .val (.long (1000000 : Int64)), .second, .val (.int (1 : Int32)), .val (.long ((1000000 : Int64) + (((p2 &&& (3 : Int32)) - (2 : Int32)).toInt64))), .second, .unset] [(.int (1 : Int32))]))
        refine gv (fun tQ kQ => XS.iconst X70.here hx rfl (hb hby at_226) kQ) ?_
        show G (T70.setTop (mkF me_ 227 #[.val (.int p0), .val (.long p1), .second, .val (.int p2), .val (.int (6 : Int32)), .val (.ref A_QUEUES), .val (.long (1000000 : Int64)), .second, .val (.int (1 : Int32)), .val (.long ((1000000 : Int64) + (((p2 &&& (3 : Int32)) - (2 : Int32)).toInt64))), .second, .unset] [(.int (1 : Int32)), (.int (1 : Int32))]))
        refine gv (fun tQ kQ => XS.goto X70.here hx rfl (pc0 := 227) (pc' := 231) rfl (hb hby at_227) (by decide) (by decide) kQ) ?_
        show G (T70.setTop (mkF me_ 231 #[.val (.int p0), .val (.long p1), .second, .val (.int p2), .val (.int (6 : Int32)), .val (.ref A_QUEUES), .val (.long (1000000 : Int64)), .second, .val (.int (1 : Int32)), .val (.long ((1000000 : Int64) + (((p2 &&& (3 : Int32)) - (2 : Int32)).toInt64))), .second, .unset] [(.int (1 : Int32)), (.int (1 : Int32))]))
        refine gv (fun tQ kQ => XS.icmpNo X70.here hx rfl (hb hby at_231) rfl (teq (by decide : (1 : Int32) = (1 : Int32))).2 kQ) ?_
        show G (T70.setTop (mkF me_ 234 #[.val (.int p0), .val (.long p1), .second, .val (.int p2), .val (.int (6 : Int32)), .val (.ref A_QUEUES), .val (.long (1000000 : Int64)), .second, .val (.int (1 : Int32)), .val (.long ((1000000 : Int64) + (((p2 &&& (3 : Int32)) - (2 : Int32)).toInt64))), .second, .unset] []))
        refine gv (fun tQ kQ => XS.iconst X70.here hx rfl (hb hby at_234) kQ) ?_
        show G (T70.setTop (mkF me_ 235 #[.val (.int p0), .val (.long p1), .second, .val (.int p2), .val (.int (6 : Int32)), .val (.ref A_QUEUES), .val (.long (1000000 : Int64)), .second, .val (.int (1 : Int32)), .val (.long ((1000000 : Int64) + (((p2 &&& (3 : Int32)) - (2 : Int32)).toInt64))), .second, .unset] [(.int (1 : Int32))]))
        refine gv (fun tQ kQ => XS.goto X70.here hx rfl (pc0 := 235) (pc' := 239) rfl (hb hby at_235) (by decide) (by decide) kQ) ?_
        show G (T70.setTop (mkF me_ 239 #[.val (.int p0), .val (.long p1), .second, .val (.int p2), .val (.int (6 : Int32)), .val (.ref A_QUEUES), .val (.long (1000000 : Int64)), .second, .val (.int (1 : Int32)), .val (.long ((1000000 : Int64) + (((p2 &&& (3 : Int32)) - (2 : Int32)).toInt64))), .second, .unset] [(.int (1 : Int32))]))
        refine gv (fun tQ kQ => XS.istore X70.here hx rfl (hb hby at_239) rfl (l' := #[.val (.int p0), .val (.long p1), .second, .val (.int p2), .val (.int (6 : Int32)), .val (.ref A_QUEUES), .val (.long (1000000 : Int64)), .second, .val (.int (1 : Int32)), .val (.long ((1000000 : Int64) + (((p2 &&& (3 : Int32)) - (2 : Int32)).toInt64))), .second, .val (.int (1 : Int32))]) rfl kQ) ?_
        show G (T70.setTop (mkF me_ 241 #[.val (.int p0), .val (.long p1), .second, .val (.int p2), .val (.int (6 : Int32)), .val (.ref A_QUEUES), .val (.long (1000000 : Int64)), .second, .val (.int (1 : Int32)), .val (.long ((1000000 : Int64) + (((p2 &&& (3 : Int32)) - (2 : Int32)).toInt64))), .second, .val (.int (1 : Int32))] []))
        refine gv (fun tQ kQ => XS.iload X70.here hx rfl (hb hby at_241) rfl kQ) ?_
        show G (T70.setTop (mkF me_ 243 #[.val (.int p0), .val (.long p1), .second, .val (.int p2), .val (.int (6 : Int32)), .val (.ref A_QUEUES), .val (.long (1000000 : Int64)), .second, .val (.int (1 : Int32)), .val (.long ((1000000 : Int64) + (((p2 &&& (3 : Int32)) - (2 : Int32)).toInt64))), .second, .val (.int (1 : Int32))] [(.int (1 : Int32))]))
        refine gv (fun tQ kQ => XS.ifNo X70.here hx rfl (hb hby at_243) rfl ((if0 _ _).trans (feq (by decide : ¬ ((1 : Int32) = (0 : Int32)))).1) kQ) ?_
        show G (T70.setTop (mkF me_ 246 #[.val (.int p0), .val (.long p1), .second, .val (.int p2), .val (.int (6 : Int32)), .val (.ref A_QUEUES), .val (.long (1000000 : Int64)), .second, .val (.int (1 : Int32)), .val (.long ((1000000 : Int64) + (((p2 &&& (3 : Int32)) - (2 : Int32)).toInt64))), .second, .val (.int (1 : Int32))] []))
        refine gv (fun tQ kQ => XS.iload X70.here hx rfl (hb hby at_246) rfl kQ) ?_
        show G (T70.setTop (mkF me_ 248 #[.val (.int p0), .val (.long p1), .second, .val (.int p2), .val (.int (6 : Int32)), .val (.ref A_QUEUES), .val (.long (1000000 : Int64)), .second, .val (.int (1 : Int32)), .val (.long ((1000000 : Int64) + (((p2 &&& (3 : Int32)) - (2 : Int32)).toInt64))), .second, .val (.int (1 : Int32))] [(.int (1 : Int32))]))
        refine gv (fun tQ kQ => XS.ifNo X70.here hx rfl (hb hby at_248) rfl ((if0 _ _).trans (feq (by decide : ¬ ((1 : Int32) = (0 : Int32)))).1) kQ) ?_
        show G (T70.setTop (mkF me_ 251 #[.val (.int p0), .val (.long p1), .second, .val (.int p2), .val (.int (6 : Int32)), .val (.ref A_QUEUES), .val (.long (1000000 : Int64)), .second, .val (.int (1 : Int32)), .val (.long ((1000000 : Int64) + (((p2 &&& (3 : Int32)) - (2 : Int32)).toInt64))), .second, .val (.int (1 : Int32))] []))
        refine gv (fun tQ kQ => XS.iconst X70.here hx rfl (hb hby at_251) kQ) ?_
        show G (T70.setTop (mkF me_ 252 #[.val (.int p0), .val (.long p1), .second, .val (.int p2), .val (.int (6 : Int32)), .val (.ref A_QUEUES), .val (.long (1000000 : Int64)), .second, .val (.int (1 : Int32)), .val (.long ((1000000 : Int64) + (((p2 &&& (3 : Int32)) - (2 : Int32)).toInt64))), .second, .val (.int (1 : Int32))] [(.int (1 : Int32))]))
        refine gv (fun tQ kQ => XS.goto X70.here hx rfl (pc0 := 252) (pc' := 256) rfl (hb hby at_252) (by decide) (by decide) kQ) ?_
        show G (T70.setTop (mkF me_ 256 #[.val (.int p0), .val (.long p1), .second, .val (.int p2), .val (.int (6 : Int32)), .val (.ref A_QUEUES), .val (.long (1000000 : Int64)), .second, .val (.int (1 : Int32)), .val (.long ((1000000 : Int64) + (((p2 &&& (3 : Int32)) - (2 : Int32)).toInt64))), .second, .val (.int (1 : Int32))] [(.int (1 : Int32))]))
        refine gf _ (own_ret X70 Bd.notSynchronized (v := some (.int (1 : Int32))) (fun h => by rw [Bd.returns] at h; cases h) ?_ (by decide) (by decide) (fun fs hr => retN X70 hx (t := .boolean) Bd.returns (by simp) (hb hby at_256) hr))
        show Q0 Z p0 p1 p2 A_TOPICS A_ROUTE_QUEUES A_GROUPS A_MEMBERS A_GROUP_MEMBERS A_MEMBER_TOPICS A_QUEUES A_OFFSETS A_OPTIONS_BYTES h0 n0 _ T70.heap _
        rw [eq70]
        exact ⟨rfl, N71⟩
  · rw [q]
    show G (s₁.setTop (mkF me_ 9 #[.val (.int p0), .val (.long p1), .second, .val (.int p2), .val (.int (7 : Int32)), .unset, .unset, .unset, .unset, .unset, .unset, .unset] []))
    refine gv (fun tQ kQ => XS.iload X0.here hx rfl (hb hby at_9) rfl kQ) ?_
    show G (s₁.setTop (mkF me_ 11 #[.val (.int p0), .val (.long p1), .second, .val (.int p2), .val (.int (7 : Int32)), .unset, .unset, .unset, .unset, .unset, .unset, .unset] [(.int (7 : Int32))]))
    refine gv (fun tQ kQ => XS.ifYes X0.here hx rfl (pc0 := 11) (pc' := 27) rfl (hb hby at_11) rfl ((if0 _ _).trans (feq (by decide : ¬ ((7 : Int32) = (0 : Int32)))).2) (by decide) (by decide) kQ) ?_
    show G (s₁.setTop (mkF me_ 27 #[.val (.int p0), .val (.long p1), .second, .val (.int p2), .val (.int (7 : Int32)), .unset, .unset, .unset, .unset, .unset, .unset, .unset] []))
    refine gv (fun tQ kQ => XS.iload X0.here hx rfl (hb hby at_27) rfl kQ) ?_
    show G (s₁.setTop (mkF me_ 29 #[.val (.int p0), .val (.long p1), .second, .val (.int p2), .val (.int (7 : Int32)), .unset, .unset, .unset, .unset, .unset, .unset, .unset] [(.int (7 : Int32))]))
    refine gv (fun tQ kQ => XS.iconst X0.here hx rfl (hb hby at_29) kQ) ?_
    show G (s₁.setTop (mkF me_ 30 #[.val (.int p0), .val (.long p1), .second, .val (.int p2), .val (.int (7 : Int32)), .unset, .unset, .unset, .unset, .unset, .unset, .unset] [(.int (1 : Int32)), (.int (7 : Int32))]))
    refine gv (fun tQ kQ => XS.icmpYes X0.here hx rfl (pc0 := 30) (pc' := 46) rfl (hb hby at_30) rfl (feq (by decide : ¬ ((7 : Int32) = (1 : Int32)))).2 (by decide) (by decide) kQ) ?_
    show G (s₁.setTop (mkF me_ 46 #[.val (.int p0), .val (.long p1), .second, .val (.int p2), .val (.int (7 : Int32)), .unset, .unset, .unset, .unset, .unset, .unset, .unset] []))
    refine gv (fun tQ kQ => XS.iload X0.here hx rfl (hb hby at_46) rfl kQ) ?_
    show G (s₁.setTop (mkF me_ 48 #[.val (.int p0), .val (.long p1), .second, .val (.int p2), .val (.int (7 : Int32)), .unset, .unset, .unset, .unset, .unset, .unset, .unset] [(.int (7 : Int32))]))
    refine gv (fun tQ kQ => XS.iconst X0.here hx rfl (hb hby at_48) kQ) ?_
    show G (s₁.setTop (mkF me_ 49 #[.val (.int p0), .val (.long p1), .second, .val (.int p2), .val (.int (7 : Int32)), .unset, .unset, .unset, .unset, .unset, .unset, .unset] [(.int (2 : Int32)), (.int (7 : Int32))]))
    refine gv (fun tQ kQ => XS.icmpYes X0.here hx rfl (pc0 := 49) (pc' := 65) rfl (hb hby at_49) rfl (feq (by decide : ¬ ((7 : Int32) = (2 : Int32)))).2 (by decide) (by decide) kQ) ?_
    show G (s₁.setTop (mkF me_ 65 #[.val (.int p0), .val (.long p1), .second, .val (.int p2), .val (.int (7 : Int32)), .unset, .unset, .unset, .unset, .unset, .unset, .unset] []))
    refine gv (fun tQ kQ => XS.iload X0.here hx rfl (hb hby at_65) rfl kQ) ?_
    show G (s₁.setTop (mkF me_ 67 #[.val (.int p0), .val (.long p1), .second, .val (.int p2), .val (.int (7 : Int32)), .unset, .unset, .unset, .unset, .unset, .unset, .unset] [(.int (7 : Int32))]))
    refine gv (fun tQ kQ => XS.iconst X0.here hx rfl (hb hby at_67) kQ) ?_
    show G (s₁.setTop (mkF me_ 68 #[.val (.int p0), .val (.long p1), .second, .val (.int p2), .val (.int (7 : Int32)), .unset, .unset, .unset, .unset, .unset, .unset, .unset] [(.int (3 : Int32)), (.int (7 : Int32))]))
    refine gv (fun tQ kQ => XS.icmpYes X0.here hx rfl (pc0 := 68) (pc' := 84) rfl (hb hby at_68) rfl (feq (by decide : ¬ ((7 : Int32) = (3 : Int32)))).2 (by decide) (by decide) kQ) ?_
    show G (s₁.setTop (mkF me_ 84 #[.val (.int p0), .val (.long p1), .second, .val (.int p2), .val (.int (7 : Int32)), .unset, .unset, .unset, .unset, .unset, .unset, .unset] []))
    refine gv (fun tQ kQ => XS.iload X0.here hx rfl (hb hby at_84) rfl kQ) ?_
    show G (s₁.setTop (mkF me_ 86 #[.val (.int p0), .val (.long p1), .second, .val (.int p2), .val (.int (7 : Int32)), .unset, .unset, .unset, .unset, .unset, .unset, .unset] [(.int (7 : Int32))]))
    refine gv (fun tQ kQ => XS.iconst X0.here hx rfl (hb hby at_86) kQ) ?_
    show G (s₁.setTop (mkF me_ 87 #[.val (.int p0), .val (.long p1), .second, .val (.int p2), .val (.int (7 : Int32)), .unset, .unset, .unset, .unset, .unset, .unset, .unset] [(.int (4 : Int32)), (.int (7 : Int32))]))
    refine gv (fun tQ kQ => XS.icmpYes X0.here hx rfl (pc0 := 87) (pc' := 103) rfl (hb hby at_87) rfl (feq (by decide : ¬ ((7 : Int32) = (4 : Int32)))).2 (by decide) (by decide) kQ) ?_
    show G (s₁.setTop (mkF me_ 103 #[.val (.int p0), .val (.long p1), .second, .val (.int p2), .val (.int (7 : Int32)), .unset, .unset, .unset, .unset, .unset, .unset, .unset] []))
    refine gv (fun tQ kQ => XS.iload X0.here hx rfl (hb hby at_103) rfl kQ) ?_
    show G (s₁.setTop (mkF me_ 105 #[.val (.int p0), .val (.long p1), .second, .val (.int p2), .val (.int (7 : Int32)), .unset, .unset, .unset, .unset, .unset, .unset, .unset] [(.int (7 : Int32))]))
    refine gv (fun tQ kQ => XS.iconst X0.here hx rfl (hb hby at_105) kQ) ?_
    show G (s₁.setTop (mkF me_ 106 #[.val (.int p0), .val (.long p1), .second, .val (.int p2), .val (.int (7 : Int32)), .unset, .unset, .unset, .unset, .unset, .unset, .unset] [(.int (5 : Int32)), (.int (7 : Int32))]))
    refine gv (fun tQ kQ => XS.icmpYes X0.here hx rfl (pc0 := 106) (pc' := 122) rfl (hb hby at_106) rfl (feq (by decide : ¬ ((7 : Int32) = (5 : Int32)))).2 (by decide) (by decide) kQ) ?_
    show G (s₁.setTop (mkF me_ 122 #[.val (.int p0), .val (.long p1), .second, .val (.int p2), .val (.int (7 : Int32)), .unset, .unset, .unset, .unset, .unset, .unset, .unset] []))
    refine gv (fun tQ kQ => XS.iload X0.here hx rfl (hb hby at_122) rfl kQ) ?_
    show G (s₁.setTop (mkF me_ 124 #[.val (.int p0), .val (.long p1), .second, .val (.int p2), .val (.int (7 : Int32)), .unset, .unset, .unset, .unset, .unset, .unset, .unset] [(.int (7 : Int32))]))
    refine gv (fun tQ kQ => XS.bipush X0.here hx rfl (hb hby at_124) kQ) ?_
    show G (s₁.setTop (mkF me_ 126 #[.val (.int p0), .val (.long p1), .second, .val (.int p2), .val (.int (7 : Int32)), .unset, .unset, .unset, .unset, .unset, .unset, .unset] [(.int (6 : Int32)), (.int (7 : Int32))]))
    refine gv (fun tQ kQ => XS.icmpYes X0.here hx rfl (pc0 := 126) (pc' := 142) rfl (hb hby at_126) rfl (feq (by decide : ¬ ((7 : Int32) = (6 : Int32)))).2 (by decide) (by decide) kQ) ?_
    show G (s₁.setTop (mkF me_ 142 #[.val (.int p0), .val (.long p1), .second, .val (.int p2), .val (.int (7 : Int32)), .unset, .unset, .unset, .unset, .unset, .unset, .unset] []))
    refine gv (fun tQ kQ => XS.iload X0.here hx rfl (hb hby at_142) rfl kQ) ?_
    show G (s₁.setTop (mkF me_ 144 #[.val (.int p0), .val (.long p1), .second, .val (.int p2), .val (.int (7 : Int32)), .unset, .unset, .unset, .unset, .unset, .unset, .unset] [(.int (7 : Int32))]))
    refine gv (fun tQ kQ => XS.bipush X0.here hx rfl (hb hby at_144) kQ) ?_
    show G (s₁.setTop (mkF me_ 146 #[.val (.int p0), .val (.long p1), .second, .val (.int p2), .val (.int (7 : Int32)), .unset, .unset, .unset, .unset, .unset, .unset, .unset] [(.int (7 : Int32)), (.int (7 : Int32))]))
    refine gv (fun tQ kQ => XS.icmpNo X0.here hx rfl (hb hby at_146) rfl (teq (by decide : (7 : Int32) = (7 : Int32))).2 kQ) ?_
    show G (s₁.setTop (mkF me_ 149 #[.val (.int p0), .val (.long p1), .second, .val (.int p2), .val (.int (7 : Int32)), .unset, .unset, .unset, .unset, .unset, .unset, .unset] []))
    obtain ⟨T73, X73, e73, st73⟩ := getS2 X0 hx hZ hown (host := "") (Or.inl (hw _ (List.mem_of_getElem? (i := 14) rfl))) Via.refl e0 (u7.ext O0.2) (g := (mkF me_ 149 #[.val (.int p0), .val (.long p1), .second, .val (.int p2), .val (.int (7 : Int32)), .unset, .unset, .unset, .unset, .unset, .unset, .unset] [])) rfl (hb hby at_149)
    refine gv st73 ?_
    show G (T73.setTop (mkF me_ 152 #[.val (.int p0), .val (.long p1), .second, .val (.int p2), .val (.int (7 : Int32)), .unset, .unset, .unset, .unset, .unset, .unset, .unset] [(.ref A_OFFSETS)]))
    refine gv (fun tQ kQ => XS.astore X73.here hx rfl (hb hby at_152) rfl rfl (l' := #[.val (.int p0), .val (.long p1), .second, .val (.int p2), .val (.int (7 : Int32)), .val (.ref A_OFFSETS), .unset, .unset, .unset, .unset, .unset, .unset]) rfl kQ) ?_
    show G (T73.setTop (mkF me_ 154 #[.val (.int p0), .val (.long p1), .second, .val (.int p2), .val (.int (7 : Int32)), .val (.ref A_OFFSETS), .unset, .unset, .unset, .unset, .unset, .unset] []))
    refine gv (X73.ldc2Long hx hown (mvT hZ (hw _ (List.mem_of_getElem? (i := 16) rfl))) (g := (mkF me_ 154 #[.val (.int p0), .val (.long p1), .second, .val (.int p2), .val (.int (7 : Int32)), .val (.ref A_OFFSETS), .unset, .unset, .unset, .unset, .unset, .unset] [])) rfl (hb hby at_154)) ?_
    show G (T73.setTop (mkF me_ 157 #[.val (.int p0), .val (.long p1), .second, .val (.int p2), .val (.int (7 : Int32)), .val (.ref A_OFFSETS), .unset, .unset, .unset, .unset, .unset, .unset] [(.long (1000000 : Int64))]))
    refine gv (fun tQ kQ => XS.lstore X73.here hx rfl (hb hby at_157) rfl (l' := #[.val (.int p0), .val (.long p1), .second, .val (.int p2), .val (.int (7 : Int32)), .val (.ref A_OFFSETS), .val (.long (1000000 : Int64)), .second, .unset, .unset, .unset, .unset]) rfl kQ) ?_
    show G (T73.setTop (mkF me_ 159 #[.val (.int p0), .val (.long p1), .second, .val (.int p2), .val (.int (7 : Int32)), .val (.ref A_OFFSETS), .val (.long (1000000 : Int64)), .second, .unset, .unset, .unset, .unset] []))
    refine gv (fun tQ kQ => XS.goto X73.here hx rfl (pc0 := 159) (pc' := 172) rfl (hb hby at_159) (by decide) (by decide) kQ) ?_
    show G (T73.setTop (mkF me_ 172 #[.val (.int p0), .val (.long p1), .second, .val (.int p2), .val (.int (7 : Int32)), .val (.ref A_OFFSETS), .val (.long (1000000 : Int64)), .second, .unset, .unset, .unset, .unset] []))
    refine gv (fun tQ kQ => XS.aload X73.here hx rfl (hb hby at_172) rfl rfl kQ) ?_
    show G (T73.setTop (mkF me_ 174 #[.val (.int p0), .val (.long p1), .second, .val (.int p2), .val (.int (7 : Int32)), .val (.ref A_OFFSETS), .val (.long (1000000 : Int64)), .second, .unset, .unset, .unset, .unset] [(.ref A_OFFSETS)]))
    refine gv (fun tQ kQ => XS.lloadN X73.here hx rfl (hb hby at_174) rfl kQ) ?_
    show G (T73.setTop (mkF me_ 175 #[.val (.int p0), .val (.long p1), .second, .val (.int p2), .val (.int (7 : Int32)), .val (.ref A_OFFSETS), .val (.long (1000000 : Int64)), .second, .unset, .unset, .unset, .unset] [(.long p1), (.ref A_OFFSETS)]))
    obtain ⟨cq74, kq74, q74a, q74b, q74c⟩ := isOf hZ e73 (u16.ext O0.2)
    obtain ⟨_, _, ⟨T74, L74, k74, n74⟩, -, X74, ⟨Lc74, hQ74, l74, y74, z74⟩, st74⟩ := X73.virtualBack hx (y := (⟨"com/example/slot1/slot1/server/Limit", "allows", "(J)Z"⟩ : MethodName)) (z := (⟨"com/example/slot1/slot1/server/Limit", "allows", "(J)Z"⟩ : MethodName)) hown (mvT hZ (hw _ (List.mem_of_getElem? (i := 5) rfl))) (mvT hZ (hw _ (List.mem_of_getElem? (i := 6) rfl))) (notFace_of_selects (args := #[]) (mvT hZ (hw _ (List.mem_of_getElem? (i := 8) rfl)))) (mvT hZ (hw _ (List.mem_of_getElem? (i := 8) rfl))) (mvT hZ (hw _ (List.mem_of_getElem? (i := 7) rfl))) (by decide) (backOf (W := 0) (rm_allows l Z a0 hw [] A_OFFSETS p1 (1000000 : Int64) h0 n0 O0 (u25.ext O0.2)) hZ (hw _ (List.mem_of_getElem? (i := 9) rfl)) (hw _ (List.mem_of_getElem? (i := 2) rfl)) (by decide) (by decide)) q74a q74c (g := (mkF me_ 175 #[.val (.int p0), .val (.long p1), .second, .val (.int p2), .val (.int (7 : Int32)), .val (.ref A_OFFSETS), .val (.long (1000000 : Int64)), .second, .unset, .unset, .unset, .unset] [(.long p1), (.ref A_OFFSETS)])) rfl (by rw [hml]; rfl) (Steps.refl _) (argsL := [(.long p1)]) (rest := []) (lenOf pd_0 rfl) rfl (by show 2 * 0 + _ ≤ _; exact Nat.le_of_eq rfl) (hb hby at_175) (fun _ _ => ⟨rfl, e73, (by decide : 0 + 0 ≤ _), (by decide : 0 + 0 ≤ _)⟩)
    dsimp only [Pt.U, Pt.locs, Pt.cells, Pt.slots] at X74 l74 y74 z74 st74 hQ74
    subst l74 y74 z74
    obtain ⟨rfl, Nq74, eq74⟩ := hQ74
    have N75 := Fr.app N0 Nq74
    by_cases hb76 : (1000000 : Int64) < p1
    · rw [if_pos hb76] at st74
      refine gv (fun tQ kQ => st74.trans kQ) ?_
      show G (T74.setTop (mkF me_ 178 #[.val (.int p0), .val (.long p1), .second, .val (.int p2), .val (.int (7 : Int32)), .val (.ref A_OFFSETS), .val (.long (1000000 : Int64)), .second, .unset, .unset, .unset, .unset] [(.int (0 : Int32))]))
      refine gv (fun tQ kQ => XS.lloadN X74.here hx rfl (hb hby at_178) rfl kQ) ?_
      show G (T74.setTop (mkF me_ 179 #[.val (.int p0), .val (.long p1), .second, .val (.int p2), .val (.int (7 : Int32)), .val (.ref A_OFFSETS), .val (.long (1000000 : Int64)), .second, .unset, .unset, .unset, .unset] [(.long p1), (.int (0 : Int32))]))
      refine gv (fun tQ kQ => XS.lload X74.here hx rfl (hb hby at_179) rfl kQ) ?_
      show G (T74.setTop (mkF me_ 181 #[.val (.int p0), .val (.long p1), .second, .val (.int p2), .val (.int (7 : Int32)), .val (.ref A_OFFSETS), .val (.long (1000000 : Int64)), .second, .unset, .unset, .unset, .unset] [(.long (1000000 : Int64)), (.long p1), (.int (0 : Int32))]))
      refine gv (fun tQ kQ => XS.lcmp X74.here hx rfl (hb hby at_181) rfl kQ) ?_
      show G (T74.setTop (mkF me_ 182 #[.val (.int p0), .val (.long p1), .second, .val (.int p2), .val (.int (7 : Int32)), .val (.ref A_OFFSETS), .val (.long (1000000 : Int64)), .second, .unset, .unset, .unset, .unset] [(.int (lcmpW p1 (1000000 : Int64))), (.int (0 : Int32))]))
      refine gv (fun tQ kQ => XS.ifYes X74.here hx rfl (pc0 := 182) (pc' := 189) rfl (hb hby at_182) rfl ((if0 _ _).trans (tlt ((lw_gt _ _).mpr hb76)).2.2.1) (by decide) (by decide) kQ) ?_
      show G (T74.setTop (mkF me_ 189 #[.val (.int p0), .val (.long p1), .second, .val (.int p2), .val (.int (7 : Int32)), .val (.ref A_OFFSETS), .val (.long (1000000 : Int64)), .second, .unset, .unset, .unset, .unset] [(.int (0 : Int32))]))
      refine gv (fun tQ kQ => XS.iconst X74.here hx rfl (hb hby at_189) kQ) ?_
      show G (T74.setTop (mkF me_ 190 #[.val (.int p0), .val (.long p1), .second, .val (.int p2), .val (.int (7 : Int32)), .val (.ref A_OFFSETS), .val (.long (1000000 : Int64)), .second, .unset, .unset, .unset, .unset] [(.int (0 : Int32)), (.int (0 : Int32))]))
      refine gv (fun tQ kQ => XS.icmpNo X74.here hx rfl (hb hby at_190) rfl (teq (by decide : (0 : Int32) = (0 : Int32))).2 kQ) ?_
      show G (T74.setTop (mkF me_ 193 #[.val (.int p0), .val (.long p1), .second, .val (.int p2), .val (.int (7 : Int32)), .val (.ref A_OFFSETS), .val (.long (1000000 : Int64)), .second, .unset, .unset, .unset, .unset] []))
      refine gv (fun tQ kQ => XS.iconst X74.here hx rfl (hb hby at_193) kQ) ?_
      show G (T74.setTop (mkF me_ 194 #[.val (.int p0), .val (.long p1), .second, .val (.int p2), .val (.int (7 : Int32)), .val (.ref A_OFFSETS), .val (.long (1000000 : Int64)), .second, .unset, .unset, .unset, .unset] [(.int (1 : Int32))]))
      refine gv (fun tQ kQ => XS.goto X74.here hx rfl (pc0 := 194) (pc' := 198) rfl (hb hby at_194) (by decide) (by decide) kQ) ?_
      show G (T74.setTop (mkF me_ 198 #[.val (.int p0), .val (.long p1), .second, .val (.int p2), .val (.int (7 : Int32)), .val (.ref A_OFFSETS), .val (.long (1000000 : Int64)), .second, .unset, .unset, .unset, .unset] [(.int (1 : Int32))]))
      refine gv (fun tQ kQ => XS.istore X74.here hx rfl (hb hby at_198) rfl (l' := #[.val (.int p0), .val (.long p1), .second, .val (.int p2), .val (.int (7 : Int32)), .val (.ref A_OFFSETS), .val (.long (1000000 : Int64)), .second, .val (.int (1 : Int32)), .unset, .unset, .unset]) rfl kQ) ?_
      show G (T74.setTop (mkF me_ 200 #[.val (.int p0), .val (.long p1), .second, .val (.int p2), .val (.int (7 : Int32)), .val (.ref A_OFFSETS), .val (.long (1000000 : Int64)), .second, .val (.int (1 : Int32)), .unset, .unset, .unset] []))
      refine gv (fun tQ kQ => XS.lload X74.here hx rfl (hb hby at_200) rfl kQ) ?_
      show G (T74.setTop (mkF me_ 202 #[.val (.int p0), .val (.long p1), .second, .val (.int p2), .val (.int (7 : Int32)), .val (.ref A_OFFSETS), .val (.long (1000000 : Int64)), .second, .val (.int (1 : Int32)), .unset, .unset, .unset] [(.long (1000000 : Int64))]))
      refine gv (fun tQ kQ => XS.iloadN X74.here hx rfl (hb hby at_202) rfl kQ) ?_
      show G (T74.setTop (mkF me_ 203 #[.val (.int p0), .val (.long p1), .second, .val (.int p2), .val (.int (7 : Int32)), .val (.ref A_OFFSETS), .val (.long (1000000 : Int64)), .second, .val (.int (1 : Int32)), .unset, .unset, .unset] [(.int p2), (.long (1000000 : Int64))]))
      refine gv (fun tQ kQ => XS.iconst X74.here hx rfl (hb hby at_203) kQ) ?_
      show G (T74.setTop (mkF me_ 204 #[.val (.int p0), .val (.long p1), .second, .val (.int p2), .val (.int (7 : Int32)), .val (.ref A_OFFSETS), .val (.long (1000000 : Int64)), .second, .val (.int (1 : Int32)), .unset, .unset, .unset] [(.int (3 : Int32)), (.int p2), (.long (1000000 : Int64))]))
      refine gv (fun tQ kQ => XS.iand X74.here hx rfl (hb hby at_204) rfl kQ) ?_
      show G (T74.setTop (mkF me_ 205 #[.val (.int p0), .val (.long p1), .second, .val (.int p2), .val (.int (7 : Int32)), .val (.ref A_OFFSETS), .val (.long (1000000 : Int64)), .second, .val (.int (1 : Int32)), .unset, .unset, .unset] [(.int (p2 &&& (3 : Int32))), (.long (1000000 : Int64))]))
      refine gv (fun tQ kQ => XS.iconst X74.here hx rfl (hb hby at_205) kQ) ?_
      show G (T74.setTop (mkF me_ 206 #[.val (.int p0), .val (.long p1), .second, .val (.int p2), .val (.int (7 : Int32)), .val (.ref A_OFFSETS), .val (.long (1000000 : Int64)), .second, .val (.int (1 : Int32)), .unset, .unset, .unset] [(.int (2 : Int32)), (.int (p2 &&& (3 : Int32))), (.long (1000000 : Int64))]))
      refine gv (fun tQ kQ => XS.isub X74.here hx rfl (hb hby at_206) rfl kQ) ?_
      show G (T74.setTop (mkF me_ 207 #[.val (.int p0), .val (.long p1), .second, .val (.int p2), .val (.int (7 : Int32)), .val (.ref A_OFFSETS), .val (.long (1000000 : Int64)), .second, .val (.int (1 : Int32)), .unset, .unset, .unset] [(.int ((p2 &&& (3 : Int32)) - (2 : Int32))), (.long (1000000 : Int64))]))
      refine gv (fun tQ kQ => XS.i2l X74.here hx rfl (hb hby at_207) rfl kQ) ?_
      show G (T74.setTop (mkF me_ 208 #[.val (.int p0), .val (.long p1), .second, .val (.int p2), .val (.int (7 : Int32)), .val (.ref A_OFFSETS), .val (.long (1000000 : Int64)), .second, .val (.int (1 : Int32)), .unset, .unset, .unset] [(.long (((p2 &&& (3 : Int32)) - (2 : Int32)).toInt64)), (.long (1000000 : Int64))]))
      refine gv (fun tQ kQ => XS.ladd X74.here hx rfl (hb hby at_208) rfl kQ) ?_
      show G (T74.setTop (mkF me_ 209 #[.val (.int p0), .val (.long p1), .second, .val (.int p2), .val (.int (7 : Int32)), .val (.ref A_OFFSETS), .val (.long (1000000 : Int64)), .second, .val (.int (1 : Int32)), .unset, .unset, .unset] [(.long ((1000000 : Int64) + (((p2 &&& (3 : Int32)) - (2 : Int32)).toInt64)))]))
      refine gv (fun tQ kQ => XS.lstore X74.here hx rfl (hb hby at_209) rfl (l' := #[.val (.int p0), .val (.long p1), .second, .val (.int p2), .val (.int (7 : Int32)), .val (.ref A_OFFSETS), .val (.long (1000000 : Int64)), .second, .val (.int (1 : Int32)), .val (.long ((1000000 : Int64) + (((p2 &&& (3 : Int32)) - (2 : Int32)).toInt64))), .second, .unset]) rfl kQ) ?_
      show G (T74.setTop (mkF me_ 211 #[.val (.int p0), .val (.long p1), .second, .val (.int p2), .val (.int (7 : Int32)), .val (.ref A_OFFSETS), .val (.long (1000000 : Int64)), .second, .val (.int (1 : Int32)), .val (.long ((1000000 : Int64) + (((p2 &&& (3 : Int32)) - (2 : Int32)).toInt64))), .second, .unset] []))
      refine gv (fun tQ kQ => XS.aload X74.here hx rfl (hb hby at_211) rfl rfl kQ) ?_
      show G (T74.setTop (mkF me_ 213 #[.val (.int p0), .val (.long p1), .second, .val (.int p2), .val (.int (7 : Int32)), .val (.ref A_OFFSETS), .val (.long (1000000 : Int64)), .second, .val (.int (1 : Int32)), .val (.long ((1000000 : Int64) + (((p2 &&& (3 : Int32)) - (2 : Int32)).toInt64))), .second, .unset] [(.ref A_OFFSETS)]))
      refine gv (fun tQ kQ => XS.lload X74.here hx rfl (hb hby at_213) rfl kQ) ?_
      show G (T74.setTop (mkF me_ 215 #[.val (.int p0), .val (.long p1), .second, .val (.int p2), .val (.int (7 : Int32)), .val (.ref A_OFFSETS), .val (.long (1000000 : Int64)), .second, .val (.int (1 : Int32)), .val (.long ((1000000 : Int64) + (((p2 &&& (3 : Int32)) - (2 : Int32)).toInt64))), .second, .unset] [(.long ((1000000 : Int64) + (((p2 &&& (3 : Int32)) - (2 : Int32)).toInt64))), (.ref A_OFFSETS)]))
      obtain ⟨cq77, kq77, q77a, q77b, q77c⟩ := isOf hZ eq74 (u16.ext O0.2)
      obtain ⟨_, _, ⟨T77, L77, k77, n77⟩, -, X77, ⟨Lc77, hQ77, l77, y77, z77⟩, st77⟩ := X74.virtualBack hx (y := (⟨"com/example/slot1/slot1/server/Limit", "allows", "(J)Z"⟩ : MethodName)) (z := (⟨"com/example/slot1/slot1/server/Limit", "allows", "(J)Z"⟩ : MethodName)) hown (mvT hZ (hw _ (List.mem_of_getElem? (i := 5) rfl))) (mvT hZ (hw _ (List.mem_of_getElem? (i := 6) rfl))) (notFace_of_selects (args := #[]) (mvT hZ (hw _ (List.mem_of_getElem? (i := 8) rfl)))) (mvT hZ (hw _ (List.mem_of_getElem? (i := 8) rfl))) (mvT hZ (hw _ (List.mem_of_getElem? (i := 7) rfl))) (by decide) (backOf (W := 0) (rm_allows l Z a0 hw [] A_OFFSETS ((1000000 : Int64) + (((p2 &&& (3 : Int32)) - (2 : Int32)).toInt64)) (1000000 : Int64) h0 n0 O0 (u25.ext O0.2)) hZ (hw _ (List.mem_of_getElem? (i := 9) rfl)) (hw _ (List.mem_of_getElem? (i := 2) rfl)) (by decide) (by decide)) q77a q77c (g := (mkF me_ 215 #[.val (.int p0), .val (.long p1), .second, .val (.int p2), .val (.int (7 : Int32)), .val (.ref A_OFFSETS), .val (.long (1000000 : Int64)), .second, .val (.int (1 : Int32)), .val (.long ((1000000 : Int64) + (((p2 &&& (3 : Int32)) - (2 : Int32)).toInt64))), .second, .unset] [(.long ((1000000 : Int64) + (((p2 &&& (3 : Int32)) - (2 : Int32)).toInt64))), (.ref A_OFFSETS)])) rfl (by rw [hml]; rfl) (Steps.refl _) (argsL := [(.long ((1000000 : Int64) + (((p2 &&& (3 : Int32)) - (2 : Int32)).toInt64)))]) (rest := []) (lenOf pd_0 rfl) rfl (by show 2 * 0 + _ ≤ _; exact Nat.le_of_eq rfl) (hb hby at_215) (fun _ _ => ⟨rfl, eq74, (by decide : 0 + 0 ≤ _), (by decide : 0 + 0 ≤ _)⟩)
      dsimp only [Pt.U, Pt.locs, Pt.cells, Pt.slots] at X77 l77 y77 z77 st77 hQ77
      subst l77 y77 z77
      obtain ⟨rfl, Nq77, eq77⟩ := hQ77
      have N78 := Fr.app N75 Nq77
      by_cases hb79 : (1000000 : Int64) < ((1000000 : Int64) + (((p2 &&& (3 : Int32)) - (2 : Int32)).toInt64))
      · rw [if_pos hb79] at st77
        refine gv (fun tQ kQ => st77.trans kQ) ?_
        show G (T77.setTop (mkF me_ 218 #[.val (.int p0), .val (.long p1), .second, .val (.int p2), .val (.int (7 : Int32)), .val (.ref A_OFFSETS), .val (.long (1000000 : Int64)), .second, .val (.int (1 : Int32)), .val (.long ((1000000 : Int64) + (((p2 &&& (3 : Int32)) - (2 : Int32)).toInt64))), .second, .unset] [(.int (0 : Int32))]))
        refine gv (fun tQ kQ => XS.lload X77.here hx rfl (hb hby at_218) rfl kQ) ?_
        show G (T77.setTop (mkF me_ 220 #[.val (.int p0), .val (.long p1), .second, .val (.int p2), .val (.int (7 : Int32)), .val (.ref A_OFFSETS), .val (.long (1000000 : Int64)), .second, .val (.int (1 : Int32)), .val (.long ((1000000 : Int64) + (((p2 &&& (3 : Int32)) - (2 : Int32)).toInt64))), .second, .unset] [(.long ((1000000 : Int64) + (((p2 &&& (3 : Int32)) - (2 : Int32)).toInt64))), (.int (0 : Int32))]))
        refine gv (fun tQ kQ => XS.lload X77.here hx rfl (hb hby at_220) rfl kQ) ?_
        show G (T77.setTop (mkF me_ 222 #[.val (.int p0), .val (.long p1), .second, .val (.int p2), .val (.int (7 : Int32)), .val (.ref A_OFFSETS), .val (.long (1000000 : Int64)), .second, .val (.int (1 : Int32)), .val (.long ((1000000 : Int64) + (((p2 &&& (3 : Int32)) - (2 : Int32)).toInt64))), .second, .unset] [(.long (1000000 : Int64)), (.long ((1000000 : Int64) + (((p2 &&& (3 : Int32)) - (2 : Int32)).toInt64))), (.int (0 : Int32))]))
        refine gv (fun tQ kQ => XS.lcmp X77.here hx rfl (hb hby at_222) rfl kQ) ?_
        show G (T77.setTop (mkF me_ 223 #[.val (.int p0), .val (.long p1), .second, .val (.int p2), .val (.int (7 : Int32)), .val (.ref A_OFFSETS), .val (.long (1000000 : Int64)), .second, .val (.int (1 : Int32)), .val (.long ((1000000 : Int64) + (((p2 &&& (3 : Int32)) - (2 : Int32)).toInt64))), .second, .unset] [(.int (lcmpW ((1000000 : Int64) + (((p2 &&& (3 : Int32)) - (2 : Int32)).toInt64)) (1000000 : Int64))), (.int (0 : Int32))]))
        refine gv (fun tQ kQ => XS.ifYes X77.here hx rfl (pc0 := 223) (pc' := 230) rfl (hb hby at_223) rfl ((if0 _ _).trans (tlt ((lw_gt _ _).mpr hb79)).2.2.1) (by decide) (by decide) kQ) ?_
        show G (T77.setTop (mkF me_ 230 #[.val (.int p0), .val (.long p1), .second, .val (.int p2), .val (.int (7 : Int32)), .val (.ref A_OFFSETS), .val (.long (1000000 : Int64)), .second, .val (.int (1 : Int32)), .val (.long ((1000000 : Int64) + (((p2 &&& (3 : Int32)) - (2 : Int32)).toInt64))), .second, .unset] [(.int (0 : Int32))]))
        refine gv (fun tQ kQ => XS.iconst X77.here hx rfl (hb hby at_230) kQ) ?_
        show G (T77.setTop (mkF me_ 231 #[.val (.int p0), .val (.long p1), .second, .val (.int p2), .val (.int (7 : Int32)), .val (.ref A_OFFSETS), .val (.long (1000000 : Int64)), .second, .val (.int (1 : Int32)), .val (.long ((1000000 : Int64) + (((p2 &&& (3 : Int32)) - (2 : Int32)).toInt64))), .second, .unset] [(.int (0 : Int32)), (.int (0 : Int32))]))
        refine gv (fun tQ kQ => XS.icmpNo X77.here hx rfl (hb hby at_231) rfl (teq (by decide : (0 : Int32) = (0 : Int32))).2 kQ) ?_
        show G (T77.setTop (mkF me_ 234 #[.val (.int p0), .val (.long p1), .second, .val (.int p2), .val (.int (7 : Int32)), .val (.ref A_OFFSETS), .val (.long (1000000 : Int64)), .second, .val (.int (1 : Int32)), .val (.long ((1000000 : Int64) + (((p2 &&& (3 : Int32)) - (2 : Int32)).toInt64))), .second, .unset] []))
        refine gv (fun tQ kQ => XS.iconst X77.here hx rfl (hb hby at_234) kQ) ?_
        show G (T77.setTop (mkF me_ 235 #[.val (.int p0), .val (.long p1), .second, .val (.int p2), .val (.int (7 : Int32)), .val (.ref A_OFFSETS), .val (.long (1000000 : Int64)), .second, .val (.int (1 : Int32)), .val (.long ((1000000 : Int64) + (((p2 &&& (3 : Int32)) - (2 : Int32)).toInt64))), .second, .unset] [(.int (1 : Int32))]))
        refine gv (fun tQ kQ => XS.goto X77.here hx rfl (pc0 := 235) (pc' := 239) rfl (hb hby at_235) (by decide) (by decide) kQ) ?_
        show G (T77.setTop (mkF me_ 239 #[.val (.int p0), .val (.long p1), .second, .val (.int p2), .val (.int (7 : Int32)), .val (.ref A_OFFSETS), .val (.long (1000000 : Int64)), .second, .val (.int (1 : Int32)), .val (.long ((1000000 : Int64) + (((p2 &&& (3 : Int32)) - (2 : Int32)).toInt64))), .second, .unset] [(.int (1 : Int32))]))
        refine gv (fun tQ kQ => XS.istore X77.here hx rfl (hb hby at_239) rfl (l' := #[.val (.int p0), .val (.long p1), .second, .val (.int p2), .val (.int (7 : Int32)), .val (.ref A_OFFSETS), .val (.long (1000000 : Int64)), .second, .val (.int (1 : Int32)), .val (.long ((1000000 : Int64) + (((p2 &&& (3 : Int32)) - (2 : Int32)).toInt64))), .second, .val (.int (1 : Int32))]) rfl kQ) ?_
        show G (T77.setTop (mkF me_ 241 #[.val (.int p0), .val (.long p1), .second, .val (.int p2), .val (.int (7 : Int32)), .val (.ref A_OFFSETS), .val (.long (1000000 : Int64)), .second, .val (.int (1 : Int32)), .val (.long ((1000000 : Int64) + (((p2 &&& (3 : Int32)) - (2 : Int32)).toInt64))), .second, .val (.int (1 : Int32))] []))
        refine gv (fun tQ kQ => XS.iload X77.here hx rfl (hb hby at_241) rfl kQ) ?_
        show G (T77.setTop (mkF me_ 243 #[.val (.int p0), .val (.long p1), .second, .val (.int p2), .val (.int (7 : Int32)), .val (.ref A_OFFSETS), .val (.long (1000000 : Int64)), .second, .val (.int (1 : Int32)), .val (.long ((1000000 : Int64) + (((p2 &&& (3 : Int32)) - (2 : Int32)).toInt64))), .second, .val (.int (1 : Int32))] [(.int (1 : Int32))]))
        refine gv (fun tQ kQ => XS.ifNo X77.here hx rfl (hb hby at_243) rfl ((if0 _ _).trans (feq (by decide : ¬ ((1 : Int32) = (0 : Int32)))).1) kQ) ?_
        show G (T77.setTop (mkF me_ 246 #[.val (.int p0), .val (.long p1), .second, .val (.int p2), .val (.int (7 : Int32)), .val (.ref A_OFFSETS), .val (.long (1000000 : Int64)), .second, .val (.int (1 : Int32)), .val (.long ((1000000 : Int64) + (((p2 &&& (3 : Int32)) - (2 : Int32)).toInt64))), .second, .val (.int (1 : Int32))] []))
        refine gv (fun tQ kQ => XS.iload X77.here hx rfl (hb hby at_246) rfl kQ) ?_
        show G (T77.setTop (mkF me_ 248 #[.val (.int p0), .val (.long p1), .second, .val (.int p2), .val (.int (7 : Int32)), .val (.ref A_OFFSETS), .val (.long (1000000 : Int64)), .second, .val (.int (1 : Int32)), .val (.long ((1000000 : Int64) + (((p2 &&& (3 : Int32)) - (2 : Int32)).toInt64))), .second, .val (.int (1 : Int32))] [(.int (1 : Int32))]))
        refine gv (fun tQ kQ => XS.ifNo X77.here hx rfl (hb hby at_248) rfl ((if0 _ _).trans (feq (by decide : ¬ ((1 : Int32) = (0 : Int32)))).1) kQ) ?_
        show G (T77.setTop (mkF me_ 251 #[.val (.int p0), .val (.long p1), .second, .val (.int p2), .val (.int (7 : Int32)), .val (.ref A_OFFSETS), .val (.long (1000000 : Int64)), .second, .val (.int (1 : Int32)), .val (.long ((1000000 : Int64) + (((p2 &&& (3 : Int32)) - (2 : Int32)).toInt64))), .second, .val (.int (1 : Int32))] []))
        refine gv (fun tQ kQ => XS.iconst X77.here hx rfl (hb hby at_251) kQ) ?_
        show G (T77.setTop (mkF me_ 252 #[.val (.int p0), .val (.long p1), .second, .val (.int p2), .val (.int (7 : Int32)), .val (.ref A_OFFSETS), .val (.long (1000000 : Int64)), .second, .val (.int (1 : Int32)), .val (.long ((1000000 : Int64) + (((p2 &&& (3 : Int32)) - (2 : Int32)).toInt64))), .second, .val (.int (1 : Int32))] [(.int (1 : Int32))]))
        refine gv (fun tQ kQ => XS.goto X77.here hx rfl (pc0 := 252) (pc' := 256) rfl (hb hby at_252) (by decide) (by decide) kQ) ?_
        show G (T77.setTop (mkF me_ 256 #[.val (.int p0), .val (.long p1), .second, .val (.int p2), .val (.int (7 : Int32)), .val (.ref A_OFFSETS), .val (.long (1000000 : Int64)), .second, .val (.int (1 : Int32)), .val (.long ((1000000 : Int64) + (((p2 &&& (3 : Int32)) - (2 : Int32)).toInt64))), .second, .val (.int (1 : Int32))] [(.int (1 : Int32))]))
        refine gf _ (own_ret X77 Bd.notSynchronized (v := some (.int (1 : Int32))) (fun h => by rw [Bd.returns] at h; cases h) ?_ (by decide) (by decide) (fun fs hr => retN X77 hx (t := .boolean) Bd.returns (by simp) (hb hby at_256) hr))
        show Q0 Z p0 p1 p2 A_TOPICS A_ROUTE_QUEUES A_GROUPS A_MEMBERS A_GROUP_MEMBERS A_MEMBER_TOPICS A_QUEUES A_OFFSETS A_OPTIONS_BYTES h0 n0 _ T77.heap _
        rw [eq77]
        exact ⟨rfl, N78⟩
      · skip
        rw [if_neg hb79] at st77
        refine gv (fun tQ kQ => st77.trans kQ) ?_
        show G (T77.setTop (mkF me_ 218 #[.val (.int p0), .val (.long p1), .second, .val (.int p2), .val (.int (7 : Int32)), .val (.ref A_OFFSETS), .val (.long (1000000 : Int64)), .second, .val (.int (1 : Int32)), .val (.long ((1000000 : Int64) + (((p2 &&& (3 : Int32)) - (2 : Int32)).toInt64))), .second, .unset] [(.int (1 : Int32))]))
        refine gv (fun tQ kQ => XS.lload X77.here hx rfl (hb hby at_218) rfl kQ) ?_
        show G (T77.setTop (mkF me_ 220 #[.val (.int p0), .val (.long p1), .second, .val (.int p2), .val (.int (7 : Int32)), .val (.ref A_OFFSETS), .val (.long (1000000 : Int64)), .second, .val (.int (1 : Int32)), .val (.long ((1000000 : Int64) + (((p2 &&& (3 : Int32)) - (2 : Int32)).toInt64))), .second, .unset] [(.long ((1000000 : Int64) + (((p2 &&& (3 : Int32)) - (2 : Int32)).toInt64))), (.int (1 : Int32))]))
        refine gv (fun tQ kQ => XS.lload X77.here hx rfl (hb hby at_220) rfl kQ) ?_
        show G (T77.setTop (mkF me_ 222 #[.val (.int p0), .val (.long p1), .second, .val (.int p2), .val (.int (7 : Int32)), .val (.ref A_OFFSETS), .val (.long (1000000 : Int64)), .second, .val (.int (1 : Int32)), .val (.long ((1000000 : Int64) + (((p2 &&& (3 : Int32)) - (2 : Int32)).toInt64))), .second, .unset] [(.long (1000000 : Int64)), (.long ((1000000 : Int64) + (((p2 &&& (3 : Int32)) - (2 : Int32)).toInt64))), (.int (1 : Int32))]))
        refine gv (fun tQ kQ => XS.lcmp X77.here hx rfl (hb hby at_222) rfl kQ) ?_
        show G (T77.setTop (mkF me_ 223 #[.val (.int p0), .val (.long p1), .second, .val (.int p2), .val (.int (7 : Int32)), .val (.ref A_OFFSETS), .val (.long (1000000 : Int64)), .second, .val (.int (1 : Int32)), .val (.long ((1000000 : Int64) + (((p2 &&& (3 : Int32)) - (2 : Int32)).toInt64))), .second, .unset] [(.int (lcmpW ((1000000 : Int64) + (((p2 &&& (3 : Int32)) - (2 : Int32)).toInt64)) (1000000 : Int64))), (.int (1 : Int32))]))
        refine gv (fun tQ kQ => XS.ifNo X77.here hx rfl (hb hby at_223) rfl ((if0 _ _).trans (flt (mt (lw_gt _ _).mp hb79)).2.2.1) kQ) ?_
        show G (T77.setTop (mkF me_ 226 #[.val (.int p0), .val (.long p1), .second, .val (.int p2), .val (.int (7 : Int32)), .val (.ref A_OFFSETS), .val (.long (1000000 : Int64)), .second, .val (.int (1 : Int32)), .val (.long ((1000000 : Int64) + (((p2 &&& (3 : Int32)) - (2 : Int32)).toInt64))), .second, .unset] [(.int (1 : Int32))]))
        refine gv (fun tQ kQ => XS.iconst X77.here hx rfl (hb hby at_226) kQ) ?_
        show G (T77.setTop (mkF me_ 227 #[.val (.int p0), .val (.long p1), .second, .val (.int p2), .val (.int (7 : Int32)), .val (.ref A_OFFSETS), .val (.long (1000000 : Int64)), .second, .val (.int (1 : Int32)), .val (.long ((1000000 : Int64) + (((p2 &&& (3 : Int32)) - (2 : Int32)).toInt64))), .second, .unset] [(.int (1 : Int32)), (.int (1 : Int32))]))
        refine gv (fun tQ kQ => XS.goto X77.here hx rfl (pc0 := 227) (pc' := 231) rfl (hb hby at_227) (by decide) (by decide) kQ) ?_
        show G (T77.setTop (mkF me_ 231 #[.val (.int p0), .val (.long p1), .second, .val (.int p2), .val (.int (7 : Int32)), .val (.ref A_OFFSETS), .val (.long (1000000 : Int64)), .second, .val (.int (1 : Int32)), .val (.long ((1000000 : Int64) + (((p2 &&& (3 : Int32)) - (2 : Int32)).toInt64))), .second, .unset] [(.int (1 : Int32)), (.int (1 : Int32))]))
        refine gv (fun tQ kQ => XS.icmpNo X77.here hx rfl (hb hby at_231) rfl (teq (by decide : (1 : Int32) = (1 : Int32))).2 kQ) ?_
        show G (T77.setTop (mkF me_ 234 #[.val (.int p0), .val (.long p1), .second, .val (.int p2), .val (.int (7 : Int32)), .val (.ref A_OFFSETS), .val (.long (1000000 : Int64)), .second, .val (.int (1 : Int32)), .val (.long ((1000000 : Int64) + (((p2 &&& (3 : Int32)) - (2 : Int32)).toInt64))), .second, .unset] []))
        refine gv (fun tQ kQ => XS.iconst X77.here hx rfl (hb hby at_234) kQ) ?_
        show G (T77.setTop (mkF me_ 235 #[.val (.int p0), .val (.long p1), .second, .val (.int p2), .val (.int (7 : Int32)), .val (.ref A_OFFSETS), .val (.long (1000000 : Int64)), .second, .val (.int (1 : Int32)), .val (.long ((1000000 : Int64) + (((p2 &&& (3 : Int32)) - (2 : Int32)).toInt64))), .second, .unset] [(.int (1 : Int32))]))
        refine gv (fun tQ kQ => XS.goto X77.here hx rfl (pc0 := 235) (pc' := 239) rfl (hb hby at_235) (by decide) (by decide) kQ) ?_
        show G (T77.setTop (mkF me_ 239 #[.val (.int p0), .val (.long p1), .second, .val (.int p2), .val (.int (7 : Int32)), .val (.ref A_OFFSETS), .val (.long (1000000 : Int64)), .second, .val (.int (1 : Int32)), .val (.long ((1000000 : Int64) + (((p2 &&& (3 : Int32)) - (2 : Int32)).toInt64))), .second, .unset] [(.int (1 : Int32))]))
        refine gv (fun tQ kQ => XS.istore X77.here hx rfl (hb hby at_239) rfl (l' := #[.val (.int p0), .val (.long p1), .second, .val (.int p2), .val (.int (7 : Int32)), .val (.ref A_OFFSETS), .val (.long (1000000 : Int64)), .second, .val (.int (1 : Int32)), .val (.long ((1000000 : Int64) + (((p2 &&& (3 : Int32)) - (2 : Int32)).toInt64))), .second, .val (.int (1 : Int32))]) rfl kQ) ?_
        show G (T77.setTop (mkF me_ 241 #[.val (.int p0), .val (.long p1), .second, .val (.int p2), .val (.int (7 : Int32)), .val (.ref A_OFFSETS), .val (.long (1000000 : Int64)), .second, .val (.int (1 : Int32)), .val (.long ((1000000 : Int64) + (((p2 &&& (3 : Int32)) - (2 : Int32)).toInt64))), .second, .val (.int (1 : Int32))] []))
        refine gv (fun tQ kQ => XS.iload X77.here hx rfl (hb hby at_241) rfl kQ) ?_
        show G (T77.setTop (mkF me_ 243 #[.val (.int p0), .val (.long p1), .second, .val (.int p2), .val (.int (7 : Int32)), .val (.ref A_OFFSETS), .val (.long (1000000 : Int64)), .second, .val (.int (1 : Int32)), .val (.long ((1000000 : Int64) + (((p2 &&& (3 : Int32)) - (2 : Int32)).toInt64))), .second, .val (.int (1 : Int32))] [(.int (1 : Int32))]))
        refine gv (fun tQ kQ => XS.ifNo X77.here hx rfl (hb hby at_243) rfl ((if0 _ _).trans (feq (by decide : ¬ ((1 : Int32) = (0 : Int32)))).1) kQ) ?_
        show G (T77.setTop (mkF me_ 246 #[.val (.int p0), .val (.long p1), .second, .val (.int p2), .val (.int (7 : Int32)), .val (.ref A_OFFSETS), .val (.long (1000000 : Int64)), .second, .val (.int (1 : Int32)), .val (.long ((1000000 : Int64) + (((p2 &&& (3 : Int32)) - (2 : Int32)).toInt64))), .second, .val (.int (1 : Int32))] []))
        refine gv (fun tQ kQ => XS.iload X77.here hx rfl (hb hby at_246) rfl kQ) ?_
        show G (T77.setTop (mkF me_ 248 #[.val (.int p0), .val (.long p1), .second, .val (.int p2), .val (.int (7 : Int32)), .val (.ref A_OFFSETS), .val (.long (1000000 : Int64)), .second, .val (.int (1 : Int32)), .val (.long ((1000000 : Int64) + (((p2 &&& (3 : Int32)) - (2 : Int32)).toInt64))), .second, .val (.int (1 : Int32))] [(.int (1 : Int32))]))
        refine gv (fun tQ kQ => XS.ifNo X77.here hx rfl (hb hby at_248) rfl ((if0 _ _).trans (feq (by decide : ¬ ((1 : Int32) = (0 : Int32)))).1) kQ) ?_
        show G (T77.setTop (mkF me_ 251 #[.val (.int p0), .val (.long p1), .second, .val (.int p2), .val (.int (7 : Int32)), .val (.ref A_OFFSETS), .val (.long (1000000 : Int64)), .second, .val (.int (1 : Int32)), .val (.long ((1000000 : Int64) + (((p2 &&& (3 : Int32)) - (2 : Int32)).toInt64))), .second, .val (.int (1 : Int32))] []))
        refine gv (fun tQ kQ => XS.iconst X77.here hx rfl (hb hby at_251) kQ) ?_
        show G (T77.setTop (mkF me_ 252 #[.val (.int p0), .val (.long p1), .second, .val (.int p2), .val (.int (7 : Int32)), .val (.ref A_OFFSETS), .val (.long (1000000 : Int64)), .second, .val (.int (1 : Int32)), .val (.long ((1000000 : Int64) + (((p2 &&& (3 : Int32)) - (2 : Int32)).toInt64))), .second, .val (.int (1 : Int32))] [(.int (1 : Int32))]))
        refine gv (fun tQ kQ => XS.goto X77.here hx rfl (pc0 := 252) (pc' := 256) rfl (hb hby at_252) (by decide) (by decide) kQ) ?_
        show G (T77.setTop (mkF me_ 256 #[.val (.int p0), .val (.long p1), .second, .val (.int p2), .val (.int (7 : Int32)), .val (.ref A_OFFSETS), .val (.long (1000000 : Int64)), .second, .val (.int (1 : Int32)), .val (.long ((1000000 : Int64) + (((p2 &&& (3 : Int32)) - (2 : Int32)).toInt64))), .second, .val (.int (1 : Int32))] [(.int (1 : Int32))]))
        refine gf _ (own_ret X77 Bd.notSynchronized (v := some (.int (1 : Int32))) (fun h => by rw [Bd.returns] at h; cases h) ?_ (by decide) (by decide) (fun fs hr => retN X77 hx (t := .boolean) Bd.returns (by simp) (hb hby at_256) hr))
        show Q0 Z p0 p1 p2 A_TOPICS A_ROUTE_QUEUES A_GROUPS A_MEMBERS A_GROUP_MEMBERS A_MEMBER_TOPICS A_QUEUES A_OFFSETS A_OPTIONS_BYTES h0 n0 _ T77.heap _
        rw [eq77]
        exact ⟨rfl, N78⟩
    · skip
      rw [if_neg hb76] at st74
      refine gv (fun tQ kQ => st74.trans kQ) ?_
      show G (T74.setTop (mkF me_ 178 #[.val (.int p0), .val (.long p1), .second, .val (.int p2), .val (.int (7 : Int32)), .val (.ref A_OFFSETS), .val (.long (1000000 : Int64)), .second, .unset, .unset, .unset, .unset] [(.int (1 : Int32))]))
      refine gv (fun tQ kQ => XS.lloadN X74.here hx rfl (hb hby at_178) rfl kQ) ?_
      show G (T74.setTop (mkF me_ 179 #[.val (.int p0), .val (.long p1), .second, .val (.int p2), .val (.int (7 : Int32)), .val (.ref A_OFFSETS), .val (.long (1000000 : Int64)), .second, .unset, .unset, .unset, .unset] [(.long p1), (.int (1 : Int32))]))
      refine gv (fun tQ kQ => XS.lload X74.here hx rfl (hb hby at_179) rfl kQ) ?_
      show G (T74.setTop (mkF me_ 181 #[.val (.int p0), .val (.long p1), .second, .val (.int p2), .val (.int (7 : Int32)), .val (.ref A_OFFSETS), .val (.long (1000000 : Int64)), .second, .unset, .unset, .unset, .unset] [(.long (1000000 : Int64)), (.long p1), (.int (1 : Int32))]))
      refine gv (fun tQ kQ => XS.lcmp X74.here hx rfl (hb hby at_181) rfl kQ) ?_
      show G (T74.setTop (mkF me_ 182 #[.val (.int p0), .val (.long p1), .second, .val (.int p2), .val (.int (7 : Int32)), .val (.ref A_OFFSETS), .val (.long (1000000 : Int64)), .second, .unset, .unset, .unset, .unset] [(.int (lcmpW p1 (1000000 : Int64))), (.int (1 : Int32))]))
      refine gv (fun tQ kQ => XS.ifNo X74.here hx rfl (hb hby at_182) rfl ((if0 _ _).trans (flt (mt (lw_gt _ _).mp hb76)).2.2.1) kQ) ?_
      show G (T74.setTop (mkF me_ 185 #[.val (.int p0), .val (.long p1), .second, .val (.int p2), .val (.int (7 : Int32)), .val (.ref A_OFFSETS), .val (.long (1000000 : Int64)), .second, .unset, .unset, .unset, .unset] [(.int (1 : Int32))]))
      refine gv (fun tQ kQ => XS.iconst X74.here hx rfl (hb hby at_185) kQ) ?_
      show G (T74.setTop (mkF me_ 186 #[.val (.int p0), .val (.long p1), .second, .val (.int p2), .val (.int (7 : Int32)), .val (.ref A_OFFSETS), .val (.long (1000000 : Int64)), .second, .unset, .unset, .unset, .unset] [(.int (1 : Int32)), (.int (1 : Int32))]))
      refine gv (fun tQ kQ => XS.goto X74.here hx rfl (pc0 := 186) (pc' := 190) rfl (hb hby at_186) (by decide) (by decide) kQ) ?_
      show G (T74.setTop (mkF me_ 190 #[.val (.int p0), .val (.long p1), .second, .val (.int p2), .val (.int (7 : Int32)), .val (.ref A_OFFSETS), .val (.long (1000000 : Int64)), .second, .unset, .unset, .unset, .unset] [(.int (1 : Int32)), (.int (1 : Int32))]))
      refine gv (fun tQ kQ => XS.icmpNo X74.here hx rfl (hb hby at_190) rfl (teq (by decide : (1 : Int32) = (1 : Int32))).2 kQ) ?_
      show G (T74.setTop (mkF me_ 193 #[.val (.int p0), .val (.long p1), .second, .val (.int p2), .val (.int (7 : Int32)), .val (.ref A_OFFSETS), .val (.long (1000000 : Int64)), .second, .unset, .unset, .unset, .unset] []))
      refine gv (fun tQ kQ => XS.iconst X74.here hx rfl (hb hby at_193) kQ) ?_
      show G (T74.setTop (mkF me_ 194 #[.val (.int p0), .val (.long p1), .second, .val (.int p2), .val (.int (7 : Int32)), .val (.ref A_OFFSETS), .val (.long (1000000 : Int64)), .second, .unset, .unset, .unset, .unset] [(.int (1 : Int32))]))
      refine gv (fun tQ kQ => XS.goto X74.here hx rfl (pc0 := 194) (pc' := 198) rfl (hb hby at_194) (by decide) (by decide) kQ) ?_
      show G (T74.setTop (mkF me_ 198 #[.val (.int p0), .val (.long p1), .second, .val (.int p2), .val (.int (7 : Int32)), .val (.ref A_OFFSETS), .val (.long (1000000 : Int64)), .second, .unset, .unset, .unset, .unset] [(.int (1 : Int32))]))
      refine gv (fun tQ kQ => XS.istore X74.here hx rfl (hb hby at_198) rfl (l' := #[.val (.int p0), .val (.long p1), .second, .val (.int p2), .val (.int (7 : Int32)), .val (.ref A_OFFSETS), .val (.long (1000000 : Int64)), .second, .val (.int (1 : Int32)), .unset, .unset, .unset]) rfl kQ) ?_
      show G (T74.setTop (mkF me_ 200 #[.val (.int p0), .val (.long p1), .second, .val (.int p2), .val (.int (7 : Int32)), .val (.ref A_OFFSETS), .val (.long (1000000 : Int64)), .second, .val (.int (1 : Int32)), .unset, .unset, .unset] []))
      refine gv (fun tQ kQ => XS.lload X74.here hx rfl (hb hby at_200) rfl kQ) ?_
      show G (T74.setTop (mkF me_ 202 #[.val (.int p0), .val (.long p1), .second, .val (.int p2), .val (.int (7 : Int32)), .val (.ref A_OFFSETS), .val (.long (1000000 : Int64)), .second, .val (.int (1 : Int32)), .unset, .unset, .unset] [(.long (1000000 : Int64))]))
      refine gv (fun tQ kQ => XS.iloadN X74.here hx rfl (hb hby at_202) rfl kQ) ?_
      show G (T74.setTop (mkF me_ 203 #[.val (.int p0), .val (.long p1), .second, .val (.int p2), .val (.int (7 : Int32)), .val (.ref A_OFFSETS), .val (.long (1000000 : Int64)), .second, .val (.int (1 : Int32)), .unset, .unset, .unset] [(.int p2), (.long (1000000 : Int64))]))
      refine gv (fun tQ kQ => XS.iconst X74.here hx rfl (hb hby at_203) kQ) ?_
      show G (T74.setTop (mkF me_ 204 #[.val (.int p0), .val (.long p1), .second, .val (.int p2), .val (.int (7 : Int32)), .val (.ref A_OFFSETS), .val (.long (1000000 : Int64)), .second, .val (.int (1 : Int32)), .unset, .unset, .unset] [(.int (3 : Int32)), (.int p2), (.long (1000000 : Int64))]))
      refine gv (fun tQ kQ => XS.iand X74.here hx rfl (hb hby at_204) rfl kQ) ?_
      show G (T74.setTop (mkF me_ 205 #[.val (.int p0), .val (.long p1), .second, .val (.int p2), .val (.int (7 : Int32)), .val (.ref A_OFFSETS), .val (.long (1000000 : Int64)), .second, .val (.int (1 : Int32)), .unset, .unset, .unset] [(.int (p2 &&& (3 : Int32))), (.long (1000000 : Int64))]))
      refine gv (fun tQ kQ => XS.iconst X74.here hx rfl (hb hby at_205) kQ) ?_
      show G (T74.setTop (mkF me_ 206 #[.val (.int p0), .val (.long p1), .second, .val (.int p2), .val (.int (7 : Int32)), .val (.ref A_OFFSETS), .val (.long (1000000 : Int64)), .second, .val (.int (1 : Int32)), .unset, .unset, .unset] [(.int (2 : Int32)), (.int (p2 &&& (3 : Int32))), (.long (1000000 : Int64))]))
      refine gv (fun tQ kQ => XS.isub X74.here hx rfl (hb hby at_206) rfl kQ) ?_
      show G (T74.setTop (mkF me_ 207 #[.val (.int p0), .val (.long p1), .second, .val (.int p2), .val (.int (7 : Int32)), .val (.ref A_OFFSETS), .val (.long (1000000 : Int64)), .second, .val (.int (1 : Int32)), .unset, .unset, .unset] [(.int ((p2 &&& (3 : Int32)) - (2 : Int32))), (.long (1000000 : Int64))]))
      refine gv (fun tQ kQ => XS.i2l X74.here hx rfl (hb hby at_207) rfl kQ) ?_
      show G (T74.setTop (mkF me_ 208 #[.val (.int p0), .val (.long p1), .second, .val (.int p2), .val (.int (7 : Int32)), .val (.ref A_OFFSETS), .val (.long (1000000 : Int64)), .second, .val (.int (1 : Int32)), .unset, .unset, .unset] [(.long (((p2 &&& (3 : Int32)) - (2 : Int32)).toInt64)), (.long (1000000 : Int64))]))
      refine gv (fun tQ kQ => XS.ladd X74.here hx rfl (hb hby at_208) rfl kQ) ?_
      show G (T74.setTop (mkF me_ 209 #[.val (.int p0), .val (.long p1), .second, .val (.int p2), .val (.int (7 : Int32)), .val (.ref A_OFFSETS), .val (.long (1000000 : Int64)), .second, .val (.int (1 : Int32)), .unset, .unset, .unset] [(.long ((1000000 : Int64) + (((p2 &&& (3 : Int32)) - (2 : Int32)).toInt64)))]))
      refine gv (fun tQ kQ => XS.lstore X74.here hx rfl (hb hby at_209) rfl (l' := #[.val (.int p0), .val (.long p1), .second, .val (.int p2), .val (.int (7 : Int32)), .val (.ref A_OFFSETS), .val (.long (1000000 : Int64)), .second, .val (.int (1 : Int32)), .val (.long ((1000000 : Int64) + (((p2 &&& (3 : Int32)) - (2 : Int32)).toInt64))), .second, .unset]) rfl kQ) ?_
      show G (T74.setTop (mkF me_ 211 #[.val (.int p0), .val (.long p1), .second, .val (.int p2), .val (.int (7 : Int32)), .val (.ref A_OFFSETS), .val (.long (1000000 : Int64)), .second, .val (.int (1 : Int32)), .val (.long ((1000000 : Int64) + (((p2 &&& (3 : Int32)) - (2 : Int32)).toInt64))), .second, .unset] []))
      refine gv (fun tQ kQ => XS.aload X74.here hx rfl (hb hby at_211) rfl rfl kQ) ?_
      show G (T74.setTop (mkF me_ 213 #[.val (.int p0), .val (.long p1), .second, .val (.int p2), .val (.int (7 : Int32)), .val (.ref A_OFFSETS), .val (.long (1000000 : Int64)), .second, .val (.int (1 : Int32)), .val (.long ((1000000 : Int64) + (((p2 &&& (3 : Int32)) - (2 : Int32)).toInt64))), .second, .unset] [(.ref A_OFFSETS)]))
      refine gv (fun tQ kQ => XS.lload X74.here hx rfl (hb hby at_213) rfl kQ) ?_
      show G (T74.setTop (mkF me_ 215 #[.val (.int p0), .val (.long p1), .second, .val (.int p2), .val (.int (7 : Int32)), .val (.ref A_OFFSETS), .val (.long (1000000 : Int64)), .second, .val (.int (1 : Int32)), .val (.long ((1000000 : Int64) + (((p2 &&& (3 : Int32)) - (2 : Int32)).toInt64))), .second, .unset] [(.long ((1000000 : Int64) + (((p2 &&& (3 : Int32)) - (2 : Int32)).toInt64))), (.ref A_OFFSETS)]))
      obtain ⟨cq80, kq80, q80a, q80b, q80c⟩ := isOf hZ eq74 (u16.ext O0.2)
      obtain ⟨_, _, ⟨T80, L80, k80, n80⟩, -, X80, ⟨Lc80, hQ80, l80, y80, z80⟩, st80⟩ := X74.virtualBack hx (y := (⟨"com/example/slot1/slot1/server/Limit", "allows", "(J)Z"⟩ : MethodName)) (z := (⟨"com/example/slot1/slot1/server/Limit", "allows", "(J)Z"⟩ : MethodName)) hown (mvT hZ (hw _ (List.mem_of_getElem? (i := 5) rfl))) (mvT hZ (hw _ (List.mem_of_getElem? (i := 6) rfl))) (notFace_of_selects (args := #[]) (mvT hZ (hw _ (List.mem_of_getElem? (i := 8) rfl)))) (mvT hZ (hw _ (List.mem_of_getElem? (i := 8) rfl))) (mvT hZ (hw _ (List.mem_of_getElem? (i := 7) rfl))) (by decide) (backOf (W := 0) (rm_allows l Z a0 hw [] A_OFFSETS ((1000000 : Int64) + (((p2 &&& (3 : Int32)) - (2 : Int32)).toInt64)) (1000000 : Int64) h0 n0 O0 (u25.ext O0.2)) hZ (hw _ (List.mem_of_getElem? (i := 9) rfl)) (hw _ (List.mem_of_getElem? (i := 2) rfl)) (by decide) (by decide)) q80a q80c (g := (mkF me_ 215 #[.val (.int p0), .val (.long p1), .second, .val (.int p2), .val (.int (7 : Int32)), .val (.ref A_OFFSETS), .val (.long (1000000 : Int64)), .second, .val (.int (1 : Int32)), .val (.long ((1000000 : Int64) + (((p2 &&& (3 : Int32)) - (2 : Int32)).toInt64))), .second, .unset] [(.long ((1000000 : Int64) + (((p2 &&& (3 : Int32)) - (2 : Int32)).toInt64))), (.ref A_OFFSETS)])) rfl (by rw [hml]; rfl) (Steps.refl _) (argsL := [(.long ((1000000 : Int64) + (((p2 &&& (3 : Int32)) - (2 : Int32)).toInt64)))]) (rest := []) (lenOf pd_0 rfl) rfl (by show 2 * 0 + _ ≤ _; exact Nat.le_of_eq rfl) (hb hby at_215) (fun _ _ => ⟨rfl, eq74, (by decide : 0 + 0 ≤ _), (by decide : 0 + 0 ≤ _)⟩)
      dsimp only [Pt.U, Pt.locs, Pt.cells, Pt.slots] at X80 l80 y80 z80 st80 hQ80
      subst l80 y80 z80
      obtain ⟨rfl, Nq80, eq80⟩ := hQ80
      have N81 := Fr.app N75 Nq80
      by_cases hb82 : (1000000 : Int64) < ((1000000 : Int64) + (((p2 &&& (3 : Int32)) - (2 : Int32)).toInt64))
      · rw [if_pos hb82] at st80
        refine gv (fun tQ kQ => st80.trans kQ) ?_
        show G (T80.setTop (mkF me_ 218 #[.val (.int p0), .val (.long p1), .second, .val (.int p2), .val (.int (7 : Int32)), .val (.ref A_OFFSETS), .val (.long (1000000 : Int64)), .second, .val (.int (1 : Int32)), .val (.long ((1000000 : Int64) + (((p2 &&& (3 : Int32)) - (2 : Int32)).toInt64))), .second, .unset] [(.int (0 : Int32))]))
        refine gv (fun tQ kQ => XS.lload X80.here hx rfl (hb hby at_218) rfl kQ) ?_
        show G (T80.setTop (mkF me_ 220 #[.val (.int p0), .val (.long p1), .second, .val (.int p2), .val (.int (7 : Int32)), .val (.ref A_OFFSETS), .val (.long (1000000 : Int64)), .second, .val (.int (1 : Int32)), .val (.long ((1000000 : Int64) + (((p2 &&& (3 : Int32)) - (2 : Int32)).toInt64))), .second, .unset] [(.long ((1000000 : Int64) + (((p2 &&& (3 : Int32)) - (2 : Int32)).toInt64))), (.int (0 : Int32))]))
        refine gv (fun tQ kQ => XS.lload X80.here hx rfl (hb hby at_220) rfl kQ) ?_
        show G (T80.setTop (mkF me_ 222 #[.val (.int p0), .val (.long p1), .second, .val (.int p2), .val (.int (7 : Int32)), .val (.ref A_OFFSETS), .val (.long (1000000 : Int64)), .second, .val (.int (1 : Int32)), .val (.long ((1000000 : Int64) + (((p2 &&& (3 : Int32)) - (2 : Int32)).toInt64))), .second, .unset] [(.long (1000000 : Int64)), (.long ((1000000 : Int64) + (((p2 &&& (3 : Int32)) - (2 : Int32)).toInt64))), (.int (0 : Int32))]))
        refine gv (fun tQ kQ => XS.lcmp X80.here hx rfl (hb hby at_222) rfl kQ) ?_
        show G (T80.setTop (mkF me_ 223 #[.val (.int p0), .val (.long p1), .second, .val (.int p2), .val (.int (7 : Int32)), .val (.ref A_OFFSETS), .val (.long (1000000 : Int64)), .second, .val (.int (1 : Int32)), .val (.long ((1000000 : Int64) + (((p2 &&& (3 : Int32)) - (2 : Int32)).toInt64))), .second, .unset] [(.int (lcmpW ((1000000 : Int64) + (((p2 &&& (3 : Int32)) - (2 : Int32)).toInt64)) (1000000 : Int64))), (.int (0 : Int32))]))
        refine gv (fun tQ kQ => XS.ifYes X80.here hx rfl (pc0 := 223) (pc' := 230) rfl (hb hby at_223) rfl ((if0 _ _).trans (tlt ((lw_gt _ _).mpr hb82)).2.2.1) (by decide) (by decide) kQ) ?_
        show G (T80.setTop (mkF me_ 230 #[.val (.int p0), .val (.long p1), .second, .val (.int p2), .val (.int (7 : Int32)), .val (.ref A_OFFSETS), .val (.long (1000000 : Int64)), .second, .val (.int (1 : Int32)), .val (.long ((1000000 : Int64) + (((p2 &&& (3 : Int32)) - (2 : Int32)).toInt64))), .second, .unset] [(.int (0 : Int32))]))
        refine gv (fun tQ kQ => XS.iconst X80.here hx rfl (hb hby at_230) kQ) ?_
        show G (T80.setTop (mkF me_ 231 #[.val (.int p0), .val (.long p1), .second, .val (.int p2), .val (.int (7 : Int32)), .val (.ref A_OFFSETS), .val (.long (1000000 : Int64)), .second, .val (.int (1 : Int32)), .val (.long ((1000000 : Int64) + (((p2 &&& (3 : Int32)) - (2 : Int32)).toInt64))), .second, .unset] [(.int (0 : Int32)), (.int (0 : Int32))]))
        refine gv (fun tQ kQ => XS.icmpNo X80.here hx rfl (hb hby at_231) rfl (teq (by decide : (0 : Int32) = (0 : Int32))).2 kQ) ?_
        show G (T80.setTop (mkF me_ 234 #[.val (.int p0), .val (.long p1), .second, .val (.int p2), .val (.int (7 : Int32)), .val (.ref A_OFFSETS), .val (.long (1000000 : Int64)), .second, .val (.int (1 : Int32)), .val (.long ((1000000 : Int64) + (((p2 &&& (3 : Int32)) - (2 : Int32)).toInt64))), .second, .unset] []))
        refine gv (fun tQ kQ => XS.iconst X80.here hx rfl (hb hby at_234) kQ) ?_
        show G (T80.setTop (mkF me_ 235 #[.val (.int p0), .val (.long p1), .second, .val (.int p2), .val (.int (7 : Int32)), .val (.ref A_OFFSETS), .val (.long (1000000 : Int64)), .second, .val (.int (1 : Int32)), .val (.long ((1000000 : Int64) + (((p2 &&& (3 : Int32)) - (2 : Int32)).toInt64))), .second, .unset] [(.int (1 : Int32))]))
        refine gv (fun tQ kQ => XS.goto X80.here hx rfl (pc0 := 235) (pc' := 239) rfl (hb hby at_235) (by decide) (by decide) kQ) ?_
        show G (T80.setTop (mkF me_ 239 #[.val (.int p0), .val (.long p1), .second, .val (.int p2), .val (.int (7 : Int32)), .val (.ref A_OFFSETS), .val (.long (1000000 : Int64)), .second, .val (.int (1 : Int32)), .val (.long ((1000000 : Int64) + (((p2 &&& (3 : Int32)) - (2 : Int32)).toInt64))), .second, .unset] [(.int (1 : Int32))]))
        refine gv (fun tQ kQ => XS.istore X80.here hx rfl (hb hby at_239) rfl (l' := #[.val (.int p0), .val (.long p1), .second, .val (.int p2), .val (.int (7 : Int32)), .val (.ref A_OFFSETS), .val (.long (1000000 : Int64)), .second, .val (.int (1 : Int32)), .val (.long ((1000000 : Int64) + (((p2 &&& (3 : Int32)) - (2 : Int32)).toInt64))), .second, .val (.int (1 : Int32))]) rfl kQ) ?_
        show G (T80.setTop (mkF me_ 241 #[.val (.int p0), .val (.long p1), .second, .val (.int p2), .val (.int (7 : Int32)), .val (.ref A_OFFSETS), .val (.long (1000000 : Int64)), .second, .val (.int (1 : Int32)), .val (.long ((1000000 : Int64) + (((p2 &&& (3 : Int32)) - (2 : Int32)).toInt64))), .second, .val (.int (1 : Int32))] []))
        refine gv (fun tQ kQ => XS.iload X80.here hx rfl (hb hby at_241) rfl kQ) ?_
        show G (T80.setTop (mkF me_ 243 #[.val (.int p0), .val (.long p1), .second, .val (.int p2), .val (.int (7 : Int32)), .val (.ref A_OFFSETS), .val (.long (1000000 : Int64)), .second, .val (.int (1 : Int32)), .val (.long ((1000000 : Int64) + (((p2 &&& (3 : Int32)) - (2 : Int32)).toInt64))), .second, .val (.int (1 : Int32))] [(.int (1 : Int32))]))
        refine gv (fun tQ kQ => XS.ifNo X80.here hx rfl (hb hby at_243) rfl ((if0 _ _).trans (feq (by decide : ¬ ((1 : Int32) = (0 : Int32)))).1) kQ) ?_
        show G (T80.setTop (mkF me_ 246 #[.val (.int p0), .val (.long p1), .second, .val (.int p2), .val (.int (7 : Int32)), .val (.ref A_OFFSETS), .val (.long (1000000 : Int64)), .second, .val (.int (1 : Int32)), .val (.long ((1000000 : Int64) + (((p2 &&& (3 : Int32)) - (2 : Int32)).toInt64))), .second, .val (.int (1 : Int32))] []))
        refine gv (fun tQ kQ => XS.iload X80.here hx rfl (hb hby at_246) rfl kQ) ?_
        show G (T80.setTop (mkF me_ 248 #[.val (.int p0), .val (.long p1), .second, .val (.int p2), .val (.int (7 : Int32)), .val (.ref A_OFFSETS), .val (.long (1000000 : Int64)), .second, .val (.int (1 : Int32)), .val (.long ((1000000 : Int64) + (((p2 &&& (3 : Int32)) - (2 : Int32)).toInt64))), .second, .val (.int (1 : Int32))] [(.int (1 : Int32))]))
        refine gv (fun tQ kQ => XS.ifNo X80.here hx rfl (hb hby at_248) rfl ((if0 _ _).trans (feq (by decide : ¬ ((1 : Int32) = (0 : Int32)))).1) kQ) ?_
        show G (T80.setTop (mkF me_ 251 #[.val (.int p0), .val (.long p1), .second, .val (.int p2), .val (.int (7 : Int32)), .val (.ref A_OFFSETS), .val (.long (1000000 : Int64)), .second, .val (.int (1 : Int32)), .val (.long ((1000000 : Int64) + (((p2 &&& (3 : Int32)) - (2 : Int32)).toInt64))), .second, .val (.int (1 : Int32))] []))
        refine gv (fun tQ kQ => XS.iconst X80.here hx rfl (hb hby at_251) kQ) ?_
        show G (T80.setTop (mkF me_ 252 #[.val (.int p0), .val (.long p1), .second, .val (.int p2), .val (.int (7 : Int32)), .val (.ref A_OFFSETS), .val (.long (1000000 : Int64)), .second, .val (.int (1 : Int32)), .val (.long ((1000000 : Int64) + (((p2 &&& (3 : Int32)) - (2 : Int32)).toInt64))), .second, .val (.int (1 : Int32))] [(.int (1 : Int32))]))
        refine gv (fun tQ kQ => XS.goto X80.here hx rfl (pc0 := 252) (pc' := 256) rfl (hb hby at_252) (by decide) (by decide) kQ) ?_
        show G (T80.setTop (mkF me_ 256 #[.val (.int p0), .val (.long p1), .second, .val (.int p2), .val (.int (7 : Int32)), .val (.ref A_OFFSETS), .val (.long (1000000 : Int64)), .second, .val (.int (1 : Int32)), .val (.long ((1000000 : Int64) + (((p2 &&& (3 : Int32)) - (2 : Int32)).toInt64))), .second, .val (.int (1 : Int32))] [(.int (1 : Int32))]))
        refine gf _ (own_ret X80 Bd.notSynchronized (v := some (.int (1 : Int32))) (fun h => by rw [Bd.returns] at h; cases h) ?_ (by decide) (by decide) (fun fs hr => retN X80 hx (t := .boolean) Bd.returns (by simp) (hb hby at_256) hr))
        show Q0 Z p0 p1 p2 A_TOPICS A_ROUTE_QUEUES A_GROUPS A_MEMBERS A_GROUP_MEMBERS A_MEMBER_TOPICS A_QUEUES A_OFFSETS A_OPTIONS_BYTES h0 n0 _ T80.heap _
        rw [eq80]
        exact ⟨rfl, N81⟩
      · skip
        rw [if_neg hb82] at st80
        refine gv (fun tQ kQ => st80.trans kQ) ?_
        show G (T80.setTop (mkF me_ 218 #[.val (.int p0), .val (.long p1), .second, .val (.int p2), .val (.int (7 : Int32)), .val (.ref A_OFFSETS), .val (.long (1000000 : Int64)), .second, .val (.int (1 : Int32)), .val (.long ((1000000 : Int64) + (((p2 &&& (3 : Int32)) - (2 : Int32)).toInt64))), .second, .unset] [(.int (1 : Int32))]))
        refine gv (fun tQ kQ => XS.lload X80.here hx rfl (hb hby at_218) rfl kQ) ?_
        show G (T80.setTop (mkF me_ 220 #[.val (.int p0), .val (.long p1), .second, .val (.int p2), .val (.int (7 : Int32)), .val (.ref A_OFFSETS), .val (.long (1000000 : Int64)), .second, .val (.int (1 : Int32)), .val (.long ((1000000 : Int64) + (((p2 &&& (3 : Int32)) - (2 : Int32)).toInt64))), .second, .unset] [(.long ((1000000 : Int64) + (((p2 &&& (3 : Int32)) - (2 : Int32)).toInt64))), (.int (1 : Int32))]))
        refine gv (fun tQ kQ => XS.lload X80.here hx rfl (hb hby at_220) rfl kQ) ?_
        show G (T80.setTop (mkF me_ 222 #[.val (.int p0), .val (.long p1), .second, .val (.int p2), .val (.int (7 : Int32)), .val (.ref A_OFFSETS), .val (.long (1000000 : Int64)), .second, .val (.int (1 : Int32)), .val (.long ((1000000 : Int64) + (((p2 &&& (3 : Int32)) - (2 : Int32)).toInt64))), .second, .unset] [(.long (1000000 : Int64)), (.long ((1000000 : Int64) + (((p2 &&& (3 : Int32)) - (2 : Int32)).toInt64))), (.int (1 : Int32))]))
        refine gv (fun tQ kQ => XS.lcmp X80.here hx rfl (hb hby at_222) rfl kQ) ?_
        show G (T80.setTop (mkF me_ 223 #[.val (.int p0), .val (.long p1), .second, .val (.int p2), .val (.int (7 : Int32)), .val (.ref A_OFFSETS), .val (.long (1000000 : Int64)), .second, .val (.int (1 : Int32)), .val (.long ((1000000 : Int64) + (((p2 &&& (3 : Int32)) - (2 : Int32)).toInt64))), .second, .unset] [(.int (lcmpW ((1000000 : Int64) + (((p2 &&& (3 : Int32)) - (2 : Int32)).toInt64)) (1000000 : Int64))), (.int (1 : Int32))]))
        refine gv (fun tQ kQ => XS.ifNo X80.here hx rfl (hb hby at_223) rfl ((if0 _ _).trans (flt (mt (lw_gt _ _).mp hb82)).2.2.1) kQ) ?_
        show G (T80.setTop (mkF me_ 226 #[.val (.int p0), .val (.long p1), .second, .val (.int p2), .val (.int (7 : Int32)), .val (.ref A_OFFSETS), .val (.long (1000000 : Int64)), .second, .val (.int (1 : Int32)), .val (.long ((1000000 : Int64) + (((p2 &&& (3 : Int32)) - (2 : Int32)).toInt64))), .second, .unset] [(.int (1 : Int32))]))
        refine gv (fun tQ kQ => XS.iconst X80.here hx rfl (hb hby at_226) kQ) ?_
        show G (T80.setTop (mkF me_ 227 #[.val (.int p0), .val (.long p1), .second, .val (.int p2), .val (.int (7 : Int32)), .val (.ref A_OFFSETS), .val (.long (1000000 : Int64)), .second, .val (.int (1 : Int32)), .val (.long ((1000000 : Int64) + (((p2 &&& (3 : Int32)) - (2 : Int32)).toInt64))), .second, .unset] [(.int (1 : Int32)), (.int (1 : Int32))]))
        refine gv (fun tQ kQ => XS.goto X80.here hx rfl (pc0 := 227) (pc' := 231) rfl (hb hby at_227) (by decide) (by decide) kQ) ?_
        show G (T80.setTop (mkF me_ 231 #[.val (.int p0), .val (.long p1), .second, .val (.int p2), .val (.int (7 : Int32)), .val (.ref A_OFFSETS), .val (.long (1000000 : Int64)), .second, .val (.int (1 : Int32)), .val (.long ((1000000 : Int64) + (((p2 &&& (3 : Int32)) - (2 : Int32)).toInt64))), .second, .unset] [(.int (1 : Int32)), (.int (1 : Int32))]))
        refine gv (fun tQ kQ => XS.icmpNo X80.here hx rfl (hb hby at_231) rfl (teq (by decide : (1 : Int32) = (1 : Int32))).2 kQ) ?_
        show G (T80.setTop (mkF me_ 234 #[.val (.int p0), .val (.long p1), .second, .val (.int p2), .val (.int (7 : Int32)), .val (.ref A_OFFSETS), .val (.long (1000000 : Int64)), .second, .val (.int (1 : Int32)), .val (.long ((1000000 : Int64) + (((p2 &&& (3 : Int32)) - (2 : Int32)).toInt64))), .second, .unset] []))
        refine gv (fun tQ kQ => XS.iconst X80.here hx rfl (hb hby at_234) kQ) ?_
        show G (T80.setTop (mkF me_ 235 #[.val (.int p0), .val (.long p1), .second, .val (.int p2), .val (.int (7 : Int32)), .val (.ref A_OFFSETS), .val (.long (1000000 : Int64)), .second, .val (.int (1 : Int32)), .val (.long ((1000000 : Int64) + (((p2 &&& (3 : Int32)) - (2 : Int32)).toInt64))), .second, .unset] [(.int (1 : Int32))]))
        refine gv (fun tQ kQ => XS.goto X80.here hx rfl (pc0 := 235) (pc' := 239) rfl (hb hby at_235) (by decide) (by decide) kQ) ?_
        show G (T80.setTop (mkF me_ 239 #[.val (.int p0), .val (.long p1), .second, .val (.int p2), .val (.int (7 : Int32)), .val (.ref A_OFFSETS), .val (.long (1000000 : Int64)), .second, .val (.int (1 : Int32)), .val (.long ((1000000 : Int64) + (((p2 &&& (3 : Int32)) - (2 : Int32)).toInt64))), .second, .unset] [(.int (1 : Int32))]))
        refine gv (fun tQ kQ => XS.istore X80.here hx rfl (hb hby at_239) rfl (l' := #[.val (.int p0), .val (.long p1), .second, .val (.int p2), .val (.int (7 : Int32)), .val (.ref A_OFFSETS), .val (.long (1000000 : Int64)), .second, .val (.int (1 : Int32)), .val (.long ((1000000 : Int64) + (((p2 &&& (3 : Int32)) - (2 : Int32)).toInt64))), .second, .val (.int (1 : Int32))]) rfl kQ) ?_
        show G (T80.setTop (mkF me_ 241 #[.val (.int p0), .val (.long p1), .second, .val (.int p2), .val (.int (7 : Int32)), .val (.ref A_OFFSETS), .val (.long (1000000 : Int64)), .second, .val (.int (1 : Int32)), .val (.long ((1000000 : Int64) + (((p2 &&& (3 : Int32)) - (2 : Int32)).toInt64))), .second, .val (.int (1 : Int32))] []))
        refine gv (fun tQ kQ => XS.iload X80.here hx rfl (hb hby at_241) rfl kQ) ?_
        show G (T80.setTop (mkF me_ 243 #[.val (.int p0), .val (.long p1), .second, .val (.int p2), .val (.int (7 : Int32)), .val (.ref A_OFFSETS), .val (.long (1000000 : Int64)), .second, .val (.int (1 : Int32)), .val (.long ((1000000 : Int64) + (((p2 &&& (3 : Int32)) - (2 : Int32)).toInt64))), .second, .val (.int (1 : Int32))] [(.int (1 : Int32))]))
        refine gv (fun tQ kQ => XS.ifNo X80.here hx rfl (hb hby at_243) rfl ((if0 _ _).trans (feq (by decide : ¬ ((1 : Int32) = (0 : Int32)))).1) kQ) ?_
        show G (T80.setTop (mkF me_ 246 #[.val (.int p0), .val (.long p1), .second, .val (.int p2), .val (.int (7 : Int32)), .val (.ref A_OFFSETS), .val (.long (1000000 : Int64)), .second, .val (.int (1 : Int32)), .val (.long ((1000000 : Int64) + (((p2 &&& (3 : Int32)) - (2 : Int32)).toInt64))), .second, .val (.int (1 : Int32))] []))
        refine gv (fun tQ kQ => XS.iload X80.here hx rfl (hb hby at_246) rfl kQ) ?_
        show G (T80.setTop (mkF me_ 248 #[.val (.int p0), .val (.long p1), .second, .val (.int p2), .val (.int (7 : Int32)), .val (.ref A_OFFSETS), .val (.long (1000000 : Int64)), .second, .val (.int (1 : Int32)), .val (.long ((1000000 : Int64) + (((p2 &&& (3 : Int32)) - (2 : Int32)).toInt64))), .second, .val (.int (1 : Int32))] [(.int (1 : Int32))]))
        refine gv (fun tQ kQ => XS.ifNo X80.here hx rfl (hb hby at_248) rfl ((if0 _ _).trans (feq (by decide : ¬ ((1 : Int32) = (0 : Int32)))).1) kQ) ?_
        show G (T80.setTop (mkF me_ 251 #[.val (.int p0), .val (.long p1), .second, .val (.int p2), .val (.int (7 : Int32)), .val (.ref A_OFFSETS), .val (.long (1000000 : Int64)), .second, .val (.int (1 : Int32)), .val (.long ((1000000 : Int64) + (((p2 &&& (3 : Int32)) - (2 : Int32)).toInt64))), .second, .val (.int (1 : Int32))] []))
        refine gv (fun tQ kQ => XS.iconst X80.here hx rfl (hb hby at_251) kQ) ?_
        show G (T80.setTop (mkF me_ 252 #[.val (.int p0), .val (.long p1), .second, .val (.int p2), .val (.int (7 : Int32)), .val (.ref A_OFFSETS), .val (.long (1000000 : Int64)), .second, .val (.int (1 : Int32)), .val (.long ((1000000 : Int64) + (((p2 &&& (3 : Int32)) - (2 : Int32)).toInt64))), .second, .val (.int (1 : Int32))] [(.int (1 : Int32))]))
        refine gv (fun tQ kQ => XS.goto X80.here hx rfl (pc0 := 252) (pc' := 256) rfl (hb hby at_252) (by decide) (by decide) kQ) ?_
        show G (T80.setTop (mkF me_ 256 #[.val (.int p0), .val (.long p1), .second, .val (.int p2), .val (.int (7 : Int32)), .val (.ref A_OFFSETS), .val (.long (1000000 : Int64)), .second, .val (.int (1 : Int32)), .val (.long ((1000000 : Int64) + (((p2 &&& (3 : Int32)) - (2 : Int32)).toInt64))), .second, .val (.int (1 : Int32))] [(.int (1 : Int32))]))
        refine gf _ (own_ret X80 Bd.notSynchronized (v := some (.int (1 : Int32))) (fun h => by rw [Bd.returns] at h; cases h) ?_ (by decide) (by decide) (fun fs hr => retN X80 hx (t := .boolean) Bd.returns (by simp) (hb hby at_256) hr))
        show Q0 Z p0 p1 p2 A_TOPICS A_ROUTE_QUEUES A_GROUPS A_MEMBERS A_GROUP_MEMBERS A_MEMBER_TOPICS A_QUEUES A_OFFSETS A_OPTIONS_BYTES h0 n0 _ T80.heap _
        rw [eq80]
        exact ⟨rfl, N81⟩
  · rw [q]
    show G (s₁.setTop (mkF me_ 9 #[.val (.int p0), .val (.long p1), .second, .val (.int p2), .val (.int (8 : Int32)), .unset, .unset, .unset, .unset, .unset, .unset, .unset] []))
    refine gv (fun tQ kQ => XS.iload X0.here hx rfl (hb hby at_9) rfl kQ) ?_
    show G (s₁.setTop (mkF me_ 11 #[.val (.int p0), .val (.long p1), .second, .val (.int p2), .val (.int (8 : Int32)), .unset, .unset, .unset, .unset, .unset, .unset, .unset] [(.int (8 : Int32))]))
    refine gv (fun tQ kQ => XS.ifYes X0.here hx rfl (pc0 := 11) (pc' := 27) rfl (hb hby at_11) rfl ((if0 _ _).trans (feq (by decide : ¬ ((8 : Int32) = (0 : Int32)))).2) (by decide) (by decide) kQ) ?_
    show G (s₁.setTop (mkF me_ 27 #[.val (.int p0), .val (.long p1), .second, .val (.int p2), .val (.int (8 : Int32)), .unset, .unset, .unset, .unset, .unset, .unset, .unset] []))
    refine gv (fun tQ kQ => XS.iload X0.here hx rfl (hb hby at_27) rfl kQ) ?_
    show G (s₁.setTop (mkF me_ 29 #[.val (.int p0), .val (.long p1), .second, .val (.int p2), .val (.int (8 : Int32)), .unset, .unset, .unset, .unset, .unset, .unset, .unset] [(.int (8 : Int32))]))
    refine gv (fun tQ kQ => XS.iconst X0.here hx rfl (hb hby at_29) kQ) ?_
    show G (s₁.setTop (mkF me_ 30 #[.val (.int p0), .val (.long p1), .second, .val (.int p2), .val (.int (8 : Int32)), .unset, .unset, .unset, .unset, .unset, .unset, .unset] [(.int (1 : Int32)), (.int (8 : Int32))]))
    refine gv (fun tQ kQ => XS.icmpYes X0.here hx rfl (pc0 := 30) (pc' := 46) rfl (hb hby at_30) rfl (feq (by decide : ¬ ((8 : Int32) = (1 : Int32)))).2 (by decide) (by decide) kQ) ?_
    show G (s₁.setTop (mkF me_ 46 #[.val (.int p0), .val (.long p1), .second, .val (.int p2), .val (.int (8 : Int32)), .unset, .unset, .unset, .unset, .unset, .unset, .unset] []))
    refine gv (fun tQ kQ => XS.iload X0.here hx rfl (hb hby at_46) rfl kQ) ?_
    show G (s₁.setTop (mkF me_ 48 #[.val (.int p0), .val (.long p1), .second, .val (.int p2), .val (.int (8 : Int32)), .unset, .unset, .unset, .unset, .unset, .unset, .unset] [(.int (8 : Int32))]))
    refine gv (fun tQ kQ => XS.iconst X0.here hx rfl (hb hby at_48) kQ) ?_
    show G (s₁.setTop (mkF me_ 49 #[.val (.int p0), .val (.long p1), .second, .val (.int p2), .val (.int (8 : Int32)), .unset, .unset, .unset, .unset, .unset, .unset, .unset] [(.int (2 : Int32)), (.int (8 : Int32))]))
    refine gv (fun tQ kQ => XS.icmpYes X0.here hx rfl (pc0 := 49) (pc' := 65) rfl (hb hby at_49) rfl (feq (by decide : ¬ ((8 : Int32) = (2 : Int32)))).2 (by decide) (by decide) kQ) ?_
    show G (s₁.setTop (mkF me_ 65 #[.val (.int p0), .val (.long p1), .second, .val (.int p2), .val (.int (8 : Int32)), .unset, .unset, .unset, .unset, .unset, .unset, .unset] []))
    refine gv (fun tQ kQ => XS.iload X0.here hx rfl (hb hby at_65) rfl kQ) ?_
    show G (s₁.setTop (mkF me_ 67 #[.val (.int p0), .val (.long p1), .second, .val (.int p2), .val (.int (8 : Int32)), .unset, .unset, .unset, .unset, .unset, .unset, .unset] [(.int (8 : Int32))]))
    refine gv (fun tQ kQ => XS.iconst X0.here hx rfl (hb hby at_67) kQ) ?_
    show G (s₁.setTop (mkF me_ 68 #[.val (.int p0), .val (.long p1), .second, .val (.int p2), .val (.int (8 : Int32)), .unset, .unset, .unset, .unset, .unset, .unset, .unset] [(.int (3 : Int32)), (.int (8 : Int32))]))
    refine gv (fun tQ kQ => XS.icmpYes X0.here hx rfl (pc0 := 68) (pc' := 84) rfl (hb hby at_68) rfl (feq (by decide : ¬ ((8 : Int32) = (3 : Int32)))).2 (by decide) (by decide) kQ) ?_
    show G (s₁.setTop (mkF me_ 84 #[.val (.int p0), .val (.long p1), .second, .val (.int p2), .val (.int (8 : Int32)), .unset, .unset, .unset, .unset, .unset, .unset, .unset] []))
    refine gv (fun tQ kQ => XS.iload X0.here hx rfl (hb hby at_84) rfl kQ) ?_
    show G (s₁.setTop (mkF me_ 86 #[.val (.int p0), .val (.long p1), .second, .val (.int p2), .val (.int (8 : Int32)), .unset, .unset, .unset, .unset, .unset, .unset, .unset] [(.int (8 : Int32))]))
    refine gv (fun tQ kQ => XS.iconst X0.here hx rfl (hb hby at_86) kQ) ?_
    show G (s₁.setTop (mkF me_ 87 #[.val (.int p0), .val (.long p1), .second, .val (.int p2), .val (.int (8 : Int32)), .unset, .unset, .unset, .unset, .unset, .unset, .unset] [(.int (4 : Int32)), (.int (8 : Int32))]))
    refine gv (fun tQ kQ => XS.icmpYes X0.here hx rfl (pc0 := 87) (pc' := 103) rfl (hb hby at_87) rfl (feq (by decide : ¬ ((8 : Int32) = (4 : Int32)))).2 (by decide) (by decide) kQ) ?_
    show G (s₁.setTop (mkF me_ 103 #[.val (.int p0), .val (.long p1), .second, .val (.int p2), .val (.int (8 : Int32)), .unset, .unset, .unset, .unset, .unset, .unset, .unset] []))
    refine gv (fun tQ kQ => XS.iload X0.here hx rfl (hb hby at_103) rfl kQ) ?_
    show G (s₁.setTop (mkF me_ 105 #[.val (.int p0), .val (.long p1), .second, .val (.int p2), .val (.int (8 : Int32)), .unset, .unset, .unset, .unset, .unset, .unset, .unset] [(.int (8 : Int32))]))
    refine gv (fun tQ kQ => XS.iconst X0.here hx rfl (hb hby at_105) kQ) ?_
    show G (s₁.setTop (mkF me_ 106 #[.val (.int p0), .val (.long p1), .second, .val (.int p2), .val (.int (8 : Int32)), .unset, .unset, .unset, .unset, .unset, .unset, .unset] [(.int (5 : Int32)), (.int (8 : Int32))]))
    refine gv (fun tQ kQ => XS.icmpYes X0.here hx rfl (pc0 := 106) (pc' := 122) rfl (hb hby at_106) rfl (feq (by decide : ¬ ((8 : Int32) = (5 : Int32)))).2 (by decide) (by decide) kQ) ?_
    show G (s₁.setTop (mkF me_ 122 #[.val (.int p0), .val (.long p1), .second, .val (.int p2), .val (.int (8 : Int32)), .unset, .unset, .unset, .unset, .unset, .unset, .unset] []))
    refine gv (fun tQ kQ => XS.iload X0.here hx rfl (hb hby at_122) rfl kQ) ?_
    show G (s₁.setTop (mkF me_ 124 #[.val (.int p0), .val (.long p1), .second, .val (.int p2), .val (.int (8 : Int32)), .unset, .unset, .unset, .unset, .unset, .unset, .unset] [(.int (8 : Int32))]))
    refine gv (fun tQ kQ => XS.bipush X0.here hx rfl (hb hby at_124) kQ) ?_
    show G (s₁.setTop (mkF me_ 126 #[.val (.int p0), .val (.long p1), .second, .val (.int p2), .val (.int (8 : Int32)), .unset, .unset, .unset, .unset, .unset, .unset, .unset] [(.int (6 : Int32)), (.int (8 : Int32))]))
    refine gv (fun tQ kQ => XS.icmpYes X0.here hx rfl (pc0 := 126) (pc' := 142) rfl (hb hby at_126) rfl (feq (by decide : ¬ ((8 : Int32) = (6 : Int32)))).2 (by decide) (by decide) kQ) ?_
    show G (s₁.setTop (mkF me_ 142 #[.val (.int p0), .val (.long p1), .second, .val (.int p2), .val (.int (8 : Int32)), .unset, .unset, .unset, .unset, .unset, .unset, .unset] []))
    refine gv (fun tQ kQ => XS.iload X0.here hx rfl (hb hby at_142) rfl kQ) ?_
    show G (s₁.setTop (mkF me_ 144 #[.val (.int p0), .val (.long p1), .second, .val (.int p2), .val (.int (8 : Int32)), .unset, .unset, .unset, .unset, .unset, .unset, .unset] [(.int (8 : Int32))]))
    refine gv (fun tQ kQ => XS.bipush X0.here hx rfl (hb hby at_144) kQ) ?_
    show G (s₁.setTop (mkF me_ 146 #[.val (.int p0), .val (.long p1), .second, .val (.int p2), .val (.int (8 : Int32)), .unset, .unset, .unset, .unset, .unset, .unset, .unset] [(.int (7 : Int32)), (.int (8 : Int32))]))
    refine gv (fun tQ kQ => XS.icmpYes X0.here hx rfl (pc0 := 146) (pc' := 162) rfl (hb hby at_146) rfl (feq (by decide : ¬ ((8 : Int32) = (7 : Int32)))).2 (by decide) (by decide) kQ) ?_
    show G (s₁.setTop (mkF me_ 162 #[.val (.int p0), .val (.long p1), .second, .val (.int p2), .val (.int (8 : Int32)), .unset, .unset, .unset, .unset, .unset, .unset, .unset] []))
    obtain ⟨T83, X83, e83, st83⟩ := getS2 X0 hx hZ hown (host := "") (Or.inl (hw _ (List.mem_of_getElem? (i := 25) rfl))) Via.refl e0 (u8.ext O0.2) (g := (mkF me_ 162 #[.val (.int p0), .val (.long p1), .second, .val (.int p2), .val (.int (8 : Int32)), .unset, .unset, .unset, .unset, .unset, .unset, .unset] [])) rfl (hb hby at_162)
    refine gv st83 ?_
    show G (T83.setTop (mkF me_ 165 #[.val (.int p0), .val (.long p1), .second, .val (.int p2), .val (.int (8 : Int32)), .unset, .unset, .unset, .unset, .unset, .unset, .unset] [(.ref A_OPTIONS_BYTES)]))
    refine gv (fun tQ kQ => XS.astore X83.here hx rfl (hb hby at_165) rfl rfl (l' := #[.val (.int p0), .val (.long p1), .second, .val (.int p2), .val (.int (8 : Int32)), .val (.ref A_OPTIONS_BYTES), .unset, .unset, .unset, .unset, .unset, .unset]) rfl kQ) ?_
    show G (T83.setTop (mkF me_ 167 #[.val (.int p0), .val (.long p1), .second, .val (.int p2), .val (.int (8 : Int32)), .val (.ref A_OPTIONS_BYTES), .unset, .unset, .unset, .unset, .unset, .unset] []))
    refine gv (X83.ldc2Long hx hown (mvT hZ (hw _ (List.mem_of_getElem? (i := 27) rfl))) (g := (mkF me_ 167 #[.val (.int p0), .val (.long p1), .second, .val (.int p2), .val (.int (8 : Int32)), .val (.ref A_OPTIONS_BYTES), .unset, .unset, .unset, .unset, .unset, .unset] [])) rfl (hb hby at_167)) ?_
    show G (T83.setTop (mkF me_ 170 #[.val (.int p0), .val (.long p1), .second, .val (.int p2), .val (.int (8 : Int32)), .val (.ref A_OPTIONS_BYTES), .unset, .unset, .unset, .unset, .unset, .unset] [(.long (16777216 : Int64))]))
    refine gv (fun tQ kQ => XS.lstore X83.here hx rfl (hb hby at_170) rfl (l' := #[.val (.int p0), .val (.long p1), .second, .val (.int p2), .val (.int (8 : Int32)), .val (.ref A_OPTIONS_BYTES), .val (.long (16777216 : Int64)), .second, .unset, .unset, .unset, .unset]) rfl kQ) ?_
    show G (T83.setTop (mkF me_ 172 #[.val (.int p0), .val (.long p1), .second, .val (.int p2), .val (.int (8 : Int32)), .val (.ref A_OPTIONS_BYTES), .val (.long (16777216 : Int64)), .second, .unset, .unset, .unset, .unset] []))
    refine gv (fun tQ kQ => XS.aload X83.here hx rfl (hb hby at_172) rfl rfl kQ) ?_
    show G (T83.setTop (mkF me_ 174 #[.val (.int p0), .val (.long p1), .second, .val (.int p2), .val (.int (8 : Int32)), .val (.ref A_OPTIONS_BYTES), .val (.long (16777216 : Int64)), .second, .unset, .unset, .unset, .unset] [(.ref A_OPTIONS_BYTES)]))
    refine gv (fun tQ kQ => XS.lloadN X83.here hx rfl (hb hby at_174) rfl kQ) ?_
    show G (T83.setTop (mkF me_ 175 #[.val (.int p0), .val (.long p1), .second, .val (.int p2), .val (.int (8 : Int32)), .val (.ref A_OPTIONS_BYTES), .val (.long (16777216 : Int64)), .second, .unset, .unset, .unset, .unset] [(.long p1), (.ref A_OPTIONS_BYTES)]))
    obtain ⟨cq84, kq84, q84a, q84b, q84c⟩ := isOf hZ e83 (u17.ext O0.2)
    obtain ⟨_, _, ⟨T84, L84, k84, n84⟩, -, X84, ⟨Lc84, hQ84, l84, y84, z84⟩, st84⟩ := X83.virtualBack hx (y := (⟨"com/example/slot1/slot1/server/Limit", "allows", "(J)Z"⟩ : MethodName)) (z := (⟨"com/example/slot1/slot1/server/Limit", "allows", "(J)Z"⟩ : MethodName)) hown (mvT hZ (hw _ (List.mem_of_getElem? (i := 5) rfl))) (mvT hZ (hw _ (List.mem_of_getElem? (i := 6) rfl))) (notFace_of_selects (args := #[]) (mvT hZ (hw _ (List.mem_of_getElem? (i := 8) rfl)))) (mvT hZ (hw _ (List.mem_of_getElem? (i := 8) rfl))) (mvT hZ (hw _ (List.mem_of_getElem? (i := 7) rfl))) (by decide) (backOf (W := 0) (rm_allows l Z a0 hw [] A_OPTIONS_BYTES p1 (16777216 : Int64) h0 n0 O0 (u26.ext O0.2)) hZ (hw _ (List.mem_of_getElem? (i := 9) rfl)) (hw _ (List.mem_of_getElem? (i := 2) rfl)) (by decide) (by decide)) q84a q84c (g := (mkF me_ 175 #[.val (.int p0), .val (.long p1), .second, .val (.int p2), .val (.int (8 : Int32)), .val (.ref A_OPTIONS_BYTES), .val (.long (16777216 : Int64)), .second, .unset, .unset, .unset, .unset] [(.long p1), (.ref A_OPTIONS_BYTES)])) rfl (by rw [hml]; rfl) (Steps.refl _) (argsL := [(.long p1)]) (rest := []) (lenOf pd_0 rfl) rfl (by show 2 * 0 + _ ≤ _; exact Nat.le_of_eq rfl) (hb hby at_175) (fun _ _ => ⟨rfl, e83, (by decide : 0 + 0 ≤ _), (by decide : 0 + 0 ≤ _)⟩)
    dsimp only [Pt.U, Pt.locs, Pt.cells, Pt.slots] at X84 l84 y84 z84 st84 hQ84
    subst l84 y84 z84
    obtain ⟨rfl, Nq84, eq84⟩ := hQ84
    have N85 := Fr.app N0 Nq84
    by_cases hb86 : (16777216 : Int64) < p1
    · rw [if_pos hb86] at st84
      refine gv (fun tQ kQ => st84.trans kQ) ?_
      show G (T84.setTop (mkF me_ 178 #[.val (.int p0), .val (.long p1), .second, .val (.int p2), .val (.int (8 : Int32)), .val (.ref A_OPTIONS_BYTES), .val (.long (16777216 : Int64)), .second, .unset, .unset, .unset, .unset] [(.int (0 : Int32))]))
      refine gv (fun tQ kQ => XS.lloadN X84.here hx rfl (hb hby at_178) rfl kQ) ?_
      show G (T84.setTop (mkF me_ 179 #[.val (.int p0), .val (.long p1), .second, .val (.int p2), .val (.int (8 : Int32)), .val (.ref A_OPTIONS_BYTES), .val (.long (16777216 : Int64)), .second, .unset, .unset, .unset, .unset] [(.long p1), (.int (0 : Int32))]))
      refine gv (fun tQ kQ => XS.lload X84.here hx rfl (hb hby at_179) rfl kQ) ?_
      show G (T84.setTop (mkF me_ 181 #[.val (.int p0), .val (.long p1), .second, .val (.int p2), .val (.int (8 : Int32)), .val (.ref A_OPTIONS_BYTES), .val (.long (16777216 : Int64)), .second, .unset, .unset, .unset, .unset] [(.long (16777216 : Int64)), (.long p1), (.int (0 : Int32))]))
      refine gv (fun tQ kQ => XS.lcmp X84.here hx rfl (hb hby at_181) rfl kQ) ?_
      show G (T84.setTop (mkF me_ 182 #[.val (.int p0), .val (.long p1), .second, .val (.int p2), .val (.int (8 : Int32)), .val (.ref A_OPTIONS_BYTES), .val (.long (16777216 : Int64)), .second, .unset, .unset, .unset, .unset] [(.int (lcmpW p1 (16777216 : Int64))), (.int (0 : Int32))]))
      refine gv (fun tQ kQ => XS.ifYes X84.here hx rfl (pc0 := 182) (pc' := 189) rfl (hb hby at_182) rfl ((if0 _ _).trans (tlt ((lw_gt _ _).mpr hb86)).2.2.1) (by decide) (by decide) kQ) ?_
      show G (T84.setTop (mkF me_ 189 #[.val (.int p0), .val (.long p1), .second, .val (.int p2), .val (.int (8 : Int32)), .val (.ref A_OPTIONS_BYTES), .val (.long (16777216 : Int64)), .second, .unset, .unset, .unset, .unset] [(.int (0 : Int32))]))
      refine gv (fun tQ kQ => XS.iconst X84.here hx rfl (hb hby at_189) kQ) ?_
      show G (T84.setTop (mkF me_ 190 #[.val (.int p0), .val (.long p1), .second, .val (.int p2), .val (.int (8 : Int32)), .val (.ref A_OPTIONS_BYTES), .val (.long (16777216 : Int64)), .second, .unset, .unset, .unset, .unset] [(.int (0 : Int32)), (.int (0 : Int32))]))
      refine gv (fun tQ kQ => XS.icmpNo X84.here hx rfl (hb hby at_190) rfl (teq (by decide : (0 : Int32) = (0 : Int32))).2 kQ) ?_
      show G (T84.setTop (mkF me_ 193 #[.val (.int p0), .val (.long p1), .second, .val (.int p2), .val (.int (8 : Int32)), .val (.ref A_OPTIONS_BYTES), .val (.long (16777216 : Int64)), .second, .unset, .unset, .unset, .unset] []))
      refine gv (fun tQ kQ => XS.iconst X84.here hx rfl (hb hby at_193) kQ) ?_
      show G (T84.setTop (mkF me_ 194 #[.val (.int p0), .val (.long p1), .second, .val (.int p2), .val (.int (8 : Int32)), .val (.ref A_OPTIONS_BYTES), .val (.long (16777216 : Int64)), .second, .unset, .unset, .unset, .unset] [(.int (1 : Int32))]))
      refine gv (fun tQ kQ => XS.goto X84.here hx rfl (pc0 := 194) (pc' := 198) rfl (hb hby at_194) (by decide) (by decide) kQ) ?_
      show G (T84.setTop (mkF me_ 198 #[.val (.int p0), .val (.long p1), .second, .val (.int p2), .val (.int (8 : Int32)), .val (.ref A_OPTIONS_BYTES), .val (.long (16777216 : Int64)), .second, .unset, .unset, .unset, .unset] [(.int (1 : Int32))]))
      refine gv (fun tQ kQ => XS.istore X84.here hx rfl (hb hby at_198) rfl (l' := #[.val (.int p0), .val (.long p1), .second, .val (.int p2), .val (.int (8 : Int32)), .val (.ref A_OPTIONS_BYTES), .val (.long (16777216 : Int64)), .second, .val (.int (1 : Int32)), .unset, .unset, .unset]) rfl kQ) ?_
      show G (T84.setTop (mkF me_ 200 #[.val (.int p0), .val (.long p1), .second, .val (.int p2), .val (.int (8 : Int32)), .val (.ref A_OPTIONS_BYTES), .val (.long (16777216 : Int64)), .second, .val (.int (1 : Int32)), .unset, .unset, .unset] []))
      refine gv (fun tQ kQ => XS.lload X84.here hx rfl (hb hby at_200) rfl kQ) ?_
      show G (T84.setTop (mkF me_ 202 #[.val (.int p0), .val (.long p1), .second, .val (.int p2), .val (.int (8 : Int32)), .val (.ref A_OPTIONS_BYTES), .val (.long (16777216 : Int64)), .second, .val (.int (1 : Int32)), .unset, .unset, .unset] [(.long (16777216 : Int64))]))
      refine gv (fun tQ kQ => XS.iloadN X84.here hx rfl (hb hby at_202) rfl kQ) ?_
      show G (T84.setTop (mkF me_ 203 #[.val (.int p0), .val (.long p1), .second, .val (.int p2), .val (.int (8 : Int32)), .val (.ref A_OPTIONS_BYTES), .val (.long (16777216 : Int64)), .second, .val (.int (1 : Int32)), .unset, .unset, .unset] [(.int p2), (.long (16777216 : Int64))]))
      refine gv (fun tQ kQ => XS.iconst X84.here hx rfl (hb hby at_203) kQ) ?_
      show G (T84.setTop (mkF me_ 204 #[.val (.int p0), .val (.long p1), .second, .val (.int p2), .val (.int (8 : Int32)), .val (.ref A_OPTIONS_BYTES), .val (.long (16777216 : Int64)), .second, .val (.int (1 : Int32)), .unset, .unset, .unset] [(.int (3 : Int32)), (.int p2), (.long (16777216 : Int64))]))
      refine gv (fun tQ kQ => XS.iand X84.here hx rfl (hb hby at_204) rfl kQ) ?_
      show G (T84.setTop (mkF me_ 205 #[.val (.int p0), .val (.long p1), .second, .val (.int p2), .val (.int (8 : Int32)), .val (.ref A_OPTIONS_BYTES), .val (.long (16777216 : Int64)), .second, .val (.int (1 : Int32)), .unset, .unset, .unset] [(.int (p2 &&& (3 : Int32))), (.long (16777216 : Int64))]))
      refine gv (fun tQ kQ => XS.iconst X84.here hx rfl (hb hby at_205) kQ) ?_
      show G (T84.setTop (mkF me_ 206 #[.val (.int p0), .val (.long p1), .second, .val (.int p2), .val (.int (8 : Int32)), .val (.ref A_OPTIONS_BYTES), .val (.long (16777216 : Int64)), .second, .val (.int (1 : Int32)), .unset, .unset, .unset] [(.int (2 : Int32)), (.int (p2 &&& (3 : Int32))), (.long (16777216 : Int64))]))
      refine gv (fun tQ kQ => XS.isub X84.here hx rfl (hb hby at_206) rfl kQ) ?_
      show G (T84.setTop (mkF me_ 207 #[.val (.int p0), .val (.long p1), .second, .val (.int p2), .val (.int (8 : Int32)), .val (.ref A_OPTIONS_BYTES), .val (.long (16777216 : Int64)), .second, .val (.int (1 : Int32)), .unset, .unset, .unset] [(.int ((p2 &&& (3 : Int32)) - (2 : Int32))), (.long (16777216 : Int64))]))
      refine gv (fun tQ kQ => XS.i2l X84.here hx rfl (hb hby at_207) rfl kQ) ?_
      show G (T84.setTop (mkF me_ 208 #[.val (.int p0), .val (.long p1), .second, .val (.int p2), .val (.int (8 : Int32)), .val (.ref A_OPTIONS_BYTES), .val (.long (16777216 : Int64)), .second, .val (.int (1 : Int32)), .unset, .unset, .unset] [(.long (((p2 &&& (3 : Int32)) - (2 : Int32)).toInt64)), (.long (16777216 : Int64))]))
      refine gv (fun tQ kQ => XS.ladd X84.here hx rfl (hb hby at_208) rfl kQ) ?_
      show G (T84.setTop (mkF me_ 209 #[.val (.int p0), .val (.long p1), .second, .val (.int p2), .val (.int (8 : Int32)), .val (.ref A_OPTIONS_BYTES), .val (.long (16777216 : Int64)), .second, .val (.int (1 : Int32)), .unset, .unset, .unset] [(.long ((16777216 : Int64) + (((p2 &&& (3 : Int32)) - (2 : Int32)).toInt64)))]))
      refine gv (fun tQ kQ => XS.lstore X84.here hx rfl (hb hby at_209) rfl (l' := #[.val (.int p0), .val (.long p1), .second, .val (.int p2), .val (.int (8 : Int32)), .val (.ref A_OPTIONS_BYTES), .val (.long (16777216 : Int64)), .second, .val (.int (1 : Int32)), .val (.long ((16777216 : Int64) + (((p2 &&& (3 : Int32)) - (2 : Int32)).toInt64))), .second, .unset]) rfl kQ) ?_
      show G (T84.setTop (mkF me_ 211 #[.val (.int p0), .val (.long p1), .second, .val (.int p2), .val (.int (8 : Int32)), .val (.ref A_OPTIONS_BYTES), .val (.long (16777216 : Int64)), .second, .val (.int (1 : Int32)), .val (.long ((16777216 : Int64) + (((p2 &&& (3 : Int32)) - (2 : Int32)).toInt64))), .second, .unset] []))
      refine gv (fun tQ kQ => XS.aload X84.here hx rfl (hb hby at_211) rfl rfl kQ) ?_
      show G (T84.setTop (mkF me_ 213 #[.val (.int p0), .val (.long p1), .second, .val (.int p2), .val (.int (8 : Int32)), .val (.ref A_OPTIONS_BYTES), .val (.long (16777216 : Int64)), .second, .val (.int (1 : Int32)), .val (.long ((16777216 : Int64) + (((p2 &&& (3 : Int32)) - (2 : Int32)).toInt64))), .second, .unset] [(.ref A_OPTIONS_BYTES)]))
      refine gv (fun tQ kQ => XS.lload X84.here hx rfl (hb hby at_213) rfl kQ) ?_
      show G (T84.setTop (mkF me_ 215 #[.val (.int p0), .val (.long p1), .second, .val (.int p2), .val (.int (8 : Int32)), .val (.ref A_OPTIONS_BYTES), .val (.long (16777216 : Int64)), .second, .val (.int (1 : Int32)), .val (.long ((16777216 : Int64) + (((p2 &&& (3 : Int32)) - (2 : Int32)).toInt64))), .second, .unset] [(.long ((16777216 : Int64) + (((p2 &&& (3 : Int32)) - (2 : Int32)).toInt64))), (.ref A_OPTIONS_BYTES)]))
      obtain ⟨cq87, kq87, q87a, q87b, q87c⟩ := isOf hZ eq84 (u17.ext O0.2)
      obtain ⟨_, _, ⟨T87, L87, k87, n87⟩, -, X87, ⟨Lc87, hQ87, l87, y87, z87⟩, st87⟩ := X84.virtualBack hx (y := (⟨"com/example/slot1/slot1/server/Limit", "allows", "(J)Z"⟩ : MethodName)) (z := (⟨"com/example/slot1/slot1/server/Limit", "allows", "(J)Z"⟩ : MethodName)) hown (mvT hZ (hw _ (List.mem_of_getElem? (i := 5) rfl))) (mvT hZ (hw _ (List.mem_of_getElem? (i := 6) rfl))) (notFace_of_selects (args := #[]) (mvT hZ (hw _ (List.mem_of_getElem? (i := 8) rfl)))) (mvT hZ (hw _ (List.mem_of_getElem? (i := 8) rfl))) (mvT hZ (hw _ (List.mem_of_getElem? (i := 7) rfl))) (by decide) (backOf (W := 0) (rm_allows l Z a0 hw [] A_OPTIONS_BYTES ((16777216 : Int64) + (((p2 &&& (3 : Int32)) - (2 : Int32)).toInt64)) (16777216 : Int64) h0 n0 O0 (u26.ext O0.2)) hZ (hw _ (List.mem_of_getElem? (i := 9) rfl)) (hw _ (List.mem_of_getElem? (i := 2) rfl)) (by decide) (by decide)) q87a q87c (g := (mkF me_ 215 #[.val (.int p0), .val (.long p1), .second, .val (.int p2), .val (.int (8 : Int32)), .val (.ref A_OPTIONS_BYTES), .val (.long (16777216 : Int64)), .second, .val (.int (1 : Int32)), .val (.long ((16777216 : Int64) + (((p2 &&& (3 : Int32)) - (2 : Int32)).toInt64))), .second, .unset] [(.long ((16777216 : Int64) + (((p2 &&& (3 : Int32)) - (2 : Int32)).toInt64))), (.ref A_OPTIONS_BYTES)])) rfl (by rw [hml]; rfl) (Steps.refl _) (argsL := [(.long ((16777216 : Int64) + (((p2 &&& (3 : Int32)) - (2 : Int32)).toInt64)))]) (rest := []) (lenOf pd_0 rfl) rfl (by show 2 * 0 + _ ≤ _; exact Nat.le_of_eq rfl) (hb hby at_215) (fun _ _ => ⟨rfl, eq84, (by decide : 0 + 0 ≤ _), (by decide : 0 + 0 ≤ _)⟩)
      dsimp only [Pt.U, Pt.locs, Pt.cells, Pt.slots] at X87 l87 y87 z87 st87 hQ87
      subst l87 y87 z87
      obtain ⟨rfl, Nq87, eq87⟩ := hQ87
      have N88 := Fr.app N85 Nq87
      by_cases hb89 : (16777216 : Int64) < ((16777216 : Int64) + (((p2 &&& (3 : Int32)) - (2 : Int32)).toInt64))
      · rw [if_pos hb89] at st87
        refine gv (fun tQ kQ => st87.trans kQ) ?_
        show G (T87.setTop (mkF me_ 218 #[.val (.int p0), .val (.long p1), .second, .val (.int p2), .val (.int (8 : Int32)), .val (.ref A_OPTIONS_BYTES), .val (.long (16777216 : Int64)), .second, .val (.int (1 : Int32)), .val (.long ((16777216 : Int64) + (((p2 &&& (3 : Int32)) - (2 : Int32)).toInt64))), .second, .unset] [(.int (0 : Int32))]))
        refine gv (fun tQ kQ => XS.lload X87.here hx rfl (hb hby at_218) rfl kQ) ?_
        show G (T87.setTop (mkF me_ 220 #[.val (.int p0), .val (.long p1), .second, .val (.int p2), .val (.int (8 : Int32)), .val (.ref A_OPTIONS_BYTES), .val (.long (16777216 : Int64)), .second, .val (.int (1 : Int32)), .val (.long ((16777216 : Int64) + (((p2 &&& (3 : Int32)) - (2 : Int32)).toInt64))), .second, .unset] [(.long ((16777216 : Int64) + (((p2 &&& (3 : Int32)) - (2 : Int32)).toInt64))), (.int (0 : Int32))]))
        refine gv (fun tQ kQ => XS.lload X87.here hx rfl (hb hby at_220) rfl kQ) ?_
        show G (T87.setTop (mkF me_ 222 #[.val (.int p0), .val (.long p1), .second, .val (.int p2), .val (.int (8 : Int32)), .val (.ref A_OPTIONS_BYTES), .val (.long (16777216 : Int64)), .second, .val (.int (1 : Int32)), .val (.long ((16777216 : Int64) + (((p2 &&& (3 : Int32)) - (2 : Int32)).toInt64))), .second, .unset] [(.long (16777216 : Int64)), (.long ((16777216 : Int64) + (((p2 &&& (3 : Int32)) - (2 : Int32)).toInt64))), (.int (0 : Int32))]))
        refine gv (fun tQ kQ => XS.lcmp X87.here hx rfl (hb hby at_222) rfl kQ) ?_
        show G (T87.setTop (mkF me_ 223 #[.val (.int p0), .val (.long p1), .second, .val (.int p2), .val (.int (8 : Int32)), .val (.ref A_OPTIONS_BYTES), .val (.long (16777216 : Int64)), .second, .val (.int (1 : Int32)), .val (.long ((16777216 : Int64) + (((p2 &&& (3 : Int32)) - (2 : Int32)).toInt64))), .second, .unset] [(.int (lcmpW ((16777216 : Int64) + (((p2 &&& (3 : Int32)) - (2 : Int32)).toInt64)) (16777216 : Int64))), (.int (0 : Int32))]))
        refine gv (fun tQ kQ => XS.ifYes X87.here hx rfl (pc0 := 223) (pc' := 230) rfl (hb hby at_223) rfl ((if0 _ _).trans (tlt ((lw_gt _ _).mpr hb89)).2.2.1) (by decide) (by decide) kQ) ?_
        show G (T87.setTop (mkF me_ 230 #[.val (.int p0), .val (.long p1), .second, .val (.int p2), .val (.int (8 : Int32)), .val (.ref A_OPTIONS_BYTES), .val (.long (16777216 : Int64)), .second, .val (.int (1 : Int32)), .val (.long ((16777216 : Int64) + (((p2 &&& (3 : Int32)) - (2 : Int32)).toInt64))), .second, .unset] [(.int (0 : Int32))]))
        refine gv (fun tQ kQ => XS.iconst X87.here hx rfl (hb hby at_230) kQ) ?_
        show G (T87.setTop (mkF me_ 231 #[.val (.int p0), .val (.long p1), .second, .val (.int p2), .val (.int (8 : Int32)), .val (.ref A_OPTIONS_BYTES), .val (.long (16777216 : Int64)), .second, .val (.int (1 : Int32)), .val (.long ((16777216 : Int64) + (((p2 &&& (3 : Int32)) - (2 : Int32)).toInt64))), .second, .unset] [(.int (0 : Int32)), (.int (0 : Int32))]))
        refine gv (fun tQ kQ => XS.icmpNo X87.here hx rfl (hb hby at_231) rfl (teq (by decide : (0 : Int32) = (0 : Int32))).2 kQ) ?_
        show G (T87.setTop (mkF me_ 234 #[.val (.int p0), .val (.long p1), .second, .val (.int p2), .val (.int (8 : Int32)), .val (.ref A_OPTIONS_BYTES), .val (.long (16777216 : Int64)), .second, .val (.int (1 : Int32)), .val (.long ((16777216 : Int64) + (((p2 &&& (3 : Int32)) - (2 : Int32)).toInt64))), .second, .unset] []))
        refine gv (fun tQ kQ => XS.iconst X87.here hx rfl (hb hby at_234) kQ) ?_
        show G (T87.setTop (mkF me_ 235 #[.val (.int p0), .val (.long p1), .second, .val (.int p2), .val (.int (8 : Int32)), .val (.ref A_OPTIONS_BYTES), .val (.long (16777216 : Int64)), .second, .val (.int (1 : Int32)), .val (.long ((16777216 : Int64) + (((p2 &&& (3 : Int32)) - (2 : Int32)).toInt64))), .second, .unset] [(.int (1 : Int32))]))
        refine gv (fun tQ kQ => XS.goto X87.here hx rfl (pc0 := 235) (pc' := 239) rfl (hb hby at_235) (by decide) (by decide) kQ) ?_
        show G (T87.setTop (mkF me_ 239 #[.val (.int p0), .val (.long p1), .second, .val (.int p2), .val (.int (8 : Int32)), .val (.ref A_OPTIONS_BYTES), .val (.long (16777216 : Int64)), .second, .val (.int (1 : Int32)), .val (.long ((16777216 : Int64) + (((p2 &&& (3 : Int32)) - (2 : Int32)).toInt64))), .second, .unset] [(.int (1 : Int32))]))
        refine gv (fun tQ kQ => XS.istore X87.here hx rfl (hb hby at_239) rfl (l' := #[.val (.int p0), .val (.long p1), .second, .val (.int p2), .val (.int (8 : Int32)), .val (.ref A_OPTIONS_BYTES), .val (.long (16777216 : Int64)), .second, .val (.int (1 : Int32)), .val (.long ((16777216 : Int64) + (((p2 &&& (3 : Int32)) - (2 : Int32)).toInt64))), .second, .val (.int (1 : Int32))]) rfl kQ) ?_
        show G (T87.setTop (mkF me_ 241 #[.val (.int p0), .val (.long p1), .second, .val (.int p2), .val (.int (8 : Int32)), .val (.ref A_OPTIONS_BYTES), .val (.long (16777216 : Int64)), .second, .val (.int (1 : Int32)), .val (.long ((16777216 : Int64) + (((p2 &&& (3 : Int32)) - (2 : Int32)).toInt64))), .second, .val (.int (1 : Int32))] []))
        refine gv (fun tQ kQ => XS.iload X87.here hx rfl (hb hby at_241) rfl kQ) ?_
        show G (T87.setTop (mkF me_ 243 #[.val (.int p0), .val (.long p1), .second, .val (.int p2), .val (.int (8 : Int32)), .val (.ref A_OPTIONS_BYTES), .val (.long (16777216 : Int64)), .second, .val (.int (1 : Int32)), .val (.long ((16777216 : Int64) + (((p2 &&& (3 : Int32)) - (2 : Int32)).toInt64))), .second, .val (.int (1 : Int32))] [(.int (1 : Int32))]))
        refine gv (fun tQ kQ => XS.ifNo X87.here hx rfl (hb hby at_243) rfl ((if0 _ _).trans (feq (by decide : ¬ ((1 : Int32) = (0 : Int32)))).1) kQ) ?_
        show G (T87.setTop (mkF me_ 246 #[.val (.int p0), .val (.long p1), .second, .val (.int p2), .val (.int (8 : Int32)), .val (.ref A_OPTIONS_BYTES), .val (.long (16777216 : Int64)), .second, .val (.int (1 : Int32)), .val (.long ((16777216 : Int64) + (((p2 &&& (3 : Int32)) - (2 : Int32)).toInt64))), .second, .val (.int (1 : Int32))] []))
        refine gv (fun tQ kQ => XS.iload X87.here hx rfl (hb hby at_246) rfl kQ) ?_
        show G (T87.setTop (mkF me_ 248 #[.val (.int p0), .val (.long p1), .second, .val (.int p2), .val (.int (8 : Int32)), .val (.ref A_OPTIONS_BYTES), .val (.long (16777216 : Int64)), .second, .val (.int (1 : Int32)), .val (.long ((16777216 : Int64) + (((p2 &&& (3 : Int32)) - (2 : Int32)).toInt64))), .second, .val (.int (1 : Int32))] [(.int (1 : Int32))]))
        refine gv (fun tQ kQ => XS.ifNo X87.here hx rfl (hb hby at_248) rfl ((if0 _ _).trans (feq (by decide : ¬ ((1 : Int32) = (0 : Int32)))).1) kQ) ?_
        show G (T87.setTop (mkF me_ 251 #[.val (.int p0), .val (.long p1), .second, .val (.int p2), .val (.int (8 : Int32)), .val (.ref A_OPTIONS_BYTES), .val (.long (16777216 : Int64)), .second, .val (.int (1 : Int32)), .val (.long ((16777216 : Int64) + (((p2 &&& (3 : Int32)) - (2 : Int32)).toInt64))), .second, .val (.int (1 : Int32))] []))
        refine gv (fun tQ kQ => XS.iconst X87.here hx rfl (hb hby at_251) kQ) ?_
        show G (T87.setTop (mkF me_ 252 #[.val (.int p0), .val (.long p1), .second, .val (.int p2), .val (.int (8 : Int32)), .val (.ref A_OPTIONS_BYTES), .val (.long (16777216 : Int64)), .second, .val (.int (1 : Int32)), .val (.long ((16777216 : Int64) + (((p2 &&& (3 : Int32)) - (2 : Int32)).toInt64))), .second, .val (.int (1 : Int32))] [(.int (1 : Int32))]))
        refine gv (fun tQ kQ => XS.goto X87.here hx rfl (pc0 := 252) (pc' := 256) rfl (hb hby at_252) (by decide) (by decide) kQ) ?_
        show G (T87.setTop (mkF me_ 256 #[.val (.int p0), .val (.long p1), .second, .val (.int p2), .val (.int (8 : Int32)), .val (.ref A_OPTIONS_BYTES), .val (.long (16777216 : Int64)), .second, .val (.int (1 : Int32)), .val (.long ((16777216 : Int64) + (((p2 &&& (3 : Int32)) - (2 : Int32)).toInt64))), .second, .val (.int (1 : Int32))] [(.int (1 : Int32))]))
        refine gf _ (own_ret X87 Bd.notSynchronized (v := some (.int (1 : Int32))) (fun h => by rw [Bd.returns] at h; cases h) ?_ (by decide) (by decide) (fun fs hr => retN X87 hx (t := .boolean) Bd.returns (by simp) (hb hby at_256) hr))
        show Q0 Z p0 p1 p2 A_TOPICS A_ROUTE_QUEUES A_GROUPS A_MEMBERS A_GROUP_MEMBERS A_MEMBER_TOPICS A_QUEUES A_OFFSETS A_OPTIONS_BYTES h0 n0 _ T87.heap _
        rw [eq87]
        exact ⟨rfl, N88⟩
      · skip
        rw [if_neg hb89] at st87
        refine gv (fun tQ kQ => st87.trans kQ) ?_
        show G (T87.setTop (mkF me_ 218 #[.val (.int p0), .val (.long p1), .second, .val (.int p2), .val (.int (8 : Int32)), .val (.ref A_OPTIONS_BYTES), .val (.long (16777216 : Int64)), .second, .val (.int (1 : Int32)), .val (.long ((16777216 : Int64) + (((p2 &&& (3 : Int32)) - (2 : Int32)).toInt64))), .second, .unset] [(.int (1 : Int32))]))
        refine gv (fun tQ kQ => XS.lload X87.here hx rfl (hb hby at_218) rfl kQ) ?_
        show G (T87.setTop (mkF me_ 220 #[.val (.int p0), .val (.long p1), .second, .val (.int p2), .val (.int (8 : Int32)), .val (.ref A_OPTIONS_BYTES), .val (.long (16777216 : Int64)), .second, .val (.int (1 : Int32)), .val (.long ((16777216 : Int64) + (((p2 &&& (3 : Int32)) - (2 : Int32)).toInt64))), .second, .unset] [(.long ((16777216 : Int64) + (((p2 &&& (3 : Int32)) - (2 : Int32)).toInt64))), (.int (1 : Int32))]))
        refine gv (fun tQ kQ => XS.lload X87.here hx rfl (hb hby at_220) rfl kQ) ?_
        show G (T87.setTop (mkF me_ 222 #[.val (.int p0), .val (.long p1), .second, .val (.int p2), .val (.int (8 : Int32)), .val (.ref A_OPTIONS_BYTES), .val (.long (16777216 : Int64)), .second, .val (.int (1 : Int32)), .val (.long ((16777216 : Int64) + (((p2 &&& (3 : Int32)) - (2 : Int32)).toInt64))), .second, .unset] [(.long (16777216 : Int64)), (.long ((16777216 : Int64) + (((p2 &&& (3 : Int32)) - (2 : Int32)).toInt64))), (.int (1 : Int32))]))
        refine gv (fun tQ kQ => XS.lcmp X87.here hx rfl (hb hby at_222) rfl kQ) ?_
        show G (T87.setTop (mkF me_ 223 #[.val (.int p0), .val (.long p1), .second, .val (.int p2), .val (.int (8 : Int32)), .val (.ref A_OPTIONS_BYTES), .val (.long (16777216 : Int64)), .second, .val (.int (1 : Int32)), .val (.long ((16777216 : Int64) + (((p2 &&& (3 : Int32)) - (2 : Int32)).toInt64))), .second, .unset] [(.int (lcmpW ((16777216 : Int64) + (((p2 &&& (3 : Int32)) - (2 : Int32)).toInt64)) (16777216 : Int64))), (.int (1 : Int32))]))
        refine gv (fun tQ kQ => XS.ifNo X87.here hx rfl (hb hby at_223) rfl ((if0 _ _).trans (flt (mt (lw_gt _ _).mp hb89)).2.2.1) kQ) ?_
        show G (T87.setTop (mkF me_ 226 #[.val (.int p0), .val (.long p1), .second, .val (.int p2), .val (.int (8 : Int32)), .val (.ref A_OPTIONS_BYTES), .val (.long (16777216 : Int64)), .second, .val (.int (1 : Int32)), .val (.long ((16777216 : Int64) + (((p2 &&& (3 : Int32)) - (2 : Int32)).toInt64))), .second, .unset] [(.int (1 : Int32))]))
        refine gv (fun tQ kQ => XS.iconst X87.here hx rfl (hb hby at_226) kQ) ?_
        show G (T87.setTop (mkF me_ 227 #[.val (.int p0), .val (.long p1), .second, .val (.int p2), .val (.int (8 : Int32)), .val (.ref A_OPTIONS_BYTES), .val (.long (16777216 : Int64)), .second, .val (.int (1 : Int32)), .val (.long ((16777216 : Int64) + (((p2 &&& (3 : Int32)) - (2 : Int32)).toInt64))), .second, .unset] [(.int (1 : Int32)), (.int (1 : Int32))]))
        refine gv (fun tQ kQ => XS.goto X87.here hx rfl (pc0 := 227) (pc' := 231) rfl (hb hby at_227) (by decide) (by decide) kQ) ?_
        show G (T87.setTop (mkF me_ 231 #[.val (.int p0), .val (.long p1), .second, .val (.int p2), .val (.int (8 : Int32)), .val (.ref A_OPTIONS_BYTES), .val (.long (16777216 : Int64)), .second, .val (.int (1 : Int32)), .val (.long ((16777216 : Int64) + (((p2 &&& (3 : Int32)) - (2 : Int32)).toInt64))), .second, .unset] [(.int (1 : Int32)), (.int (1 : Int32))]))
        refine gv (fun tQ kQ => XS.icmpNo X87.here hx rfl (hb hby at_231) rfl (teq (by decide : (1 : Int32) = (1 : Int32))).2 kQ) ?_
        show G (T87.setTop (mkF me_ 234 #[.val (.int p0), .val (.long p1), .second, .val (.int p2), .val (.int (8 : Int32)), .val (.ref A_OPTIONS_BYTES), .val (.long (16777216 : Int64)), .second, .val (.int (1 : Int32)), .val (.long ((16777216 : Int64) + (((p2 &&& (3 : Int32)) - (2 : Int32)).toInt64))), .second, .unset] []))
        refine gv (fun tQ kQ => XS.iconst X87.here hx rfl (hb hby at_234) kQ) ?_
        show G (T87.setTop (mkF me_ 235 #[.val (.int p0), .val (.long p1), .second, .val (.int p2), .val (.int (8 : Int32)), .val (.ref A_OPTIONS_BYTES), .val (.long (16777216 : Int64)), .second, .val (.int (1 : Int32)), .val (.long ((16777216 : Int64) + (((p2 &&& (3 : Int32)) - (2 : Int32)).toInt64))), .second, .unset] [(.int (1 : Int32))]))
        refine gv (fun tQ kQ => XS.goto X87.here hx rfl (pc0 := 235) (pc' := 239) rfl (hb hby at_235) (by decide) (by decide) kQ) ?_
        show G (T87.setTop (mkF me_ 239 #[.val (.int p0), .val (.long p1), .second, .val (.int p2), .val (.int (8 : Int32)), .val (.ref A_OPTIONS_BYTES), .val (.long (16777216 : Int64)), .second, .val (.int (1 : Int32)), .val (.long ((16777216 : Int64) + (((p2 &&& (3 : Int32)) - (2 : Int32)).toInt64))), .second, .unset] [(.int (1 : Int32))]))
        refine gv (fun tQ kQ => XS.istore X87.here hx rfl (hb hby at_239) rfl (l' := #[.val (.int p0), .val (.long p1), .second, .val (.int p2), .val (.int (8 : Int32)), .val (.ref A_OPTIONS_BYTES), .val (.long (16777216 : Int64)), .second, .val (.int (1 : Int32)), .val (.long ((16777216 : Int64) + (((p2 &&& (3 : Int32)) - (2 : Int32)).toInt64))), .second, .val (.int (1 : Int32))]) rfl kQ) ?_
        show G (T87.setTop (mkF me_ 241 #[.val (.int p0), .val (.long p1), .second, .val (.int p2), .val (.int (8 : Int32)), .val (.ref A_OPTIONS_BYTES), .val (.long (16777216 : Int64)), .second, .val (.int (1 : Int32)), .val (.long ((16777216 : Int64) + (((p2 &&& (3 : Int32)) - (2 : Int32)).toInt64))), .second, .val (.int (1 : Int32))] []))
        refine gv (fun tQ kQ => XS.iload X87.here hx rfl (hb hby at_241) rfl kQ) ?_
        show G (T87.setTop (mkF me_ 243 #[.val (.int p0), .val (.long p1), .second, .val (.int p2), .val (.int (8 : Int32)), .val (.ref A_OPTIONS_BYTES), .val (.long (16777216 : Int64)), .second, .val (.int (1 : Int32)), .val (.long ((16777216 : Int64) + (((p2 &&& (3 : Int32)) - (2 : Int32)).toInt64))), .second, .val (.int (1 : Int32))] [(.int (1 : Int32))]))
        refine gv (fun tQ kQ => XS.ifNo X87.here hx rfl (hb hby at_243) rfl ((if0 _ _).trans (feq (by decide : ¬ ((1 : Int32) = (0 : Int32)))).1) kQ) ?_
        show G (T87.setTop (mkF me_ 246 #[.val (.int p0), .val (.long p1), .second, .val (.int p2), .val (.int (8 : Int32)), .val (.ref A_OPTIONS_BYTES), .val (.long (16777216 : Int64)), .second, .val (.int (1 : Int32)), .val (.long ((16777216 : Int64) + (((p2 &&& (3 : Int32)) - (2 : Int32)).toInt64))), .second, .val (.int (1 : Int32))] []))
        refine gv (fun tQ kQ => XS.iload X87.here hx rfl (hb hby at_246) rfl kQ) ?_
        show G (T87.setTop (mkF me_ 248 #[.val (.int p0), .val (.long p1), .second, .val (.int p2), .val (.int (8 : Int32)), .val (.ref A_OPTIONS_BYTES), .val (.long (16777216 : Int64)), .second, .val (.int (1 : Int32)), .val (.long ((16777216 : Int64) + (((p2 &&& (3 : Int32)) - (2 : Int32)).toInt64))), .second, .val (.int (1 : Int32))] [(.int (1 : Int32))]))
        refine gv (fun tQ kQ => XS.ifNo X87.here hx rfl (hb hby at_248) rfl ((if0 _ _).trans (feq (by decide : ¬ ((1 : Int32) = (0 : Int32)))).1) kQ) ?_
        show G (T87.setTop (mkF me_ 251 #[.val (.int p0), .val (.long p1), .second, .val (.int p2), .val (.int (8 : Int32)), .val (.ref A_OPTIONS_BYTES), .val (.long (16777216 : Int64)), .second, .val (.int (1 : Int32)), .val (.long ((16777216 : Int64) + (((p2 &&& (3 : Int32)) - (2 : Int32)).toInt64))), .second, .val (.int (1 : Int32))] []))
        refine gv (fun tQ kQ => XS.iconst X87.here hx rfl (hb hby at_251) kQ) ?_
        show G (T87.setTop (mkF me_ 252 #[.val (.int p0), .val (.long p1), .second, .val (.int p2), .val (.int (8 : Int32)), .val (.ref A_OPTIONS_BYTES), .val (.long (16777216 : Int64)), .second, .val (.int (1 : Int32)), .val (.long ((16777216 : Int64) + (((p2 &&& (3 : Int32)) - (2 : Int32)).toInt64))), .second, .val (.int (1 : Int32))] [(.int (1 : Int32))]))
        refine gv (fun tQ kQ => XS.goto X87.here hx rfl (pc0 := 252) (pc' := 256) rfl (hb hby at_252) (by decide) (by decide) kQ) ?_
        show G (T87.setTop (mkF me_ 256 #[.val (.int p0), .val (.long p1), .second, .val (.int p2), .val (.int (8 : Int32)), .val (.ref A_OPTIONS_BYTES), .val (.long (16777216 : Int64)), .second, .val (.int (1 : Int32)), .val (.long ((16777216 : Int64) + (((p2 &&& (3 : Int32)) - (2 : Int32)).toInt64))), .second, .val (.int (1 : Int32))] [(.int (1 : Int32))]))
        refine gf _ (own_ret X87 Bd.notSynchronized (v := some (.int (1 : Int32))) (fun h => by rw [Bd.returns] at h; cases h) ?_ (by decide) (by decide) (fun fs hr => retN X87 hx (t := .boolean) Bd.returns (by simp) (hb hby at_256) hr))
        show Q0 Z p0 p1 p2 A_TOPICS A_ROUTE_QUEUES A_GROUPS A_MEMBERS A_GROUP_MEMBERS A_MEMBER_TOPICS A_QUEUES A_OFFSETS A_OPTIONS_BYTES h0 n0 _ T87.heap _
        rw [eq87]
        exact ⟨rfl, N88⟩
    · skip
      rw [if_neg hb86] at st84
      refine gv (fun tQ kQ => st84.trans kQ) ?_
      show G (T84.setTop (mkF me_ 178 #[.val (.int p0), .val (.long p1), .second, .val (.int p2), .val (.int (8 : Int32)), .val (.ref A_OPTIONS_BYTES), .val (.long (16777216 : Int64)), .second, .unset, .unset, .unset, .unset] [(.int (1 : Int32))]))
      refine gv (fun tQ kQ => XS.lloadN X84.here hx rfl (hb hby at_178) rfl kQ) ?_
      show G (T84.setTop (mkF me_ 179 #[.val (.int p0), .val (.long p1), .second, .val (.int p2), .val (.int (8 : Int32)), .val (.ref A_OPTIONS_BYTES), .val (.long (16777216 : Int64)), .second, .unset, .unset, .unset, .unset] [(.long p1), (.int (1 : Int32))]))
      refine gv (fun tQ kQ => XS.lload X84.here hx rfl (hb hby at_179) rfl kQ) ?_
      show G (T84.setTop (mkF me_ 181 #[.val (.int p0), .val (.long p1), .second, .val (.int p2), .val (.int (8 : Int32)), .val (.ref A_OPTIONS_BYTES), .val (.long (16777216 : Int64)), .second, .unset, .unset, .unset, .unset] [(.long (16777216 : Int64)), (.long p1), (.int (1 : Int32))]))
      refine gv (fun tQ kQ => XS.lcmp X84.here hx rfl (hb hby at_181) rfl kQ) ?_
      show G (T84.setTop (mkF me_ 182 #[.val (.int p0), .val (.long p1), .second, .val (.int p2), .val (.int (8 : Int32)), .val (.ref A_OPTIONS_BYTES), .val (.long (16777216 : Int64)), .second, .unset, .unset, .unset, .unset] [(.int (lcmpW p1 (16777216 : Int64))), (.int (1 : Int32))]))
      refine gv (fun tQ kQ => XS.ifNo X84.here hx rfl (hb hby at_182) rfl ((if0 _ _).trans (flt (mt (lw_gt _ _).mp hb86)).2.2.1) kQ) ?_
      show G (T84.setTop (mkF me_ 185 #[.val (.int p0), .val (.long p1), .second, .val (.int p2), .val (.int (8 : Int32)), .val (.ref A_OPTIONS_BYTES), .val (.long (16777216 : Int64)), .second, .unset, .unset, .unset, .unset] [(.int (1 : Int32))]))
      refine gv (fun tQ kQ => XS.iconst X84.here hx rfl (hb hby at_185) kQ) ?_
      show G (T84.setTop (mkF me_ 186 #[.val (.int p0), .val (.long p1), .second, .val (.int p2), .val (.int (8 : Int32)), .val (.ref A_OPTIONS_BYTES), .val (.long (16777216 : Int64)), .second, .unset, .unset, .unset, .unset] [(.int (1 : Int32)), (.int (1 : Int32))]))
      refine gv (fun tQ kQ => XS.goto X84.here hx rfl (pc0 := 186) (pc' := 190) rfl (hb hby at_186) (by decide) (by decide) kQ) ?_
      show G (T84.setTop (mkF me_ 190 #[.val (.int p0), .val (.long p1), .second, .val (.int p2), .val (.int (8 : Int32)), .val (.ref A_OPTIONS_BYTES), .val (.long (16777216 : Int64)), .second, .unset, .unset, .unset, .unset] [(.int (1 : Int32)), (.int (1 : Int32))]))
      refine gv (fun tQ kQ => XS.icmpNo X84.here hx rfl (hb hby at_190) rfl (teq (by decide : (1 : Int32) = (1 : Int32))).2 kQ) ?_
      show G (T84.setTop (mkF me_ 193 #[.val (.int p0), .val (.long p1), .second, .val (.int p2), .val (.int (8 : Int32)), .val (.ref A_OPTIONS_BYTES), .val (.long (16777216 : Int64)), .second, .unset, .unset, .unset, .unset] []))
      refine gv (fun tQ kQ => XS.iconst X84.here hx rfl (hb hby at_193) kQ) ?_
      show G (T84.setTop (mkF me_ 194 #[.val (.int p0), .val (.long p1), .second, .val (.int p2), .val (.int (8 : Int32)), .val (.ref A_OPTIONS_BYTES), .val (.long (16777216 : Int64)), .second, .unset, .unset, .unset, .unset] [(.int (1 : Int32))]))
      refine gv (fun tQ kQ => XS.goto X84.here hx rfl (pc0 := 194) (pc' := 198) rfl (hb hby at_194) (by decide) (by decide) kQ) ?_
      show G (T84.setTop (mkF me_ 198 #[.val (.int p0), .val (.long p1), .second, .val (.int p2), .val (.int (8 : Int32)), .val (.ref A_OPTIONS_BYTES), .val (.long (16777216 : Int64)), .second, .unset, .unset, .unset, .unset] [(.int (1 : Int32))]))
      refine gv (fun tQ kQ => XS.istore X84.here hx rfl (hb hby at_198) rfl (l' := #[.val (.int p0), .val (.long p1), .second, .val (.int p2), .val (.int (8 : Int32)), .val (.ref A_OPTIONS_BYTES), .val (.long (16777216 : Int64)), .second, .val (.int (1 : Int32)), .unset, .unset, .unset]) rfl kQ) ?_
      show G (T84.setTop (mkF me_ 200 #[.val (.int p0), .val (.long p1), .second, .val (.int p2), .val (.int (8 : Int32)), .val (.ref A_OPTIONS_BYTES), .val (.long (16777216 : Int64)), .second, .val (.int (1 : Int32)), .unset, .unset, .unset] []))
      refine gv (fun tQ kQ => XS.lload X84.here hx rfl (hb hby at_200) rfl kQ) ?_
      show G (T84.setTop (mkF me_ 202 #[.val (.int p0), .val (.long p1), .second, .val (.int p2), .val (.int (8 : Int32)), .val (.ref A_OPTIONS_BYTES), .val (.long (16777216 : Int64)), .second, .val (.int (1 : Int32)), .unset, .unset, .unset] [(.long (16777216 : Int64))]))
      refine gv (fun tQ kQ => XS.iloadN X84.here hx rfl (hb hby at_202) rfl kQ) ?_
      show G (T84.setTop (mkF me_ 203 #[.val (.int p0), .val (.long p1), .second, .val (.int p2), .val (.int (8 : Int32)), .val (.ref A_OPTIONS_BYTES), .val (.long (16777216 : Int64)), .second, .val (.int (1 : Int32)), .unset, .unset, .unset] [(.int p2), (.long (16777216 : Int64))]))
      refine gv (fun tQ kQ => XS.iconst X84.here hx rfl (hb hby at_203) kQ) ?_
      show G (T84.setTop (mkF me_ 204 #[.val (.int p0), .val (.long p1), .second, .val (.int p2), .val (.int (8 : Int32)), .val (.ref A_OPTIONS_BYTES), .val (.long (16777216 : Int64)), .second, .val (.int (1 : Int32)), .unset, .unset, .unset] [(.int (3 : Int32)), (.int p2), (.long (16777216 : Int64))]))
      refine gv (fun tQ kQ => XS.iand X84.here hx rfl (hb hby at_204) rfl kQ) ?_
      show G (T84.setTop (mkF me_ 205 #[.val (.int p0), .val (.long p1), .second, .val (.int p2), .val (.int (8 : Int32)), .val (.ref A_OPTIONS_BYTES), .val (.long (16777216 : Int64)), .second, .val (.int (1 : Int32)), .unset, .unset, .unset] [(.int (p2 &&& (3 : Int32))), (.long (16777216 : Int64))]))
      refine gv (fun tQ kQ => XS.iconst X84.here hx rfl (hb hby at_205) kQ) ?_
      show G (T84.setTop (mkF me_ 206 #[.val (.int p0), .val (.long p1), .second, .val (.int p2), .val (.int (8 : Int32)), .val (.ref A_OPTIONS_BYTES), .val (.long (16777216 : Int64)), .second, .val (.int (1 : Int32)), .unset, .unset, .unset] [(.int (2 : Int32)), (.int (p2 &&& (3 : Int32))), (.long (16777216 : Int64))]))
      refine gv (fun tQ kQ => XS.isub X84.here hx rfl (hb hby at_206) rfl kQ) ?_
      show G (T84.setTop (mkF me_ 207 #[.val (.int p0), .val (.long p1), .second, .val (.int p2), .val (.int (8 : Int32)), .val (.ref A_OPTIONS_BYTES), .val (.long (16777216 : Int64)), .second, .val (.int (1 : Int32)), .unset, .unset, .unset] [(.int ((p2 &&& (3 : Int32)) - (2 : Int32))), (.long (16777216 : Int64))]))
      refine gv (fun tQ kQ => XS.i2l X84.here hx rfl (hb hby at_207) rfl kQ) ?_
      show G (T84.setTop (mkF me_ 208 #[.val (.int p0), .val (.long p1), .second, .val (.int p2), .val (.int (8 : Int32)), .val (.ref A_OPTIONS_BYTES), .val (.long (16777216 : Int64)), .second, .val (.int (1 : Int32)), .unset, .unset, .unset] [(.long (((p2 &&& (3 : Int32)) - (2 : Int32)).toInt64)), (.long (16777216 : Int64))]))
      refine gv (fun tQ kQ => XS.ladd X84.here hx rfl (hb hby at_208) rfl kQ) ?_
      show G (T84.setTop (mkF me_ 209 #[.val (.int p0), .val (.long p1), .second, .val (.int p2), .val (.int (8 : Int32)), .val (.ref A_OPTIONS_BYTES), .val (.long (16777216 : Int64)), .second, .val (.int (1 : Int32)), .unset, .unset, .unset] [(.long ((16777216 : Int64) + (((p2 &&& (3 : Int32)) - (2 : Int32)).toInt64)))]))
      refine gv (fun tQ kQ => XS.lstore X84.here hx rfl (hb hby at_209) rfl (l' := #[.val (.int p0), .val (.long p1), .second, .val (.int p2), .val (.int (8 : Int32)), .val (.ref A_OPTIONS_BYTES), .val (.long (16777216 : Int64)), .second, .val (.int (1 : Int32)), .val (.long ((16777216 : Int64) + (((p2 &&& (3 : Int32)) - (2 : Int32)).toInt64))), .second, .unset]) rfl kQ) ?_
      show G (T84.setTop (mkF me_ 211 #[.val (.int p0), .val (.long p1), .second, .val (.int p2), .val (.int (8 : Int32)), .val (.ref A_OPTIONS_BYTES), .val (.long (16777216 : Int64)), .second, .val (.int (1 : Int32)), .val (.long ((16777216 : Int64) + (((p2 &&& (3 : Int32)) - (2 : Int32)).toInt64))), .second, .unset] []))
      refine gv (fun tQ kQ => XS.aload X84.here hx rfl (hb hby at_211) rfl rfl kQ) ?_
      show G (T84.setTop (mkF me_ 213 #[.val (.int p0), .val (.long p1), .second, .val (.int p2), .val (.int (8 : Int32)), .val (.ref A_OPTIONS_BYTES), .val (.long (16777216 : Int64)), .second, .val (.int (1 : Int32)), .val (.long ((16777216 : Int64) + (((p2 &&& (3 : Int32)) - (2 : Int32)).toInt64))), .second, .unset] [(.ref A_OPTIONS_BYTES)]))
      refine gv (fun tQ kQ => XS.lload X84.here hx rfl (hb hby at_213) rfl kQ) ?_
      show G (T84.setTop (mkF me_ 215 #[.val (.int p0), .val (.long p1), .second, .val (.int p2), .val (.int (8 : Int32)), .val (.ref A_OPTIONS_BYTES), .val (.long (16777216 : Int64)), .second, .val (.int (1 : Int32)), .val (.long ((16777216 : Int64) + (((p2 &&& (3 : Int32)) - (2 : Int32)).toInt64))), .second, .unset] [(.long ((16777216 : Int64) + (((p2 &&& (3 : Int32)) - (2 : Int32)).toInt64))), (.ref A_OPTIONS_BYTES)]))
      obtain ⟨cq90, kq90, q90a, q90b, q90c⟩ := isOf hZ eq84 (u17.ext O0.2)
      obtain ⟨_, _, ⟨T90, L90, k90, n90⟩, -, X90, ⟨Lc90, hQ90, l90, y90, z90⟩, st90⟩ := X84.virtualBack hx (y := (⟨"com/example/slot1/slot1/server/Limit", "allows", "(J)Z"⟩ : MethodName)) (z := (⟨"com/example/slot1/slot1/server/Limit", "allows", "(J)Z"⟩ : MethodName)) hown (mvT hZ (hw _ (List.mem_of_getElem? (i := 5) rfl))) (mvT hZ (hw _ (List.mem_of_getElem? (i := 6) rfl))) (notFace_of_selects (args := #[]) (mvT hZ (hw _ (List.mem_of_getElem? (i := 8) rfl)))) (mvT hZ (hw _ (List.mem_of_getElem? (i := 8) rfl))) (mvT hZ (hw _ (List.mem_of_getElem? (i := 7) rfl))) (by decide) (backOf (W := 0) (rm_allows l Z a0 hw [] A_OPTIONS_BYTES ((16777216 : Int64) + (((p2 &&& (3 : Int32)) - (2 : Int32)).toInt64)) (16777216 : Int64) h0 n0 O0 (u26.ext O0.2)) hZ (hw _ (List.mem_of_getElem? (i := 9) rfl)) (hw _ (List.mem_of_getElem? (i := 2) rfl)) (by decide) (by decide)) q90a q90c (g := (mkF me_ 215 #[.val (.int p0), .val (.long p1), .second, .val (.int p2), .val (.int (8 : Int32)), .val (.ref A_OPTIONS_BYTES), .val (.long (16777216 : Int64)), .second, .val (.int (1 : Int32)), .val (.long ((16777216 : Int64) + (((p2 &&& (3 : Int32)) - (2 : Int32)).toInt64))), .second, .unset] [(.long ((16777216 : Int64) + (((p2 &&& (3 : Int32)) - (2 : Int32)).toInt64))), (.ref A_OPTIONS_BYTES)])) rfl (by rw [hml]; rfl) (Steps.refl _) (argsL := [(.long ((16777216 : Int64) + (((p2 &&& (3 : Int32)) - (2 : Int32)).toInt64)))]) (rest := []) (lenOf pd_0 rfl) rfl (by show 2 * 0 + _ ≤ _; exact Nat.le_of_eq rfl) (hb hby at_215) (fun _ _ => ⟨rfl, eq84, (by decide : 0 + 0 ≤ _), (by decide : 0 + 0 ≤ _)⟩)
      dsimp only [Pt.U, Pt.locs, Pt.cells, Pt.slots] at X90 l90 y90 z90 st90 hQ90
      subst l90 y90 z90
      obtain ⟨rfl, Nq90, eq90⟩ := hQ90
      have N91 := Fr.app N85 Nq90
      by_cases hb92 : (16777216 : Int64) < ((16777216 : Int64) + (((p2 &&& (3 : Int32)) - (2 : Int32)).toInt64))
      · rw [if_pos hb92] at st90
        refine gv (fun tQ kQ => st90.trans kQ) ?_
        show G (T90.setTop (mkF me_ 218 #[.val (.int p0), .val (.long p1), .second, .val (.int p2), .val (.int (8 : Int32)), .val (.ref A_OPTIONS_BYTES), .val (.long (16777216 : Int64)), .second, .val (.int (1 : Int32)), .val (.long ((16777216 : Int64) + (((p2 &&& (3 : Int32)) - (2 : Int32)).toInt64))), .second, .unset] [(.int (0 : Int32))]))
        refine gv (fun tQ kQ => XS.lload X90.here hx rfl (hb hby at_218) rfl kQ) ?_
        show G (T90.setTop (mkF me_ 220 #[.val (.int p0), .val (.long p1), .second, .val (.int p2), .val (.int (8 : Int32)), .val (.ref A_OPTIONS_BYTES), .val (.long (16777216 : Int64)), .second, .val (.int (1 : Int32)), .val (.long ((16777216 : Int64) + (((p2 &&& (3 : Int32)) - (2 : Int32)).toInt64))), .second, .unset] [(.long ((16777216 : Int64) + (((p2 &&& (3 : Int32)) - (2 : Int32)).toInt64))), (.int (0 : Int32))]))
        refine gv (fun tQ kQ => XS.lload X90.here hx rfl (hb hby at_220) rfl kQ) ?_
        show G (T90.setTop (mkF me_ 222 #[.val (.int p0), .val (.long p1), .second, .val (.int p2), .val (.int (8 : Int32)), .val (.ref A_OPTIONS_BYTES), .val (.long (16777216 : Int64)), .second, .val (.int (1 : Int32)), .val (.long ((16777216 : Int64) + (((p2 &&& (3 : Int32)) - (2 : Int32)).toInt64))), .second, .unset] [(.long (16777216 : Int64)), (.long ((16777216 : Int64) + (((p2 &&& (3 : Int32)) - (2 : Int32)).toInt64))), (.int (0 : Int32))]))
        refine gv (fun tQ kQ => XS.lcmp X90.here hx rfl (hb hby at_222) rfl kQ) ?_
        show G (T90.setTop (mkF me_ 223 #[.val (.int p0), .val (.long p1), .second, .val (.int p2), .val (.int (8 : Int32)), .val (.ref A_OPTIONS_BYTES), .val (.long (16777216 : Int64)), .second, .val (.int (1 : Int32)), .val (.long ((16777216 : Int64) + (((p2 &&& (3 : Int32)) - (2 : Int32)).toInt64))), .second, .unset] [(.int (lcmpW ((16777216 : Int64) + (((p2 &&& (3 : Int32)) - (2 : Int32)).toInt64)) (16777216 : Int64))), (.int (0 : Int32))]))
        refine gv (fun tQ kQ => XS.ifYes X90.here hx rfl (pc0 := 223) (pc' := 230) rfl (hb hby at_223) rfl ((if0 _ _).trans (tlt ((lw_gt _ _).mpr hb92)).2.2.1) (by decide) (by decide) kQ) ?_
        show G (T90.setTop (mkF me_ 230 #[.val (.int p0), .val (.long p1), .second, .val (.int p2), .val (.int (8 : Int32)), .val (.ref A_OPTIONS_BYTES), .val (.long (16777216 : Int64)), .second, .val (.int (1 : Int32)), .val (.long ((16777216 : Int64) + (((p2 &&& (3 : Int32)) - (2 : Int32)).toInt64))), .second, .unset] [(.int (0 : Int32))]))
        refine gv (fun tQ kQ => XS.iconst X90.here hx rfl (hb hby at_230) kQ) ?_
        show G (T90.setTop (mkF me_ 231 #[.val (.int p0), .val (.long p1), .second, .val (.int p2), .val (.int (8 : Int32)), .val (.ref A_OPTIONS_BYTES), .val (.long (16777216 : Int64)), .second, .val (.int (1 : Int32)), .val (.long ((16777216 : Int64) + (((p2 &&& (3 : Int32)) - (2 : Int32)).toInt64))), .second, .unset] [(.int (0 : Int32)), (.int (0 : Int32))]))
        refine gv (fun tQ kQ => XS.icmpNo X90.here hx rfl (hb hby at_231) rfl (teq (by decide : (0 : Int32) = (0 : Int32))).2 kQ) ?_
        show G (T90.setTop (mkF me_ 234 #[.val (.int p0), .val (.long p1), .second, .val (.int p2), .val (.int (8 : Int32)), .val (.ref A_OPTIONS_BYTES), .val (.long (16777216 : Int64)), .second, .val (.int (1 : Int32)), .val (.long ((16777216 : Int64) + (((p2 &&& (3 : Int32)) - (2 : Int32)).toInt64))), .second, .unset] []))
        refine gv (fun tQ kQ => XS.iconst X90.here hx rfl (hb hby at_234) kQ) ?_
        show G (T90.setTop (mkF me_ 235 #[.val (.int p0), .val (.long p1), .second, .val (.int p2), .val (.int (8 : Int32)), .val (.ref A_OPTIONS_BYTES), .val (.long (16777216 : Int64)), .second, .val (.int (1 : Int32)), .val (.long ((16777216 : Int64) + (((p2 &&& (3 : Int32)) - (2 : Int32)).toInt64))), .second, .unset] [(.int (1 : Int32))]))
        refine gv (fun tQ kQ => XS.goto X90.here hx rfl (pc0 := 235) (pc' := 239) rfl (hb hby at_235) (by decide) (by decide) kQ) ?_
        show G (T90.setTop (mkF me_ 239 #[.val (.int p0), .val (.long p1), .second, .val (.int p2), .val (.int (8 : Int32)), .val (.ref A_OPTIONS_BYTES), .val (.long (16777216 : Int64)), .second, .val (.int (1 : Int32)), .val (.long ((16777216 : Int64) + (((p2 &&& (3 : Int32)) - (2 : Int32)).toInt64))), .second, .unset] [(.int (1 : Int32))]))
        refine gv (fun tQ kQ => XS.istore X90.here hx rfl (hb hby at_239) rfl (l' := #[.val (.int p0), .val (.long p1), .second, .val (.int p2), .val (.int (8 : Int32)), .val (.ref A_OPTIONS_BYTES), .val (.long (16777216 : Int64)), .second, .val (.int (1 : Int32)), .val (.long ((16777216 : Int64) + (((p2 &&& (3 : Int32)) - (2 : Int32)).toInt64))), .second, .val (.int (1 : Int32))]) rfl kQ) ?_
        show G (T90.setTop (mkF me_ 241 #[.val (.int p0), .val (.long p1), .second, .val (.int p2), .val (.int (8 : Int32)), .val (.ref A_OPTIONS_BYTES), .val (.long (16777216 : Int64)), .second, .val (.int (1 : Int32)), .val (.long ((16777216 : Int64) + (((p2 &&& (3 : Int32)) - (2 : Int32)).toInt64))), .second, .val (.int (1 : Int32))] []))
        refine gv (fun tQ kQ => XS.iload X90.here hx rfl (hb hby at_241) rfl kQ) ?_
        show G (T90.setTop (mkF me_ 243 #[.val (.int p0), .val (.long p1), .second, .val (.int p2), .val (.int (8 : Int32)), .val (.ref A_OPTIONS_BYTES), .val (.long (16777216 : Int64)), .second, .val (.int (1 : Int32)), .val (.long ((16777216 : Int64) + (((p2 &&& (3 : Int32)) - (2 : Int32)).toInt64))), .second, .val (.int (1 : Int32))] [(.int (1 : Int32))]))
        refine gv (fun tQ kQ => XS.ifNo X90.here hx rfl (hb hby at_243) rfl ((if0 _ _).trans (feq (by decide : ¬ ((1 : Int32) = (0 : Int32)))).1) kQ) ?_
        show G (T90.setTop (mkF me_ 246 #[.val (.int p0), .val (.long p1), .second, .val (.int p2), .val (.int (8 : Int32)), .val (.ref A_OPTIONS_BYTES), .val (.long (16777216 : Int64)), .second, .val (.int (1 : Int32)), .val (.long ((16777216 : Int64) + (((p2 &&& (3 : Int32)) - (2 : Int32)).toInt64))), .second, .val (.int (1 : Int32))] []))
        refine gv (fun tQ kQ => XS.iload X90.here hx rfl (hb hby at_246) rfl kQ) ?_
        show G (T90.setTop (mkF me_ 248 #[.val (.int p0), .val (.long p1), .second, .val (.int p2), .val (.int (8 : Int32)), .val (.ref A_OPTIONS_BYTES), .val (.long (16777216 : Int64)), .second, .val (.int (1 : Int32)), .val (.long ((16777216 : Int64) + (((p2 &&& (3 : Int32)) - (2 : Int32)).toInt64))), .second, .val (.int (1 : Int32))] [(.int (1 : Int32))]))
        refine gv (fun tQ kQ => XS.ifNo X90.here hx rfl (hb hby at_248) rfl ((if0 _ _).trans (feq (by decide : ¬ ((1 : Int32) = (0 : Int32)))).1) kQ) ?_
        show G (T90.setTop (mkF me_ 251 #[.val (.int p0), .val (.long p1), .second, .val (.int p2), .val (.int (8 : Int32)), .val (.ref A_OPTIONS_BYTES), .val (.long (16777216 : Int64)), .second, .val (.int (1 : Int32)), .val (.long ((16777216 : Int64) + (((p2 &&& (3 : Int32)) - (2 : Int32)).toInt64))), .second, .val (.int (1 : Int32))] []))
        refine gv (fun tQ kQ => XS.iconst X90.here hx rfl (hb hby at_251) kQ) ?_
        show G (T90.setTop (mkF me_ 252 #[.val (.int p0), .val (.long p1), .second, .val (.int p2), .val (.int (8 : Int32)), .val (.ref A_OPTIONS_BYTES), .val (.long (16777216 : Int64)), .second, .val (.int (1 : Int32)), .val (.long ((16777216 : Int64) + (((p2 &&& (3 : Int32)) - (2 : Int32)).toInt64))), .second, .val (.int (1 : Int32))] [(.int (1 : Int32))]))
        refine gv (fun tQ kQ => XS.goto X90.here hx rfl (pc0 := 252) (pc' := 256) rfl (hb hby at_252) (by decide) (by decide) kQ) ?_
        show G (T90.setTop (mkF me_ 256 #[.val (.int p0), .val (.long p1), .second, .val (.int p2), .val (.int (8 : Int32)), .val (.ref A_OPTIONS_BYTES), .val (.long (16777216 : Int64)), .second, .val (.int (1 : Int32)), .val (.long ((16777216 : Int64) + (((p2 &&& (3 : Int32)) - (2 : Int32)).toInt64))), .second, .val (.int (1 : Int32))] [(.int (1 : Int32))]))
        refine gf _ (own_ret X90 Bd.notSynchronized (v := some (.int (1 : Int32))) (fun h => by rw [Bd.returns] at h; cases h) ?_ (by decide) (by decide) (fun fs hr => retN X90 hx (t := .boolean) Bd.returns (by simp) (hb hby at_256) hr))
        show Q0 Z p0 p1 p2 A_TOPICS A_ROUTE_QUEUES A_GROUPS A_MEMBERS A_GROUP_MEMBERS A_MEMBER_TOPICS A_QUEUES A_OFFSETS A_OPTIONS_BYTES h0 n0 _ T90.heap _
        rw [eq90]
        exact ⟨rfl, N91⟩
      · skip
        rw [if_neg hb92] at st90
        refine gv (fun tQ kQ => st90.trans kQ) ?_
        show G (T90.setTop (mkF me_ 218 #[.val (.int p0), .val (.long p1), .second, .val (.int p2), .val (.int (8 : Int32)), .val (.ref A_OPTIONS_BYTES), .val (.long (16777216 : Int64)), .second, .val (.int (1 : Int32)), .val (.long ((16777216 : Int64) + (((p2 &&& (3 : Int32)) - (2 : Int32)).toInt64))), .second, .unset] [(.int (1 : Int32))]))
        refine gv (fun tQ kQ => XS.lload X90.here hx rfl (hb hby at_218) rfl kQ) ?_
        show G (T90.setTop (mkF me_ 220 #[.val (.int p0), .val (.long p1), .second, .val (.int p2), .val (.int (8 : Int32)), .val (.ref A_OPTIONS_BYTES), .val (.long (16777216 : Int64)), .second, .val (.int (1 : Int32)), .val (.long ((16777216 : Int64) + (((p2 &&& (3 : Int32)) - (2 : Int32)).toInt64))), .second, .unset] [(.long ((16777216 : Int64) + (((p2 &&& (3 : Int32)) - (2 : Int32)).toInt64))), (.int (1 : Int32))]))
        refine gv (fun tQ kQ => XS.lload X90.here hx rfl (hb hby at_220) rfl kQ) ?_
        show G (T90.setTop (mkF me_ 222 #[.val (.int p0), .val (.long p1), .second, .val (.int p2), .val (.int (8 : Int32)), .val (.ref A_OPTIONS_BYTES), .val (.long (16777216 : Int64)), .second, .val (.int (1 : Int32)), .val (.long ((16777216 : Int64) + (((p2 &&& (3 : Int32)) - (2 : Int32)).toInt64))), .second, .unset] [(.long (16777216 : Int64)), (.long ((16777216 : Int64) + (((p2 &&& (3 : Int32)) - (2 : Int32)).toInt64))), (.int (1 : Int32))]))
        refine gv (fun tQ kQ => XS.lcmp X90.here hx rfl (hb hby at_222) rfl kQ) ?_
        show G (T90.setTop (mkF me_ 223 #[.val (.int p0), .val (.long p1), .second, .val (.int p2), .val (.int (8 : Int32)), .val (.ref A_OPTIONS_BYTES), .val (.long (16777216 : Int64)), .second, .val (.int (1 : Int32)), .val (.long ((16777216 : Int64) + (((p2 &&& (3 : Int32)) - (2 : Int32)).toInt64))), .second, .unset] [(.int (lcmpW ((16777216 : Int64) + (((p2 &&& (3 : Int32)) - (2 : Int32)).toInt64)) (16777216 : Int64))), (.int (1 : Int32))]))
        refine gv (fun tQ kQ => XS.ifNo X90.here hx rfl (hb hby at_223) rfl ((if0 _ _).trans (flt (mt (lw_gt _ _).mp hb92)).2.2.1) kQ) ?_
        show G (T90.setTop (mkF me_ 226 #[.val (.int p0), .val (.long p1), .second, .val (.int p2), .val (.int (8 : Int32)), .val (.ref A_OPTIONS_BYTES), .val (.long (16777216 : Int64)), .second, .val (.int (1 : Int32)), .val (.long ((16777216 : Int64) + (((p2 &&& (3 : Int32)) - (2 : Int32)).toInt64))), .second, .unset] [(.int (1 : Int32))]))
        refine gv (fun tQ kQ => XS.iconst X90.here hx rfl (hb hby at_226) kQ) ?_
        show G (T90.setTop (mkF me_ 227 #[.val (.int p0), .val (.long p1), .second, .val (.int p2), .val (.int (8 : Int32)), .val (.ref A_OPTIONS_BYTES), .val (.long (16777216 : Int64)), .second, .val (.int (1 : Int32)), .val (.long ((16777216 : Int64) + (((p2 &&& (3 : Int32)) - (2 : Int32)).toInt64))), .second, .unset] [(.int (1 : Int32)), (.int (1 : Int32))]))
        refine gv (fun tQ kQ => XS.goto X90.here hx rfl (pc0 := 227) (pc' := 231) rfl (hb hby at_227) (by decide) (by decide) kQ) ?_
        show G (T90.setTop (mkF me_ 231 #[.val (.int p0), .val (.long p1), .second, .val (.int p2), .val (.int (8 : Int32)), .val (.ref A_OPTIONS_BYTES), .val (.long (16777216 : Int64)), .second, .val (.int (1 : Int32)), .val (.long ((16777216 : Int64) + (((p2 &&& (3 : Int32)) - (2 : Int32)).toInt64))), .second, .unset] [(.int (1 : Int32)), (.int (1 : Int32))]))
        refine gv (fun tQ kQ => XS.icmpNo X90.here hx rfl (hb hby at_231) rfl (teq (by decide : (1 : Int32) = (1 : Int32))).2 kQ) ?_
        show G (T90.setTop (mkF me_ 234 #[.val (.int p0), .val (.long p1), .second, .val (.int p2), .val (.int (8 : Int32)), .val (.ref A_OPTIONS_BYTES), .val (.long (16777216 : Int64)), .second, .val (.int (1 : Int32)), .val (.long ((16777216 : Int64) + (((p2 &&& (3 : Int32)) - (2 : Int32)).toInt64))), .second, .unset] []))
        refine gv (fun tQ kQ => XS.iconst X90.here hx rfl (hb hby at_234) kQ) ?_
        show G (T90.setTop (mkF me_ 235 #[.val (.int p0), .val (.long p1), .second, .val (.int p2), .val (.int (8 : Int32)), .val (.ref A_OPTIONS_BYTES), .val (.long (16777216 : Int64)), .second, .val (.int (1 : Int32)), .val (.long ((16777216 : Int64) + (((p2 &&& (3 : Int32)) - (2 : Int32)).toInt64))), .second, .unset] [(.int (1 : Int32))]))
        refine gv (fun tQ kQ => XS.goto X90.here hx rfl (pc0 := 235) (pc' := 239) rfl (hb hby at_235) (by decide) (by decide) kQ) ?_
        show G (T90.setTop (mkF me_ 239 #[.val (.int p0), .val (.long p1), .second, .val (.int p2), .val (.int (8 : Int32)), .val (.ref A_OPTIONS_BYTES), .val (.long (16777216 : Int64)), .second, .val (.int (1 : Int32)), .val (.long ((16777216 : Int64) + (((p2 &&& (3 : Int32)) - (2 : Int32)).toInt64))), .second, .unset] [(.int (1 : Int32))]))
        refine gv (fun tQ kQ => XS.istore X90.here hx rfl (hb hby at_239) rfl (l' := #[.val (.int p0), .val (.long p1), .second, .val (.int p2), .val (.int (8 : Int32)), .val (.ref A_OPTIONS_BYTES), .val (.long (16777216 : Int64)), .second, .val (.int (1 : Int32)), .val (.long ((16777216 : Int64) + (((p2 &&& (3 : Int32)) - (2 : Int32)).toInt64))), .second, .val (.int (1 : Int32))]) rfl kQ) ?_
        show G (T90.setTop (mkF me_ 241 #[.val (.int p0), .val (.long p1), .second, .val (.int p2), .val (.int (8 : Int32)), .val (.ref A_OPTIONS_BYTES), .val (.long (16777216 : Int64)), .second, .val (.int (1 : Int32)), .val (.long ((16777216 : Int64) + (((p2 &&& (3 : Int32)) - (2 : Int32)).toInt64))), .second, .val (.int (1 : Int32))] []))
        refine gv (fun tQ kQ => XS.iload X90.here hx rfl (hb hby at_241) rfl kQ) ?_
        show G (T90.setTop (mkF me_ 243 #[.val (.int p0), .val (.long p1), .second, .val (.int p2), .val (.int (8 : Int32)), .val (.ref A_OPTIONS_BYTES), .val (.long (16777216 : Int64)), .second, .val (.int (1 : Int32)), .val (.long ((16777216 : Int64) + (((p2 &&& (3 : Int32)) - (2 : Int32)).toInt64))), .second, .val (.int (1 : Int32))] [(.int (1 : Int32))]))
        refine gv (fun tQ kQ => XS.ifNo X90.here hx rfl (hb hby at_243) rfl ((if0 _ _).trans (feq (by decide : ¬ ((1 : Int32) = (0 : Int32)))).1) kQ) ?_
        show G (T90.setTop (mkF me_ 246 #[.val (.int p0), .val (.long p1), .second, .val (.int p2), .val (.int (8 : Int32)), .val (.ref A_OPTIONS_BYTES), .val (.long (16777216 : Int64)), .second, .val (.int (1 : Int32)), .val (.long ((16777216 : Int64) + (((p2 &&& (3 : Int32)) - (2 : Int32)).toInt64))), .second, .val (.int (1 : Int32))] []))
        refine gv (fun tQ kQ => XS.iload X90.here hx rfl (hb hby at_246) rfl kQ) ?_
        show G (T90.setTop (mkF me_ 248 #[.val (.int p0), .val (.long p1), .second, .val (.int p2), .val (.int (8 : Int32)), .val (.ref A_OPTIONS_BYTES), .val (.long (16777216 : Int64)), .second, .val (.int (1 : Int32)), .val (.long ((16777216 : Int64) + (((p2 &&& (3 : Int32)) - (2 : Int32)).toInt64))), .second, .val (.int (1 : Int32))] [(.int (1 : Int32))]))
        refine gv (fun tQ kQ => XS.ifNo X90.here hx rfl (hb hby at_248) rfl ((if0 _ _).trans (feq (by decide : ¬ ((1 : Int32) = (0 : Int32)))).1) kQ) ?_
        show G (T90.setTop (mkF me_ 251 #[.val (.int p0), .val (.long p1), .second, .val (.int p2), .val (.int (8 : Int32)), .val (.ref A_OPTIONS_BYTES), .val (.long (16777216 : Int64)), .second, .val (.int (1 : Int32)), .val (.long ((16777216 : Int64) + (((p2 &&& (3 : Int32)) - (2 : Int32)).toInt64))), .second, .val (.int (1 : Int32))] []))
        refine gv (fun tQ kQ => XS.iconst X90.here hx rfl (hb hby at_251) kQ) ?_
        show G (T90.setTop (mkF me_ 252 #[.val (.int p0), .val (.long p1), .second, .val (.int p2), .val (.int (8 : Int32)), .val (.ref A_OPTIONS_BYTES), .val (.long (16777216 : Int64)), .second, .val (.int (1 : Int32)), .val (.long ((16777216 : Int64) + (((p2 &&& (3 : Int32)) - (2 : Int32)).toInt64))), .second, .val (.int (1 : Int32))] [(.int (1 : Int32))]))
        refine gv (fun tQ kQ => XS.goto X90.here hx rfl (pc0 := 252) (pc' := 256) rfl (hb hby at_252) (by decide) (by decide) kQ) ?_
        show G (T90.setTop (mkF me_ 256 #[.val (.int p0), .val (.long p1), .second, .val (.int p2), .val (.int (8 : Int32)), .val (.ref A_OPTIONS_BYTES), .val (.long (16777216 : Int64)), .second, .val (.int (1 : Int32)), .val (.long ((16777216 : Int64) + (((p2 &&& (3 : Int32)) - (2 : Int32)).toInt64))), .second, .val (.int (1 : Int32))] [(.int (1 : Int32))]))
        refine gf _ (own_ret X90 Bd.notSynchronized (v := some (.int (1 : Int32))) (fun h => by rw [Bd.returns] at h; cases h) ?_ (by decide) (by decide) (fun fs hr => retN X90 hx (t := .boolean) Bd.returns (by simp) (hb hby at_256) hr))
        show Q0 Z p0 p1 p2 A_TOPICS A_ROUTE_QUEUES A_GROUPS A_MEMBERS A_GROUP_MEMBERS A_MEMBER_TOPICS A_QUEUES A_OFFSETS A_OPTIONS_BYTES h0 n0 _ T90.heap _
        rw [eq90]
        exact ⟨rfl, N91⟩
set_option maxRecDepth 65536 in
set_option maxHeartbeats 40000000 in
theorem comes_1 {Post : Tables → Env → Array Value → State → Outcome → State → Prop} (hpost : ∀ tb e args s v u, (limb_1_1.after args s (.returned v) u = true ∧ limb_1_2.after args s (.returned v) u = true ∧ True) → FrameEnd s (.returned v) u (Jvm.fieldLocs frame_1_writes args s ++ Jvm.arrayLocs frame_1_arrays args s ++ Jvm.staticLocs frame_1_statics s) 0 0 → Post tb e args s (.returned v) u) :
    ArmFor flags0 classFile x code maxLocals ret World_1 tables_1 room_1 Calls_1 rest_1 Pre_1 Post := by
  intro l hfl _ _ p e ha hc hk s m args below hf hA hF happ hP
  obtain ⟨hcalls, hrest, hpre⟩ := hP
  obtain ⟨-, -, -, hnamed, -, -, -, hat⟩ := (Spec.applies_iff hf).mp happ
  obtain ⟨hg, hn⟩ := and_e (Cond.before_iff.mp (show (Jvm.Cond.and given_1 narrow_1).before args s = true from hpre))
  obtain ⟨g1, g2⟩ := and_e hg
  obtain ⟨g3, g4⟩ := and_e g2
  obtain ⟨g5, g6⟩ := and_e g4
  obtain ⟨g7, g8⟩ := and_e hn
  obtain ⟨g9, g10⟩ := and_e g8
  obtain ⟨g11, g12⟩ := and_e g10
  obtain ⟨g13, g14⟩ := and_e g12
  obtain ⟨g15, g16⟩ := and_e g14
  obtain ⟨g17, g18⟩ := and_e g16
  obtain ⟨g19, g20⟩ := and_e g18
  obtain ⟨g21, g22⟩ := and_e g20
  obtain ⟨g23, g24⟩ := and_e g22
  obtain ⟨g25, g26⟩ := and_e g24
  obtain ⟨g27, g28⟩ := and_e g26
  obtain ⟨g29, g30⟩ := and_e g28
  obtain ⟨g31, g32⟩ := and_e g30
  obtain ⟨g33, g34⟩ := and_e g32
  obtain ⟨g35, g36⟩ := and_e g34
  obtain ⟨g37, g38⟩ := and_e g36
  obtain ⟨g39, g40⟩ := and_e g38
  obtain ⟨w0, w1, w2, rfl⟩ : ∃ w0 w1 w2 : Value, args = #[w0, w1, w2] := by
    have hs : args.size = 3 := by simpa [Cond.value, given_1] using g1
    obtain ⟨L⟩ := args
    match L, hs with
    | [w0, w1, w2], _ => exact ⟨w0, w1, w2, rfl⟩
  have hw := fun d (hd : d ∈ tables_1) => atoms_spec (ws := Jvm.Cond.code x code maxLocals ret :: tables_1) hat d (List.mem_cons_of_mem _ hd)
  have hfit : Fit s := fun {y c} hc i hi => by
    obtain ⟨ha, rfl⟩ := Array.getElem?_eq_some_iff.mp hc
    have q := List.all_eq_true.mp ((Array.all_eq_true_iff_forall_mem.mp hF) _ (Array.getElem_mem ha)) i (List.mem_range.mpr hi)
    simpa [Array.getElem?_eq_getElem hi] using q
  obtain ⟨i0, ei0⟩ := is_v g3
  obtain rfl : w0 = (.int i0) := Option.some.inj ei0
  obtain ⟨i1, ei1⟩ := isL_v g5
  obtain rfl : w1 = (.long i1) := Option.some.inj ei1
  obtain ⟨i2, ei2⟩ := is_v g6
  obtain rfl : w2 = (.int i2) := Option.some.inj ei2
  obtain ⟨A_TOPICS, ev_TOPICS, E_TOPICS⟩ := own_exa g7
  have S_TOPICS : Sta s s.heap "com/example/slot1/slot1/server/Limit" "TOPICS" "Lcom/example/slot1/slot1/server/Limit;" (.ref A_TOPICS) := Sta.start ev_TOPICS (Or.inr ⟨(hw _ (List.mem_of_getElem? (i := 2) rfl)), (hw _ (List.mem_of_getElem? (i := 3) rfl))⟩)
  obtain ⟨A_MEMBERS, ev_MEMBERS, E_MEMBERS⟩ := own_exa g11
  have S_MEMBERS : Sta s s.heap "com/example/slot1/slot1/server/Limit" "MEMBERS" "Lcom/example/slot1/slot1/server/Limit;" (.ref A_MEMBERS) := Sta.start ev_MEMBERS (Or.inr ⟨(hw _ (List.mem_of_getElem? (i := 2) rfl)), (hw _ (List.mem_of_getElem? (i := 13) rfl))⟩)
  obtain ⟨A_OFFSETS, ev_OFFSETS, E_OFFSETS⟩ := own_exa g15
  have S_OFFSETS : Sta s s.heap "com/example/slot1/slot1/server/Limit" "OFFSETS" "Lcom/example/slot1/slot1/server/Limit;" (.ref A_OFFSETS) := Sta.start ev_OFFSETS (Or.inr ⟨(hw _ (List.mem_of_getElem? (i := 2) rfl)), (hw _ (List.mem_of_getElem? (i := 15) rfl))⟩)
  obtain ⟨A_ROUTE_QUEUES, ev_ROUTE_QUEUES, E_ROUTE_QUEUES⟩ := own_exa g19
  have S_ROUTE_QUEUES : Sta s s.heap "com/example/slot1/slot1/server/Limit" "ROUTE_QUEUES" "Lcom/example/slot1/slot1/server/Limit;" (.ref A_ROUTE_QUEUES) := Sta.start ev_ROUTE_QUEUES (Or.inr ⟨(hw _ (List.mem_of_getElem? (i := 2) rfl)), (hw _ (List.mem_of_getElem? (i := 18) rfl))⟩)
  obtain ⟨A_QUEUES, ev_QUEUES, E_QUEUES⟩ := own_exa g23
  have S_QUEUES : Sta s s.heap "com/example/slot1/slot1/server/Limit" "QUEUES" "Lcom/example/slot1/slot1/server/Limit;" (.ref A_QUEUES) := Sta.start ev_QUEUES (Or.inr ⟨(hw _ (List.mem_of_getElem? (i := 2) rfl)), (hw _ (List.mem_of_getElem? (i := 21) rfl))⟩)
  obtain ⟨A_GROUPS, ev_GROUPS, E_GROUPS⟩ := own_exa g27
  have S_GROUPS : Sta s s.heap "com/example/slot1/slot1/server/Limit" "GROUPS" "Lcom/example/slot1/slot1/server/Limit;" (.ref A_GROUPS) := Sta.start ev_GROUPS (Or.inr ⟨(hw _ (List.mem_of_getElem? (i := 2) rfl)), (hw _ (List.mem_of_getElem? (i := 23) rfl))⟩)
  obtain ⟨A_OPTIONS_BYTES, ev_OPTIONS_BYTES, E_OPTIONS_BYTES⟩ := own_exa g31
  have S_OPTIONS_BYTES : Sta s s.heap "com/example/slot1/slot1/server/Limit" "OPTIONS_BYTES" "Lcom/example/slot1/slot1/server/Limit;" (.ref A_OPTIONS_BYTES) := Sta.start ev_OPTIONS_BYTES (Or.inr ⟨(hw _ (List.mem_of_getElem? (i := 2) rfl)), (hw _ (List.mem_of_getElem? (i := 26) rfl))⟩)
  obtain ⟨A_MEMBER_TOPICS, ev_MEMBER_TOPICS, E_MEMBER_TOPICS⟩ := own_exa g35
  have S_MEMBER_TOPICS : Sta s s.heap "com/example/slot1/slot1/server/Limit" "MEMBER_TOPICS" "Lcom/example/slot1/slot1/server/Limit;" (.ref A_MEMBER_TOPICS) := Sta.start ev_MEMBER_TOPICS (Or.inr ⟨(hw _ (List.mem_of_getElem? (i := 2) rfl)), (hw _ (List.mem_of_getElem? (i := 29) rfl))⟩)
  obtain ⟨A_GROUP_MEMBERS, ev_GROUP_MEMBERS, E_GROUP_MEMBERS⟩ := own_exa g39
  have S_GROUP_MEMBERS : Sta s s.heap "com/example/slot1/slot1/server/Limit" "GROUP_MEMBERS" "Lcom/example/slot1/slot1/server/Limit;" (.ref A_GROUP_MEMBERS) := Sta.start ev_GROUP_MEMBERS (Or.inr ⟨(hw _ (List.mem_of_getElem? (i := 2) rfl)), (hw _ (List.mem_of_getElem? (i := 31) rfl))⟩)
  have F_TOPICS_most := own_flong ev_TOPICS g9
  have F_MEMBERS_most := own_flong ev_MEMBERS g13
  have F_OFFSETS_most := own_flong ev_OFFSETS g17
  have F_ROUTE_QUEUES_most := own_flong ev_ROUTE_QUEUES g21
  have F_QUEUES_most := own_flong ev_QUEUES g25
  have F_GROUPS_most := own_flong ev_GROUPS g29
  have F_OPTIONS_BYTES_most := own_flong ev_OPTIONS_BYTES g33
  have F_MEMBER_TOPICS_most := own_flong ev_MEMBER_TOPICS g37
  have F_GROUP_MEMBERS_most := own_flong ev_GROUP_MEMBERS g40
  obtain ⟨n, o, h1, h2, h3, _, L, rfl, ⟨rfl, N⟩, hq⟩ := rm0 l s _ hw tables_1 i0 i1 i2 A_TOPICS A_ROUTE_QUEUES A_GROUPS A_MEMBERS A_GROUP_MEMBERS A_MEMBER_TOPICS A_QUEUES A_OFFSETS A_OPTIONS_BYTES s.heap s.heap.size (Old.start s) S_TOPICS S_ROUTE_QUEUES S_GROUPS S_MEMBERS S_GROUP_MEMBERS S_MEMBER_TOPICS S_QUEUES S_OFFSETS S_OPTIONS_BYTES E_TOPICS E_ROUTE_QUEUES E_GROUPS E_MEMBERS E_GROUP_MEMBERS E_MEMBER_TOPICS E_QUEUES E_OFFSETS E_OPTIONS_BYTES F_TOPICS_most F_ROUTE_QUEUES_most F_GROUPS_most F_MEMBERS_most F_GROUP_MEMBERS_most F_MEMBER_TOPICS_most F_QUEUES_most F_OFFSETS_most F_OPTIONS_BYTES_most p e ha hc hk s m _ below hf ((Spec.applies_iff_loose hf).mp happ).1 ⟨rfl, State.Warmed39.refl s, rfl⟩ trivial
  refine ⟨n, _, h1, h2, h3, hpost _ _ _ _ _ _ ⟨Cond.after_iff.mpr rfl, Cond.after_iff.mpr (eq_i res_at (Term.int_eval (1)) rfl), trivial⟩ ⟨hq.1, hq.2.1, (hq.2.2.sift fun y hy => Or.inr (N y hy)).mono (by decide) (by decide)⟩⟩
theorem main_1_1 : Claimed_1_1 := comes_1 fun _ _ _ _ _ _ h hF => ⟨h.1, hF⟩
theorem main_1_2 : Claimed_1_2 := comes_1 fun _ _ _ _ _ _ h hF => ⟨h.2.1, hF⟩
end Jvm.Pilot.@@N@@
namespace Jvm.Pilot.@@N@@
open Jvm Jvm.ClassFile Sem Op Lib Jvm.Free Jvm.Stand Jvm.Pilot.@@N@@.Jvm.D
/-! MADE BY PROGRAM (witnessworld.py) out of the Statement's table words and the real class files: 12 classes; the members and pool entries that the words name. The judged class is class 1, her method 1. -/
namespace start1
open Jvm.ClassFile
def u (s : String) : CpInfo := .utf8 (stringToUtf16 s)
/-- a pool by its gaps: so many unusable entries, then the entry; so many at the end -/
def gap : Nat → List CpInfo → List CpInfo
  | 0, r => r
  | n + 1, r => .unusable :: gap n r
def poolList (es : List (Nat × CpInfo)) (last : Nat) : List CpInfo := es.foldr (fun e r => gap e.1 (e.2 :: r)) (gap last [])
def pool (es : List (Nat × CpInfo)) (last : Nat) : Array CpInfo := ⟨poolList es last⟩
def fileOf (pool : Array CpInfo) (this : Nat) (attrs : Array Attribute := #[]) (ms : Array MethodInfo := #[]) (fl : Nat := 33) (sup : Nat := 0) (ifs : Array Nat := #[]) (fds : Array FieldInfo := #[]) : ClassFile where
  minorVersion := 0
  majorVersion := 65
  constantPool := pool
  accessFlags := fl
  thisClass := this
  superClass := sup
  interfaces := ifs
  fields := fds
  methods := ms
  attributes := attrs
def plain (name : String) (sup : Option ClassId) : Class where
  name := name
  kind := .ordinary
  loader := none
  accessFlags := 33
  super := sup
  interfaces := #[]
  cf := none
  fields := #[]
  methods := #[]
  instanceTypes := #[]
  staticTypes := #[]
  resolved := #[]
  callSites := []
  init := .initialized
  statics := none
  mirror := none

def pool0 : Array CpInfo := pool [(5, u "<init>"), (0, u "()V"), (1, .class_ 10), (1, u "java/lang/Object")] 113

def k0m0 : Method := { name := "<init>", desc := "()V", sig := { parameters := [], returnType := none }, accessFlags := 1, code := none }
/-- java/lang/Object -/
def k0 : Class := { plain "java/lang/Object" none with
  accessFlags := 33
  interfaces := #[]
  cf := some (fileOf pool0 8 #[] #[{ accessFlags := 1, nameIndex := 5, descriptorIndex := 6, attributes := #[] }] 33 0 #[] #[])
  fields := #[]
  methods := #[k0m0]
  instanceTypes := #[]
  staticTypes := #[]
  resolved := Array.replicate 124 none
  statics := none }

def pool1 : Array CpInfo := pool [(2, .class_ 4), (1, u "java/lang/Object"), (0, u "<init>"), (0, u "()V"), (0, .integer 2147483647), (0, .fieldref 9 10), (0, .class_ 11), (0, .nameAndType 12 13), (0, u "com/example/slot1/slot1/server/Limit"), (0, u "TOPICS"), (0, u "Lcom/example/slot1/slot1/server/Limit;"), (0, .long 10000), (1, .fieldref 9 17), (0, .nameAndType 18 13), (0, u "ROUTE_QUEUES"), (0, .long 100000), (1, .fieldref 9 22), (0, .nameAndType 23 13), (0, u "GROUPS"), (0, .long 1000), (1, .fieldref 9 27), (0, .nameAndType 28 13), (0, u "MEMBERS"), (0, .fieldref 9 30), (0, .nameAndType 31 13), (0, u "GROUP_MEMBERS"), (0, .long 5000), (1, .fieldref 9 35), (0, .nameAndType 36 13), (0, u "MEMBER_TOPICS"), (0, .fieldref 9 38), (0, .nameAndType 39 13), (0, u "QUEUES"), (0, .long 1000000), (1, .fieldref 9 43), (0, .nameAndType 44 13), (0, u "OFFSETS"), (0, .fieldref 9 46), (0, .nameAndType 47 13), (0, u "OPTIONS_BYTES"), (0, .long 16777216), (1, .methodref 9 51), (0, .nameAndType 52 53), (0, u "allows"), (0, u "(J)Z"), (0, .class_ 55), (0, u "com/example/slot1/slot1/server/LimitAllowsPinLaw"), (2, u "law"), (0, u "(IJI)Z")] 3

def k1m0 : Method := { name := "<init>", desc := "()V", sig := { parameters := [], returnType := none }, accessFlags := 1, code := none }
def k1c1 : Code := { maxStack := 5, maxLocals := 12, code := code, exceptionTable := #[], attributes := #[] }
def k1m1 : Method := { name := "law", desc := "(IJI)Z", sig := { parameters := [.int, .long, .int], returnType := some .boolean }, accessFlags := 9, code := some k1c1 }
/-- com/example/slot1/slot1/server/LimitAllowsPinLaw -/
def k1 : Class := { plain "com/example/slot1/slot1/server/LimitAllowsPinLaw" (some 0) with
  accessFlags := 49
  interfaces := #[]
  cf := some (fileOf pool1 54 #[] #[{ accessFlags := 1, nameIndex := 5, descriptorIndex := 6, attributes := #[] }, { accessFlags := 9, nameIndex := 58, descriptorIndex := 59, attributes := #[] }] 49 2 #[] #[])
  fields := #[]
  methods := #[k1m0, k1m1]
  instanceTypes := #[]
  staticTypes := #[]
  resolved := Array.replicate 63 none
  statics := none }

def pool2 : Array CpInfo := pool [(1, .class_ 2), (0, u "java/lang/constant/Constable"), (0, .class_ 4), (0, u "java/lang/Object")] 6

/-- java/lang/constant/Constable -/
def k2 : Class := { plain "java/lang/constant/Constable" (some 0) with
  accessFlags := 1537
  interfaces := #[]
  cf := some (fileOf pool2 1 #[] #[] 1537 3 #[] #[])
  fields := #[]
  methods := #[]
  instanceTypes := #[]
  staticTypes := #[]
  resolved := Array.replicate 11 none
  statics := none }

def pool3 : Array CpInfo := pool [(1, .class_ 2), (0, u "java/lang/Comparable"), (0, .class_ 4), (0, u "java/lang/Object")] 7

/-- java/lang/Comparable -/
def k3 : Class := { plain "java/lang/Comparable" (some 0) with
  accessFlags := 1537
  interfaces := #[]
  cf := some (fileOf pool3 1 #[] #[] 1537 3 #[] #[])
  fields := #[]
  methods := #[]
  instanceTypes := #[]
  staticTypes := #[]
  resolved := Array.replicate 12 none
  statics := none }

def pool4 : Array CpInfo := pool [(1, .class_ 2), (0, u "java/io/Serializable"), (0, .class_ 4), (0, u "java/lang/Object")] 2

/-- java/io/Serializable -/
def k4 : Class := { plain "java/io/Serializable" (some 0) with
  accessFlags := 1537
  interfaces := #[]
  cf := some (fileOf pool4 1 #[] #[] 1537 3 #[] #[])
  fields := #[]
  methods := #[]
  instanceTypes := #[]
  staticTypes := #[]
  resolved := Array.replicate 7 none
  statics := none }

def pool5 : Array CpInfo := pool [(2, .class_ 4), (1, u "java/lang/Enum"), (0, u "name"), (0, u "Ljava/lang/String;"), (2, u "ordinal"), (0, u "I"), (1, .class_ 14), (1, u "java/lang/Object"), (4, u "hash"), (86, .class_ 108), (1, u "java/lang/Enum$EnumDesc"), (2, .class_ 112), (0, u "java/lang/constant/Constable"), (0, .class_ 114), (0, u "java/lang/Comparable"), (0, .class_ 116), (0, u "java/io/Serializable")] 87

/-- java/lang/Enum -/
def k5 : Class := { plain "java/lang/Enum" (some 0) with
  accessFlags := 1057
  interfaces := #[2, 3, 4]
  cf := some (fileOf pool5 2 #[.nestMembers #[106]] #[] 1057 12 #[111, 113, 115] #[{ accessFlags := 18, nameIndex := 5, descriptorIndex := 6, attributes := #[] }, { accessFlags := 18, nameIndex := 9, descriptorIndex := 10, attributes := #[] }, { accessFlags := 2, nameIndex := 19, descriptorIndex := 10, attributes := #[] }])
  fields := #[{ name := "name", type := (.object "java/lang/String"), accessFlags := 18, slot := 0, constantValue := 0 }, { name := "ordinal", type := .int, accessFlags := 18, slot := 1, constantValue := 0 }, { name := "hash", type := .int, accessFlags := 2, slot := 2, constantValue := 0 }]
  methods := #[]
  instanceTypes := #[(.object "java/lang/String"), .int, .int]
  staticTypes := #[]
  resolved := Array.replicate 204 none
  statics := none }

def pool6 : Array CpInfo := pool [(1, .class_ 2), (0, u "com/example/slot1/slot1/server/Limit"), (2, u "TOPICS"), (0, u "Lcom/example/slot1/slot1/server/Limit;"), (2, u "ROUTE_QUEUES"), (2, u "GROUPS"), (2, u "MEMBERS"), (2, u "GROUP_MEMBERS"), (2, u "MEMBER_TOPICS"), (2, u "QUEUES"), (2, u "OFFSETS"), (2, u "OPTIONS_BYTES"), (2, u "$VALUES"), (0, u "[Lcom/example/slot1/slot1/server/Limit;"), (6, .class_ 43), (1, u "java/lang/Enum"), (6, .fieldref 1 51), (0, .nameAndType 52 53), (0, u "most"), (0, u "J"), (2, u "counted"), (0, u "Ljava/lang/String;"), (6, u "allows"), (0, u "(J)Z")] 93

def k6c0 : Code := { maxStack := 4, maxLocals := 3, code := prog_49_method_5_code, exceptionTable := #[], attributes := #[] }
def k6m0 : Method := { name := "allows", desc := "(J)Z", sig := { parameters := [.long], returnType := some .boolean }, accessFlags := 0, code := some k6c0 }
/-- com/example/slot1/slot1/server/Limit -/
def k6 : Class := { plain "com/example/slot1/slot1/server/Limit" (some 5) with
  accessFlags := 16432
  interfaces := #[]
  cf := some (fileOf pool6 1 #[] #[{ accessFlags := 0, nameIndex := 64, descriptorIndex := 65, attributes := #[] }] 16432 41 #[] #[{ accessFlags := 16409, nameIndex := 5, descriptorIndex := 6, attributes := #[] }, { accessFlags := 16409, nameIndex := 9, descriptorIndex := 6, attributes := #[] }, { accessFlags := 16409, nameIndex := 12, descriptorIndex := 6, attributes := #[] }, { accessFlags := 16409, nameIndex := 15, descriptorIndex := 6, attributes := #[] }, { accessFlags := 16409, nameIndex := 18, descriptorIndex := 6, attributes := #[] }, { accessFlags := 16409, nameIndex := 21, descriptorIndex := 6, attributes := #[] }, { accessFlags := 16409, nameIndex := 24, descriptorIndex := 6, attributes := #[] }, { accessFlags := 16409, nameIndex := 27, descriptorIndex := 6, attributes := #[] }, { accessFlags := 16409, nameIndex := 30, descriptorIndex := 6, attributes := #[] }, { accessFlags := 18, nameIndex := 52, descriptorIndex := 53, attributes := #[] }, { accessFlags := 18, nameIndex := 56, descriptorIndex := 57, attributes := #[] }, { accessFlags := 4122, nameIndex := 33, descriptorIndex := 34, attributes := #[] }])
  fields := #[{ name := "TOPICS", type := (.object "com/example/slot1/slot1/server/Limit"), accessFlags := 16409, slot := 0, constantValue := 0 }, { name := "ROUTE_QUEUES", type := (.object "com/example/slot1/slot1/server/Limit"), accessFlags := 16409, slot := 1, constantValue := 0 }, { name := "GROUPS", type := (.object "com/example/slot1/slot1/server/Limit"), accessFlags := 16409, slot := 2, constantValue := 0 }, { name := "MEMBERS", type := (.object "com/example/slot1/slot1/server/Limit"), accessFlags := 16409, slot := 3, constantValue := 0 }, { name := "GROUP_MEMBERS", type := (.object "com/example/slot1/slot1/server/Limit"), accessFlags := 16409, slot := 4, constantValue := 0 }, { name := "MEMBER_TOPICS", type := (.object "com/example/slot1/slot1/server/Limit"), accessFlags := 16409, slot := 5, constantValue := 0 }, { name := "QUEUES", type := (.object "com/example/slot1/slot1/server/Limit"), accessFlags := 16409, slot := 6, constantValue := 0 }, { name := "OFFSETS", type := (.object "com/example/slot1/slot1/server/Limit"), accessFlags := 16409, slot := 7, constantValue := 0 }, { name := "OPTIONS_BYTES", type := (.object "com/example/slot1/slot1/server/Limit"), accessFlags := 16409, slot := 8, constantValue := 0 }, { name := "most", type := .long, accessFlags := 18, slot := 3, constantValue := 0 }, { name := "counted", type := (.object "java/lang/String"), accessFlags := 18, slot := 4, constantValue := 0 }, { name := "$VALUES", type := (.array (.object "com/example/slot1/slot1/server/Limit")), accessFlags := 4122, slot := 9, constantValue := 0 }]
  methods := #[k6m0]
  instanceTypes := #[(.object "java/lang/String"), .int, .int, .long, (.object "java/lang/String")]
  staticTypes := #[(.object "com/example/slot1/slot1/server/Limit"), (.object "com/example/slot1/slot1/server/Limit"), (.object "com/example/slot1/slot1/server/Limit"), (.object "com/example/slot1/slot1/server/Limit"), (.object "com/example/slot1/slot1/server/Limit"), (.object "com/example/slot1/slot1/server/Limit"), (.object "com/example/slot1/slot1/server/Limit"), (.object "com/example/slot1/slot1/server/Limit"), (.object "com/example/slot1/slot1/server/Limit"), (.array (.object "com/example/slot1/slot1/server/Limit"))]
  resolved := Array.replicate 159 none
  statics := some 0 }

def pool7 : Array CpInfo := pool [(1, u "java/lang/Cloneable"), (0, .class_ 1), (0, u "java/lang/Object"), (0, .class_ 3)] 3

/-- java/lang/Cloneable -/
def k7 : Class := { plain "java/lang/Cloneable" (some 0) with
  accessFlags := 1537
  interfaces := #[]
  cf := some (fileOf pool7 2 #[] #[] 1537 4 #[] #[])
  fields := #[]
  methods := #[]
  instanceTypes := #[]
  staticTypes := #[]
  resolved := Array.replicate 8 none
  statics := none }

/-- the primitive byte -/
def k8 : Class := { plain "byte" none with kind := .primitive 'B', accessFlags := 0x411 }
/-- [B -/
def k9 : Class := { plain "[B" (some 0) with kind := .array 8 .byte, interfaces := #[7, 4], accessFlags := 1041 }

/-- the primitive int -/
def k10 : Class := { plain "int" none with kind := .primitive 'I', accessFlags := 0x411 }
/-- [I -/
def k11 : Class := { plain "[I" (some 0) with kind := .array 10 .int, interfaces := #[7, 4], accessFlags := 1041 }

def heap : Heap := #[{ cls := 6, slots := #[.ref 1, .ref 2, .ref 3, .ref 4, .ref 5, .ref 6, .ref 7, .ref 8, .ref 9, .null], vm := .statics 6 },
  { cls := 6, slots := #[.null, .int 0, .int 0, .long 10000, .null], vm := .none },
  { cls := 6, slots := #[.null, .int 1, .int 0, .long 100000, .null], vm := .none },
  { cls := 6, slots := #[.null, .int 2, .int 0, .long 1000, .null], vm := .none },
  { cls := 6, slots := #[.null, .int 3, .int 0, .long 10000, .null], vm := .none },
  { cls := 6, slots := #[.null, .int 4, .int 0, .long 5000, .null], vm := .none },
  { cls := 6, slots := #[.null, .int 5, .int 0, .long 1000, .null], vm := .none },
  { cls := 6, slots := #[.null, .int 6, .int 0, .long 1000000, .null], vm := .none },
  { cls := 6, slots := #[.null, .int 7, .int 0, .long 1000000, .null], vm := .none },
  { cls := 6, slots := #[.null, .int 8, .int 0, .long 16777216, .null], vm := .none }]
def classes : Array Class := #[k0, k1, k2, k3, k4, k5, k6, k7, k8, k9, k10, k11]
def interned : List (Array UInt16 × Addr) := []
def slotsUsed : Nat := 55
def theMethod : MethodId := ⟨1, 1⟩
def args0 : Array Value := #[.int 5, .long 7, .int 3]
def aboutOver (below : List Frame) : State where
  vm := { classes := classes, interned := interned.toArray }
  heap := heap
  slotsUsed := slotsUsed
  threads := #[{ frames := .invoking theMethod args0 :: below }]
def below0 : List Frame := [.native { method := ⟨0, 0⟩, args := #[] }]
def about1 : State := aboutOver below0
def p0 : Program := .bare "" "" ""
def e0 : Env := launch0.env 0 0 0
theorem w_frames : about1.frames = Frame.invoking theMethod args0 :: below0 := rfl
set_option maxRecDepth 65536 in
theorem w_args : argsFit about1.vm theMethod args0 = true := by decide +kernel
set_option maxRecDepth 65536 in
theorem w_heap : heapFits about1 = true := by decide +kernel
set_option maxRecDepth 65536 in
theorem w_runnable : about1.curStatus? = some .runnable := by decide +kernel
set_option maxRecDepth 65536 in
theorem w_alone : about1.alone = true := by decide +kernel
set_option maxRecDepth 65536 in
theorem w_named : about1.methodNamed? x = some theMethod := by decide +kernel
set_option maxRecDepth 65536 in
theorem w_hears : about1.hears theMethod below0 = true := by decide +kernel
set_option maxRecDepth 65536 in
theorem w_ripe : about1.ripe theMethod args0 below0 = true := by decide +kernel
theorem w_running : about1.status = .running := rfl
set_option maxRecDepth 65536 in
theorem w_room : about1.hasRoom e0.platform room_1 = true :=
  launch0.hasRoom_least _ room_1 (by decide +kernel) (by decide +kernel) (by decide +kernel) (by decide +kernel) (by decide +kernel) (by decide +kernel)
theorem allAtoms_all (ts : List Jvm.Cond) (a : Array Jvm.Value) (st : Jvm.State) : (allAtoms ts).before a st = ts.all (fun c => c.before a st) := by
  induction ts with
  | nil => rfl
  | cons c t ih =>
    show (Jvm.Cond.and c (allAtoms t)).before a st = _
    rw [Jvm.Cond.before_and, ih, List.all_cons]
def words1 : List Jvm.Cond := Jvm.Cond.code x code maxLocals ret :: tables_1
/-- a 'code' word, met by the world's own term for the bytes: nothing is compared byte by byte -/
theorem code_word {y : MethodName} {bytes : ByteArray} {mx : Nat} {rt : Option FieldType} {a : Array Value} {s : State} {m : MethodId} {meth : Method} {c : Code} (h1 : s.methodNamed? y = some m) (h2 : s.vm.method? m = some meth) (h3 : meth.code = some c) (h4 : c.code = bytes)
    (h5 : (c.maxLocals == mx && c.exceptionTable.isEmpty && decide (c.maxStack ≤ mostOperands) && decide (meth.sig.returnType = rt) && !meth.locks && decide (parseMethodDescriptor y.desc = some meth.sig)) = true) : (Jvm.Cond.code y bytes mx rt).before a s = true := by
  simp only [Bool.and_eq_true, beq_iff_eq, Bool.not_eq_true', decide_eq_true_eq] at h5
  obtain ⟨⟨⟨⟨⟨g1, g2⟩, g3⟩, g4⟩, g5⟩, g6⟩ := h5
  simp [Cond.before, Cond.holds, Cond.value, h1, h2, h3, h4, g1, g2, g3, g4, g5, g6]
def isCode : Jvm.Cond → Bool
  | .code _ _ _ _ => true
  | _ => false
theorem all_split {L : List Jvm.Cond} {P : Jvm.Cond → Bool} (h1 : L.all (fun c => isCode c || P c) = true) (h2 : ∀ c ∈ L.filter isCode, P c = true) : L.all P = true := by
  refine List.all_eq_true.mpr fun c hc => ?_
  have h := List.all_eq_true.mp h1 c hc
  rcases Bool.eq_false_or_eq_true (isCode c) with hi | hi
  · exact h2 c (List.mem_filter.mpr ⟨hc, hi⟩)
  · simpa [hi] using h
set_option maxRecDepth 65536 in
theorem w_c0 : (Jvm.Cond.code x code maxLocals ret).before args0 about1 = true := code_word (m := ⟨1, 1⟩) (meth := k1m1) (c := k1c1) (by decide +kernel) rfl rfl rfl (by decide +kernel)
set_option maxRecDepth 65536 in
theorem w_c1 : (Jvm.Cond.code ({ cls := "com/example/slot1/slot1/server/Limit", name := "allows", desc := "(J)Z" } : Jvm.MethodName) prog_49_method_5_code (3 : Nat) (Option.some Jvm.ClassFile.FieldType.boolean)).before args0 about1 = true := code_word (m := ⟨6, 0⟩) (meth := k6m0) (c := k6c0) (by decide +kernel) rfl rfl rfl (by decide +kernel)
def codes1 : List Jvm.Cond := [Jvm.Cond.code x code maxLocals ret, Jvm.Cond.code ({ cls := "com/example/slot1/slot1/server/Limit", name := "allows", desc := "(J)Z" } : Jvm.MethodName) prog_49_method_5_code (3 : Nat) (Option.some Jvm.ClassFile.FieldType.boolean)]
set_option maxRecDepth 65536 in
theorem codes_eq : words1.filter isCode = codes1 := rfl
theorem w_codes : ∀ c ∈ words1.filter isCode, c.before args0 about1 = true := by
  rw [codes_eq]
  intro c hc
  simp only [codes1, List.mem_cons, List.not_mem_nil, or_false] at hc
  rcases hc with rfl | rfl
  · exact w_c0
  · exact w_c1
set_option maxRecDepth 65536 in
theorem w_t1 : (words1.take 24).all (fun c => isCode c || c.before args0 about1) = true := by decide +kernel
set_option maxRecDepth 65536 in
theorem w_t2 : (words1.drop 24).all (fun c => isCode c || c.before args0 about1) = true := by decide +kernel
theorem w_tables : (allAtoms (Jvm.Cond.code x code maxLocals ret :: tables_1)).before args0 about1 = true := by
  rw [allAtoms_all]
  show words1.all (fun c => c.before args0 about1) = true
  refine all_split ?_ w_codes
  rw [← List.take_append_drop 24 words1, List.all_append, w_t1, w_t2]
  rfl
set_option maxRecDepth 65536 in
theorem w_case : (Jvm.Cond.and given_1 narrow_1).before args0 about1 = true := by decide +kernel
theorem w_applies : (headSpec (Jvm.Cond.code x code maxLocals ret :: tables_1) room_1).applies x e0.platform about1 = true :=
  (Spec.applies_iff w_frames).mpr ⟨w_running, w_runnable, w_alone, w_named, w_hears, w_ripe, w_room, w_tables⟩
theorem atStart : AtStart classFile x code maxLocals ret World_1 tables_1 room_1 Calls_1 rest_1 Pre_1 launch0 p0 e0 about1 theMethod args0 below0 :=
  ⟨lists_1, trivial, launch0.admits_env _ _ _, launch0.least_env, fairChoices_fair.cas, fairChoices_fair.clock, w_frames, w_args, w_heap, w_applies, trivial, trivial, w_case⟩
end start1
theorem witness_1 : WitnessClaimed_1 := ⟨start1.p0, start1.e0, start1.about1, start1.theMethod, start1.args0, start1.below0, start1.atStart⟩
end Jvm.Pilot.@@N@@
