import JvmDerived
import JvmDerived.Pilot.@@N@@Statement
import JvmDerived.Pilot.@@N@@Code
set_option linter.unusedVariables false
set_option linter.unusedSimpArgs false
namespace Jvm.Pilot.@@N@@
open Jvm Jvm.ClassFile Sem Op Lib Jvm.Free Jvm.Stand Jvm.LawKit Jvm.RoadKit Bundle Jvm.Pilot.@@N@@.Jvm.D
/-- from the state A the body comes to its end as Q says -/
def own_Fin (tb : Tables) (e : Env) (below : List Frame) (s : State) (Q : Option Value → Heap → List Loc → Prop) (kc ks : Nat) (A : State) : Prop :=
  ∃ s₂ o, Steps tb e below A s₂ ∧ s₂.status = .running ∧ Ended s₂ below o ∧ ∃ v L, o = .returned v ∧ Q v s₂.heap L ∧ FrameEnd s o s₂ L kc ks
theorem own_G (tb : Tables) (e : Env) (below : List Frame) (s : State) (Q : Option Value → Heap → List Loc → Prop) (kc ks : Nat) :
    ∃ G : State → Prop, (∀ {A B : State}, (∀ t, Steps tb e below B t → Steps tb e below A t) → G B → G A) ∧ (∀ A, own_Fin tb e below s Q kc ks A → G A) ∧ (∀ A, G A → own_Fin tb e below s Q kc ks A) :=
  ⟨own_Fin tb e below s Q kc ks, fun h k => by obtain ⟨s₂, o, h1, r⟩ := k; exact ⟨s₂, o, h _ h1, r⟩, fun _ h => h, fun _ h => h⟩
theorem own_ret {p : Program} {l : Launch} {e : Env} {R : Room} {s : State} {m : MethodId} {args : Array Value} {below : List Frame} {meth : Method} {c : Code} {T : State} {locs : List Loc} {cells slots : Nat} {Q : Option Value → Heap → List Loc → Prop} {kc ks : Nat} {A : State} {v : Option Value}
    (X : Stand p l e R s m args below meth c T locs cells slots) (hlk : meth.locks = false) (hv : meth.sig.returnType = none → v = none) (hQ : Q v T.heap locs) (hc : cells ≤ kc) (hs : slots ≤ ks)
    (st : ∀ fs, (∀ (f : JFrame) (acts : List Action), f.method = m → f.locked = none → f.entered = [] → (doReturn e (T.setTop f) acts v).1 = T.setFrames fs) → Steps p.tables e below A (T.setFrames fs)) : own_Fin p.tables e below s Q kc ks A := by
  obtain ⟨fs, hr, hrun, hended, hW, hsame⟩ := X.leave hv hlk
  exact ⟨_, _, st fs hr, hrun, hended, _, _, rfl, hQ, ⟨_, rfl⟩, hW, hsame.mono hc hs⟩
theorem own_old {Z : State} {n0 : Nat} {h : Heap} (O : Old Z n0 h) : n0 ≤ h.size := O.1 ▸ O.2.1
theorem own_cat {v : Value} (h : v.isRef = true) : v.category = 1 := by rcases ref_cases h with rfl | ⟨a, rfl⟩ <;> rfl
theorem own_mvM {Z s : State} {a0 args : Array Value} {own host : String} {index : Nat} {y : MethodName} (hZ : Z.Warmed39 s.vm) (w : (Jvm.Cond.methodLinkNest own index y host).before a0 Z = true) : (Jvm.Cond.methodLinkNest own index y host).before args s = true := (Cond.methodLinkNest_wide hZ w :)
theorem own_ne_arv {Z : State} {h : Heap} {a b : Addr} {C : String} {a0 : Array Value} {n : Nat} {k : ClassId} {ty : FieldType} {z : Int32} {vs : List Value} {d : Value} (E : Exa Z h a C) (wi : (Jvm.Cond.instantiable C n).before a0 Z = true) (A : Arv Z h b k ty z vs d) : a ≠ b := by
  obtain ⟨c, A, -⟩ := A
  exact ne_arr E wi A
theorem own_narB (x : Int32) : nar .byte x.toInt8.toInt32 = x.toInt8.toInt32 := by
  refine Int32.toInt_inj.mp ?_
  have h1 := c_i2b x
  have h2 := c_i2b x.toInt8.toInt32
  show (x.toInt8.toInt32.toInt8.toInt32).toInt = _
  omega
theorem own_narC (x : Int32) : nar .char x.toUInt32.toUInt16.toUInt32.toInt32 = x.toUInt32.toUInt16.toUInt32.toInt32 := by
  refine Int32.toInt_inj.mp ?_
  have h1 := c_i2c x
  have h2 := c_i2c x.toUInt32.toUInt16.toUInt32.toInt32
  show (x.toUInt32.toUInt16.toUInt32.toInt32.toUInt32.toUInt16.toUInt32.toInt32).toInt = _
  omega
theorem own_exa {s : State} {args : Array Value} {t : Term} {K : String} (h : (Jvm.Cond.exactly t K).value args s none s [] = some true) : ∃ a, t.eval args s none [] s = some (.ref a) ∧ Exa s s.heap a K := by
  obtain ⟨a, c', cell, k, e1, e2, e3, e4, e5, e6, e7⟩ := Cond.exactly_spec (Cond.before_iff.mpr h)
  exact ⟨a, e1, Exa.start e1 h⟩
theorem own_fint {s : State} {args : Array Value} {t : Term} {C n d : String} {a : Addr} {k : Int32} (ht : t.eval args s none [] s = some (.ref a)) (h : (Jvm.Cond.eq (.field t C n d) (.int k)).value args s none s [] = some true) : Fld s s.heap a C n d (.int k) := by
  refine Fld.start ?_
  rw [← fld_at ht]
  have hk : (Term.int k).eval args s none [] s = some (.int k) := rfl
  cases q : (Term.field t C n d).eval args s none [] s with
  | none => simp [Cond.value, q] at h
  | some v => cases v <;> simp [Cond.value, q, hk] at h; rw [h]
theorem own_flong {s : State} {args : Array Value} {t : Term} {C n d : String} {a : Addr} {k : Int64} (ht : t.eval args s none [] s = some (.ref a)) (h : (Jvm.Cond.eq (.field t C n d) (.long k)).value args s none s [] = some true) : Fld s s.heap a C n d (.long k) := by
  refine Fld.start ?_
  rw [← fld_at ht]
  have hk : (Term.long k).eval args s none [] s = some (.long k) := rfl
  cases q : (Term.field t C n d).eval args s none [] s with
  | none => simp [Cond.value, q] at h
  | some v => cases v <;> simp [Cond.value, q, hk] at h; rw [h]
theorem own_cache_in {n : Int32} {c : Cell} (h1 : ¬ (n < (-128 : Int32))) (h2 : ¬ ((127 : Int32) < n)) (hs : c.slots.size = (256 : Int32).toNatClampNeg) : ¬ ((n + (128 : Int32)) < 0 ∨ c.slots.size ≤ (n + (128 : Int32)).toNatClampNeg) := by
  have q := c_iadd n 128
  have r := rng32 n
  have r2 := rng32 (n + 128)
  rw [Int32.lt_iff_toInt_lt] at h1 h2
  have e1 : (-128 : Int32).toInt = -128 := by decide
  have e2 : (127 : Int32).toInt = 127 := by decide
  have e3 : (128 : Int32).toInt = 128 := by decide
  have e4 : (0 : Int32).toInt = 0 := by decide
  have e5 : (256 : Int32).toInt = 256 := by decide
  refine inb_of hs ⟨?_, ?_⟩
  · rw [Int32.lt_iff_toInt_lt]; omega
  · rw [Int32.lt_iff_toInt_lt]; omega
theorem own_box (n : Int32) : n + (128 : Int32) - (128 : Int32) = n := by
  refine Int32.toInt_inj.mp ?_
  have q := c_iadd n 128
  have q2 := c_isub (n + 128) 128
  have r := rng32 n
  have r2 := rng32 (n + 128 - 128)
  omega
theorem own_cache {s : State} {args : Array Value} {t : Term} (et : ∀ idx idx', t.eval args s none idx s = t.eval args s none idx' s) (h4 : (Jvm.Cond.arrayOf t (.object "java/lang/Integer")).value args s none s [] = some true) (h6 : (Jvm.Cond.eq (.length t) (.int 256)).value args s none s [] = some true)
    (h7 : (Jvm.Cond.all t (.and (.exactly (.elem t (.index 0)) "java/lang/Integer") (.eq (.field (.elem t (.index 0)) "java/lang/Integer" "value" "I") (.sub (.index 0) (.int 128))))).value args s none s [] = some true) :
    ∃ (a : Addr) (c : Cell), t.eval args s none [] s = some (.ref a) ∧ Bxs s a c "java/lang/Integer" "I" (256 : Int32) (fun j => Value.int (j - (128 : Int32))) := by
  have e6 := eqv_i (Term.int_eval 256) h6
  obtain ⟨a, cell, ea, hat, -⟩ := Term.length_spec e6
  obtain ⟨c, A⟩ := Arr.start ea h4
  have hc := A.fin (Vm.Alike.refl _)
  have hl : c.slots.size < 2 ^ 31 := by
    rcases Nat.lt_or_ge c.slots.size (2 ^ 31) with q | q
    · exact q
    · simp [Term.eval, ea, hc, Nat.not_lt.mpr q] at e6
  have e8 := (len_f ea hc hl).symm.trans e6
  have e9 : c.slots.size.toInt32 = (256 : Int32) := by simpa using e8
  refine ⟨a, c, ea, Bxs.start (fun idx => (et idx []).trans ea) A hl e9 (by decide) h7 (fun X j hj hx => ?_)⟩
  refine eqv_i ?_ hx
  have q := idx_at (args := args) (s := s) (first := s) (o := none) hj
  simp [Term.eval] at q ⊢
  simp [q]
theorem own_not0 {s : State} {args : Array Value} {t : Term} {x : Int32} (ev : t.eval args s none [] s = some (.int x)) (h : (Jvm.Cond.not (.eq t (.int 0))).value args s none s [] = some true) : ¬ (x = (0 : Int32)) := by
  intro q
  subst q
  have k : (Term.int 0).eval args s none [] s = some (.int 0) := rfl
  simp [Cond.value, ev, k] at h
theorem own_isref {s : State} {args : Array Value} {t : Term} (h : (Jvm.Cond.isRef t).value args s none s [] = some true) : ∃ v, t.eval args s none [] s = some v ∧ v.isRef = true := by
  cases q : t.eval args s none [] s with
  | none => simp [Cond.value, q] at h
  | some v => refine ⟨v, rfl, ?_⟩; cases v <;> simp [Cond.value, q, Value.isRef] at h ⊢
theorem own_empty {s : State} (hf : Fit s) {args : Array Value} {t : Term} {ty : FieldType} (h4 : (Jvm.Cond.arrayOf t ty).value args s none s [] = some true) (h6 : (Jvm.Cond.eq (.length t) (.int 0)).value args s none s [] = some true) : ∃ (a : Addr) (k : ClassId), t.eval args s none [] s = some (.ref a) ∧ Arv s s.heap a k ty (0 : Int32) [] .null := by
  have e6 := eqv_i (Term.int_eval 0) h6
  obtain ⟨a, cell, ea, hat, -⟩ := Term.length_spec e6
  obtain ⟨c, A⟩ := Arr.start ea h4
  have hc := A.fin (Vm.Alike.refl _)
  have hl : c.slots.size < 2 ^ 31 := by
    rcases Nat.lt_or_ge c.slots.size (2 ^ 31) with q | q
    · exact q
    · simp [Term.eval, ea, hc, Nat.not_lt.mpr q] at e6
  have e8 := (len_f ea hc hl).symm.trans e6
  have e9 : c.slots.size.toInt32 = (0 : Int32) := by simpa using e8
  exact ⟨a, c.cls, ea, Arv.start hf A hl e9 (by decide) rfl trivial⟩
theorem own_and3 (a : Int32) : a &&& (3 : Int32) = (0 : Int32) ∨ a &&& (3 : Int32) = (1 : Int32) ∨ a &&& (3 : Int32) = (2 : Int32) ∨ a &&& (3 : Int32) = (3 : Int32) := by
  have h := c_mask a 3 2 (by decide) (by decide)
  have h1 : (a &&& (3 : Int32)).toInt = 0 ∨ (a &&& (3 : Int32)).toInt = 1 ∨ (a &&& (3 : Int32)).toInt = 2 ∨ (a &&& (3 : Int32)).toInt = 3 := by omega
  rcases h1 with q | q | q | q
  · exact Or.inl (Int32.toInt_inj.mp (by rw [q]; rfl))
  · exact Or.inr (Or.inl (Int32.toInt_inj.mp (by rw [q]; rfl)))
  · exact Or.inr (Or.inr (Or.inl (Int32.toInt_inj.mp (by rw [q]; rfl))))
  · exact Or.inr (Or.inr (Or.inr (Int32.toInt_inj.mp (by rw [q]; rfl))))
theorem own_lt255 (p : Int32) : ¬ ((255 : Int32) < ((p &&& (255 : Int32)).toUInt32.toUInt16.toUInt32.toInt32)) := by
  have h := c_mask p 255 8 (by decide) (by decide)
  have w := c_i2c (p &&& 255)
  have e : (255 : Int32).toInt = 255 := by decide
  rw [Int32.lt_iff_toInt_lt]; omega
theorem ef_0 (m : MethodId) (x0 : Addr)  : entryFrame m #[(.ref x0)] 1 = mkF m 0 #[.val (.ref x0)] [] := by first | (simp [entryFrame, mkF, argsToLocals, Value.category]; done) | rfl
theorem pn_0 : plainName "java/lang/Number" = true := by first | (simp [plainName, overriddenIn]; done) | decide +kernel
theorem d28_0 : decode jdk_18_method_1_code 0 = .ok (.aload_n 0, 1) := by decide +kernel
theorem d28_1 : decode jdk_18_method_1_code 1 = .ok (.invokespecial 1, 3) := by decide +kernel
theorem d28_4 : decode jdk_18_method_1_code 4 = .ok (.return_, 1) := by decide +kernel
def Q_num (Z : State) (a : Addr) (h0 : Heap) (n0 : Nat) (v : Option Value) (h : Heap) (L : List Loc) : Prop := v = none ∧ Fr n0 L ∧ h = h0
set_option maxRecDepth 65536 in
set_option maxHeartbeats 40000000 in
theorem rm_num (l : Launch) (Z : State) (a0 : Array Value) (hw : ∀ d ∈ tables_1, d.before a0 Z = true) (ws : List Jvm.Cond) (a : Addr) (h0 : Heap) (n0 : Nat) (O0 : Old Z n0 h0)  :
    MetFree l (⟨"java/lang/Number", "<init>", "()V"⟩ : MethodName) (head1 (Jvm.Cond.code (⟨"java/lang/Number", "<init>", "()V"⟩ : MethodName) jdk_18_method_1_code 1 none :: ws) ({ frames := 1, cells := 0, slots := 0, locals := 12 } : Room)) (fun aV U => aV = #[(.ref a)] ∧ Z.Warmed39 U.vm ∧ U.heap = h0) (fun _ _ _ _ _ => True) (fun _ U o U' => ∃ v L, o = .returned v ∧ Q_num Z a h0 n0 v U'.heap L ∧ FrameEnd U o U' L ({ frames := 1, cells := 0, slots := 0, locals := 12 } : Room).cells ({ frames := 1, cells := 0, slots := 0, locals := 12 } : Room).slots) := by
  refine MetFree.of_bodySF (plainFor_of_name pn_0) hisR ?_
  intro pr_ en_ st_ me_ args below meth_ co_ s₁ Bd hml0 hP hK
  obtain ⟨rfl, hZ, hh⟩ := hP
  have hx := Bd.exec
  have hby := Bd.bytes
  have hml : co_.maxLocals = 1 := hml0
  have hown : st_.vm.findClass "java/lang/Number" = some me_.cls := findClass_of_methodNamed Bd.named
  have hnm := (name_of_methodNamed Bd.named Bd.method).1
  have X0 : Stand pr_ l en_ ({ frames := 1, cells := 0, slots := 0, locals := 12 } : Room) st_ me_ #[(.ref a)] below meth_ co_ s₁ [] 0 0 := Stand.of_body Bd
  have e0 : s₁.heap = h0 := by rw [← hh, Bd.state]; rfl
  have N0 := Fr.nil n0
  have K0 := Keep.refl h0 []
  obtain ⟨G, gv, gf, gb⟩ := own_G pr_.tables en_ below st_ (Q_num Z a h0 n0) ({ frames := 1, cells := 0, slots := 0, locals := 12 } : Room).cells ({ frames := 1, cells := 0, slots := 0, locals := 12 } : Room).slots
  show own_Fin pr_.tables en_ below st_ (Q_num Z a h0 n0) ({ frames := 1, cells := 0, slots := 0, locals := 12 } : Room).cells ({ frames := 1, cells := 0, slots := 0, locals := 12 } : Room).slots (s₁.setTop (entryFrame me_ #[(.ref a)] 1))
  refine gb _ (gv (fun tQ kQ => castTop (ef_0 me_ a) kQ) ?_)
  show G (s₁.setTop (mkF me_ 0 #[.val (.ref a)] []))
  refine gv (fun tQ kQ => XS.aloadN X0.here hx rfl (hb hby d28_0) rfl rfl kQ) ?_
  show G (s₁.setTop (mkF me_ 1 #[.val (.ref a)] [(.ref a)]))
  obtain ⟨T1, X1, e1, st1⟩ := initO X0 hx hZ hown (hw _ (List.mem_of_getElem? (i := 161) rfl)) (hw _ (List.mem_of_getElem? (i := 19) rfl)) (hw _ (List.mem_of_getElem? (i := 20) rfl)) e0 (g := (mkF me_ 1 #[.val (.ref a)] [(.ref a)])) rfl (by rw [hml]; rfl) rfl (hb hby d28_1) (by decide) (W := 0) (by show 2 * 0 + _ ≤ _; exact Nat.le_of_eq rfl) (by decide)
  refine gv st1 ?_
  show G (T1.setTop (mkF me_ 4 #[.val (.ref a)] []))
  refine gf _ (own_ret X1 Bd.notSynchronized (v := none) (fun _ => rfl) ?_ (by decide) (by decide) (fun fs hr => X1.returnOut hx Bd.returns (hb hby d28_4) hr))
  show Q_num Z a h0 n0 _ T1.heap _
  rw [e1]
  exact ⟨rfl, N0, rfl⟩
theorem ef_1 (m : MethodId) (x0 : Addr) (x1 : Int32)  : entryFrame m #[(.ref x0), (.int x1)] 2 = mkF m 0 #[.val (.ref x0), .val (.int x1)] [] := by first | (simp [entryFrame, mkF, argsToLocals, Value.category]; done) | rfl
theorem pn_1 : plainName "java/lang/Integer" = true := by first | (simp [plainName, overriddenIn]; done) | decide +kernel
theorem d27_0 : decode jdk_33_method_23_code 0 = .ok (.aload_n 0, 1) := by decide +kernel
theorem d27_1 : decode jdk_33_method_23_code 1 = .ok (.invokespecial 202, 3) := by decide +kernel
theorem pd_0 : parseMethodDescriptor "()V" = some ⟨[], none⟩ := by decide +kernel
theorem d27_4 : decode jdk_33_method_23_code 4 = .ok (.aload_n 0, 1) := by decide +kernel
theorem d27_5 : decode jdk_33_method_23_code 5 = .ok (.iload_n 1, 1) := by decide +kernel
theorem d27_6 : decode jdk_33_method_23_code 6 = .ok (.putfield 205, 3) := by decide +kernel
theorem d27_9 : decode jdk_33_method_23_code 9 = .ok (.return_, 1) := by decide +kernel
def Q_ini (Z : State) (a : Addr) (n : Int32) (h0 : Heap) (n0 : Nat) (v : Option Value) (h : Heap) (L : List Loc) : Prop := v = none ∧ Fr n0 L ∧ Keep h0 h [a] ∧ (Exa Z h a "java/lang/Integer") ∧ (Fld Z h a "java/lang/Integer" "value" "I" (.int n))
set_option maxRecDepth 65536 in
set_option maxHeartbeats 40000000 in
theorem rm_ini (l : Launch) (Z : State) (a0 : Array Value) (hw : ∀ d ∈ tables_1, d.before a0 Z = true) (ws : List Jvm.Cond) (a : Addr) (n : Int32) (h0 : Heap) (n0 : Nat) (O0 : Old Z n0 h0) (u0 : Exa Z h0 a "java/lang/Integer") (u1 : Fld Z h0 a "java/lang/Integer" "value" "I" (.int (0 : Int32))) (u2 : n0 ≤ a) :
    MetFree l (⟨"java/lang/Integer", "<init>", "(I)V"⟩ : MethodName) (head1 (Jvm.Cond.code (⟨"java/lang/Integer", "<init>", "(I)V"⟩ : MethodName) jdk_33_method_23_code 2 none :: ws) ({ frames := 2, cells := 0, slots := 0, locals := 24 } : Room)) (fun aV U => aV = #[(.ref a), (.int n)] ∧ Z.Warmed39 U.vm ∧ U.heap = h0) (fun _ _ _ _ _ => True) (fun _ U o U' => ∃ v L, o = .returned v ∧ Q_ini Z a n h0 n0 v U'.heap L ∧ FrameEnd U o U' L ({ frames := 2, cells := 0, slots := 0, locals := 24 } : Room).cells ({ frames := 2, cells := 0, slots := 0, locals := 24 } : Room).slots) := by
  refine MetFree.of_bodySF (plainFor_of_name pn_1) hisR ?_
  intro pr_ en_ st_ me_ args below meth_ co_ s₁ Bd hml0 hP hK
  obtain ⟨rfl, hZ, hh⟩ := hP
  have hx := Bd.exec
  have hby := Bd.bytes
  have hml : co_.maxLocals = 2 := hml0
  have hown : st_.vm.findClass "java/lang/Integer" = some me_.cls := findClass_of_methodNamed Bd.named
  have hnm := (name_of_methodNamed Bd.named Bd.method).1
  have X0 : Stand pr_ l en_ ({ frames := 2, cells := 0, slots := 0, locals := 24 } : Room) st_ me_ #[(.ref a), (.int n)] below meth_ co_ s₁ [] 0 0 := Stand.of_body Bd
  have e0 : s₁.heap = h0 := by rw [← hh, Bd.state]; rfl
  have N0 := Fr.nil n0
  have K0 := Keep.refl h0 [a]
  obtain ⟨G, gv, gf, gb⟩ := own_G pr_.tables en_ below st_ (Q_ini Z a n h0 n0) ({ frames := 2, cells := 0, slots := 0, locals := 24 } : Room).cells ({ frames := 2, cells := 0, slots := 0, locals := 24 } : Room).slots
  show own_Fin pr_.tables en_ below st_ (Q_ini Z a n h0 n0) ({ frames := 2, cells := 0, slots := 0, locals := 24 } : Room).cells ({ frames := 2, cells := 0, slots := 0, locals := 24 } : Room).slots (s₁.setTop (entryFrame me_ #[(.ref a), (.int n)] 2))
  refine gb _ (gv (fun tQ kQ => castTop (ef_1 me_ a n) kQ) ?_)
  show G (s₁.setTop (mkF me_ 0 #[.val (.ref a), .val (.int n)] []))
  refine gv (fun tQ kQ => XS.aloadN X0.here hx rfl (hb hby d27_0) rfl rfl kQ) ?_
  show G (s₁.setTop (mkF me_ 1 #[.val (.ref a), .val (.int n)] [(.ref a)]))
  obtain ⟨_, _, ⟨T2, L2, k2, n2⟩, -, X2, ⟨Lc2, hQ2, l2, y2, z2⟩, st2⟩ := X0.specialBack hx (y := (⟨"java/lang/Number", "<init>", "()V"⟩ : MethodName)) rfl hown (mvT hZ (hw _ (List.mem_of_getElem? (i := 155) rfl))) (mvT hZ (hw _ (List.mem_of_getElem? (i := 156) rfl))) (mvT hZ (hw _ (List.mem_of_getElem? (i := 160) rfl))) (by decide) (backOf (W := 0) (rm_num l Z a0 hw [] a h0 n0 O0 ) hZ (hw _ (List.mem_of_getElem? (i := 160) rfl)) (hw _ (List.mem_of_getElem? (i := 159) rfl)) (by decide) (by decide)) (g := (mkF me_ 1 #[.val (.ref a), .val (.int n)] [(.ref a)])) rfl (by rw [hml]; rfl) (Steps.refl _) (a := a) (argsL := []) (rest := []) (lenOf pd_0 rfl) rfl (by show 2 * 0 + _ ≤ _; exact Nat.le_of_eq rfl) (hb hby d27_1) (fun _ _ => ⟨rfl, e0, (by decide : 0 + 0 ≤ _), (by decide : 0 + 0 ≤ _)⟩)
  dsimp only [Pt.U, Pt.locs, Pt.cells, Pt.slots] at X2 l2 y2 z2 st2 hQ2
  subst l2 y2 z2
  obtain ⟨rfl, Nq2, eq2⟩ := hQ2
  have N3 := Fr.app N0 Nq2
  refine gv (fun tQ kQ => st2.trans kQ) ?_
  show G (T2.setTop (mkF me_ 4 #[.val (.ref a), .val (.int n)] []))
  refine gv (fun tQ kQ => XS.aloadN X2.here hx rfl (hb hby d27_4) rfl rfl kQ) ?_
  show G (T2.setTop (mkF me_ 5 #[.val (.ref a), .val (.int n)] [(.ref a)]))
  refine gv (fun tQ kQ => XS.iloadN X2.here hx rfl (hb hby d27_5) rfl kQ) ?_
  show G (T2.setTop (mkF me_ 6 #[.val (.ref a), .val (.int n)] [(.int n), (.ref a)]))
  obtain ⟨T4, h4, X4, e4, W4, st4⟩ := putF X2 hx hZ hown (host := "") (Or.inl (hw _ (List.mem_of_getElem? (i := 148) rfl))) Via.refl eq2 u1 u0 (Or.inr ⟨(hw _ (List.mem_of_getElem? (i := 149) rfl)), rfl, hnm⟩) (hw _ (List.mem_of_getElem? (i := 151) rfl)) (ty := .int) (by decide) rfl rfl (g := (mkF me_ 6 #[.val (.ref a), .val (.int n)] [(.int n), (.ref a)])) rfl rfl (hb hby d27_6)
  refine gv st4 ?_
  have f6 : Exa Z h4 a "java/lang/Integer" := u0.wr W4
  have O7 := O0.wr W4 u2
  have K8 := K0.wr W4 (Or.inl (List.mem_of_getElem? (i := 0) rfl))
  have N9 := Fr.snoc X4 N3 u2
  have f5 : Fld Z h4 a "java/lang/Integer" "value" "I" (.int n) := u1.same W4
  show G (T4.setTop (mkF me_ 9 #[.val (.ref a), .val (.int n)] []))
  refine gf _ (own_ret X4 Bd.notSynchronized (v := none) (fun _ => rfl) ?_ (by decide) (by decide) (fun fs hr => X4.returnOut hx Bd.returns (hb hby d27_9) hr))
  show Q_ini Z a n h0 n0 _ T4.heap _
  rw [e4]
  exact ⟨rfl, N9, K8, f6, f5⟩
theorem ef_2 (m : MethodId) (x0 : Int32)  : entryFrame m #[(.int x0)] 1 = mkF m 0 #[.val (.int x0)] [] := by first | (simp [entryFrame, mkF, argsToLocals, Value.category]; done) | rfl
theorem d16_0 : decode jdk_33_method_22_code 0 = .ok (.iload_n 0, 1) := by decide +kernel
theorem d16_1 : decode jdk_33_method_22_code 1 = .ok (.bipush (-128), 2) := by decide +kernel
theorem d16_3 : decode jdk_33_method_22_code 3 = .ok (.if_icmp .lt 20, 3) := by decide +kernel
theorem d16_23 : decode jdk_33_method_22_code 23 = .ok (.new 1, 3) := by decide +kernel
theorem d16_26 : decode jdk_33_method_22_code 26 = .ok (.dup, 1) := by decide +kernel
theorem d16_27 : decode jdk_33_method_22_code 27 = .ok (.iload_n 0, 1) := by decide +kernel
theorem d16_28 : decode jdk_33_method_22_code 28 = .ok (.invokespecial 199, 3) := by decide +kernel
theorem pd_1 : parseMethodDescriptor "(I)V" = some ⟨[.int], none⟩ := by decide +kernel
theorem d16_31 : decode jdk_33_method_22_code 31 = .ok (.areturn, 1) := by decide +kernel
theorem d16_6 : decode jdk_33_method_22_code 6 = .ok (.iload_n 0, 1) := by decide +kernel
theorem d16_7 : decode jdk_33_method_22_code 7 = .ok (.getstatic 191, 3) := by decide +kernel
theorem d16_10 : decode jdk_33_method_22_code 10 = .ok (.if_icmp .gt 13, 3) := by decide +kernel
theorem d16_13 : decode jdk_33_method_22_code 13 = .ok (.getstatic 195, 3) := by decide +kernel
theorem d16_16 : decode jdk_33_method_22_code 16 = .ok (.iload_n 0, 1) := by decide +kernel
theorem d16_17 : decode jdk_33_method_22_code 17 = .ok (.sipush 128, 3) := by decide +kernel
theorem d16_20 : decode jdk_33_method_22_code 20 = .ok (.iadd, 1) := by decide +kernel
theorem d16_21 : decode jdk_33_method_22_code 21 = .ok (.aaload, 1) := by decide +kernel
theorem d16_22 : decode jdk_33_method_22_code 22 = .ok (.areturn, 1) := by decide +kernel
def Q_vo (Z : State) (n : Int32) (cA : Addr) (bxc : Cell) (h0 : Heap) (n0 : Nat) (v : Option Value) (h : Heap) (L : List Loc) : Prop := ∃ (r : Addr), v = some (.ref r) ∧ Fr n0 L ∧ Keep h0 h [] ∧ (Exa Z h r "java/lang/Integer") ∧ (Fld Z h r "java/lang/Integer" "value" "I" (.int n))
set_option maxRecDepth 65536 in
set_option maxHeartbeats 40000000 in
theorem rm_vo (l : Launch) (Z : State) (a0 : Array Value) (hw : ∀ d ∈ tables_1, d.before a0 Z = true) (ws : List Jvm.Cond) (n : Int32) (cA : Addr) (bxc : Cell) (h0 : Heap) (n0 : Nat) (O0 : Old Z n0 h0) (u0 : Sta Z Z.heap "java/lang/Integer$IntegerCache" "high" "I" (.int (127 : Int32))) (u1 : Sta Z Z.heap "java/lang/Integer$IntegerCache" "cache" "[Ljava/lang/Integer;" (.ref cA)) (u2 : (Bxs Z cA bxc "java/lang/Integer" "I" (256 : Int32) (fun j => Value.int (j - (128 : Int32))))) :
    MetFree l (⟨"java/lang/Integer", "valueOf", "(I)Ljava/lang/Integer;"⟩ : MethodName) (head1 (Jvm.Cond.code (⟨"java/lang/Integer", "valueOf", "(I)Ljava/lang/Integer;"⟩ : MethodName) jdk_33_method_22_code 1 (some (.object "java/lang/Integer")) :: ws) ({ frames := 3, cells := 1, slots := 1, locals := 38 } : Room)) (fun aV U => aV = #[(.int n)] ∧ Z.Warmed39 U.vm ∧ U.heap = h0) (fun _ _ _ _ _ => True) (fun _ U o U' => ∃ v L, o = .returned v ∧ Q_vo Z n cA bxc h0 n0 v U'.heap L ∧ FrameEnd U o U' L ({ frames := 3, cells := 1, slots := 1, locals := 38 } : Room).cells ({ frames := 3, cells := 1, slots := 1, locals := 38 } : Room).slots) := by
  refine MetFree.of_bodySF (plainFor_of_name pn_1) hisR ?_
  intro pr_ en_ st_ me_ args below meth_ co_ s₁ Bd hml0 hP hK
  obtain ⟨rfl, hZ, hh⟩ := hP
  have hx := Bd.exec
  have hby := Bd.bytes
  have hml : co_.maxLocals = 1 := hml0
  have hown : st_.vm.findClass "java/lang/Integer" = some me_.cls := findClass_of_methodNamed Bd.named
  have hnm := (name_of_methodNamed Bd.named Bd.method).1
  have X0 : Stand pr_ l en_ ({ frames := 3, cells := 1, slots := 1, locals := 38 } : Room) st_ me_ #[(.int n)] below meth_ co_ s₁ [] 0 0 := Stand.of_body Bd
  have e0 : s₁.heap = h0 := by rw [← hh, Bd.state]; rfl
  have N0 := Fr.nil n0
  have K0 := Keep.refl h0 []
  obtain ⟨G, gv, gf, gb⟩ := own_G pr_.tables en_ below st_ (Q_vo Z n cA bxc h0 n0) ({ frames := 3, cells := 1, slots := 1, locals := 38 } : Room).cells ({ frames := 3, cells := 1, slots := 1, locals := 38 } : Room).slots
  show own_Fin pr_.tables en_ below st_ (Q_vo Z n cA bxc h0 n0) ({ frames := 3, cells := 1, slots := 1, locals := 38 } : Room).cells ({ frames := 3, cells := 1, slots := 1, locals := 38 } : Room).slots (s₁.setTop (entryFrame me_ #[(.int n)] 1))
  refine gb _ (gv (fun tQ kQ => castTop (ef_2 me_ n) kQ) ?_)
  show G (s₁.setTop (mkF me_ 0 #[.val (.int n)] []))
  refine gv (fun tQ kQ => XS.iloadN X0.here hx rfl (hb hby d16_0) rfl kQ) ?_
  show G (s₁.setTop (mkF me_ 1 #[.val (.int n)] [(.int n)]))
  refine gv (fun tQ kQ => XS.bipush X0.here hx rfl (hb hby d16_1) kQ) ?_
  show G (s₁.setTop (mkF me_ 3 #[.val (.int n)] [(.int (-128 : Int32)), (.int n)]))
  by_cases hc10 : n < (-128 : Int32)
  · refine gv (fun tQ kQ => XS.icmpYes X0.here hx rfl (pc0 := 3) (pc' := 23) rfl (hb hby d16_3) rfl (tlt hc10).1 (by decide) (by decide) kQ) ?_
    show G (s₁.setTop (mkF me_ 23 #[.val (.int n)] []))
    obtain ⟨T11, h11, X11, e11, E11, A11, D11, -, st11⟩ := newO X0 hx hZ hown (hw _ (List.mem_of_getElem? (i := 150) rfl)) (hw _ (List.mem_of_getElem? (i := 151) rfl)) (hw _ (List.mem_of_getElem? (i := 86) rfl)) e0 (g := (mkF me_ 23 #[.val (.int n)] [])) rfl (hb hby d16_23) (by decide) (by decide)
    obtain ⟨b11, g11⟩ : ∃ z, z = h0.size := ⟨_, rfl⟩
    rw [← g11] at A11 D11 st11
    refine gv st11 ?_
    have g12 : n0 ≤ b11 := Nat.le_trans (own_old O0) (Nat.le_of_eq g11.symm)
    have z13 : h0.size ≤ b11 := Nat.le_trans K0.1 (Nat.le_of_eq g11.symm)
    have O14 := O0.ext E11
    have K15 := K0.ext E11
    have f16 : Fld Z h11 b11 "java/lang/Integer" "value" "I" (.int (0 : Int32)) := D11 (Or.inr (hw _ (List.mem_of_getElem? (i := 149) rfl))) (ty := .int) (by decide)
    show G (T11.setTop (mkF me_ 26 #[.val (.int n)] [(.ref b11)]))
    refine gv (fun tQ kQ => XS.dup X11.here hx rfl (hb hby d16_26) rfl rfl kQ) ?_
    show G (T11.setTop (mkF me_ 27 #[.val (.int n)] [(.ref b11), (.ref b11)]))
    refine gv (fun tQ kQ => XS.iloadN X11.here hx rfl (hb hby d16_27) rfl kQ) ?_
    show G (T11.setTop (mkF me_ 28 #[.val (.int n)] [(.int n), (.ref b11), (.ref b11)]))
    obtain ⟨_, _, ⟨T17, L17, k17, n17⟩, -, X17, ⟨Lc17, hQ17, l17, y17, z17⟩, st17⟩ := X11.specialBack hx (y := (⟨"java/lang/Integer", "<init>", "(I)V"⟩ : MethodName)) rfl hown (mvT hZ (hw _ (List.mem_of_getElem? (i := 152) rfl))) (mvT hZ (hw _ (List.mem_of_getElem? (i := 153) rfl))) (mvT hZ (hw _ (List.mem_of_getElem? (i := 154) rfl))) (by decide) (backOf (W := 1) (rm_ini l Z a0 hw [] b11 n h11 n0 O14 A11 f16 g12) hZ (hw _ (List.mem_of_getElem? (i := 154) rfl)) (hw _ (List.mem_of_getElem? (i := 86) rfl)) (by decide) (by decide)) (g := (mkF me_ 28 #[.val (.int n)] [(.int n), (.ref b11), (.ref b11)])) rfl (by rw [hml]; rfl) (Steps.refl _) (a := b11) (argsL := [(.int n)]) (rest := [(.ref b11)]) (lenOf pd_1 rfl) rfl (by show 2 * 0 + _ ≤ _; exact Nat.le_of_eq rfl) (hb hby d16_28) (fun _ _ => ⟨rfl, e11, (by decide : 1 + 0 ≤ _), (by decide : 1 + 0 ≤ _)⟩)
    dsimp only [Pt.U, Pt.locs, Pt.cells, Pt.slots] at X17 l17 y17 z17 st17 hQ17
    subst l17 y17 z17
    obtain ⟨rfl, Nq17, Kq17, w17_0, w17_1⟩ := hQ17
    have N18 := Fr.app N0 Nq17
    obtain ⟨h17, e17⟩ : ∃ z, T17.heap = z := ⟨_, rfl⟩
    rw [e17] at Kq17 w17_0 w17_1
    have f19 : Exa Z h17 b11 "java/lang/Integer" := A11.keep Kq17
    have O20 := O14.keep Kq17 (allS g12 all0)
    have K21 := K15.trans Kq17 (allS (Or.inr z13) all0)
    refine gv (fun tQ kQ => st17.trans kQ) ?_
    show G (T17.setTop (mkF me_ 31 #[.val (.int n)] [(.ref b11)]))
    refine gf _ (own_ret X17 Bd.notSynchronized (v := some (.ref b11)) (fun h => by rw [Bd.returns] at h; cases h) ?_ (by decide) (by decide) (fun fs hr => retOut X17 hx (t := (.object "java/lang/Integer")) Bd.returns rfl (Or.inr (Or.inr (Or.inr (Or.inr ⟨rfl, rfl, rfl⟩)))) (hb hby d16_31) hr))
    show Q_vo Z n cA bxc h0 n0 _ T17.heap _
    rw [e17]
    exact ⟨b11, rfl, N18, K21, w17_0, w17_1⟩
  · refine gv (fun tQ kQ => XS.icmpNo X0.here hx rfl (hb hby d16_3) rfl (flt hc10).1 kQ) ?_
    show G (s₁.setTop (mkF me_ 6 #[.val (.int n)] []))
    refine gv (fun tQ kQ => XS.iloadN X0.here hx rfl (hb hby d16_6) rfl kQ) ?_
    show G (s₁.setTop (mkF me_ 7 #[.val (.int n)] [(.int n)]))
    obtain ⟨T22, X22, e22, st22⟩ := getS2 X0 hx hZ hown (host := "") (Or.inl (hw _ (List.mem_of_getElem? (i := 88) rfl))) Via.refl e0 (u0.ext O0.2) (g := (mkF me_ 7 #[.val (.int n)] [(.int n)])) rfl (hb hby d16_7)
    refine gv st22 ?_
    show G (T22.setTop (mkF me_ 10 #[.val (.int n)] [(.int (127 : Int32)), (.int n)]))
    by_cases hc23 : (127 : Int32) < n
    · refine gv (fun tQ kQ => XS.icmpYes X22.here hx rfl (pc0 := 10) (pc' := 23) rfl (hb hby d16_10) rfl (tlt hc23).2.2.1 (by decide) (by decide) kQ) ?_
      show G (T22.setTop (mkF me_ 23 #[.val (.int n)] []))
      obtain ⟨T24, h24, X24, e24, E24, A24, D24, -, st24⟩ := newO X22 hx hZ hown (hw _ (List.mem_of_getElem? (i := 150) rfl)) (hw _ (List.mem_of_getElem? (i := 151) rfl)) (hw _ (List.mem_of_getElem? (i := 86) rfl)) e22 (g := (mkF me_ 23 #[.val (.int n)] [])) rfl (hb hby d16_23) (by decide) (by decide)
      obtain ⟨b24, g24⟩ : ∃ z, z = h0.size := ⟨_, rfl⟩
      rw [← g24] at A24 D24 st24
      refine gv st24 ?_
      have g25 : n0 ≤ b24 := Nat.le_trans (own_old O0) (Nat.le_of_eq g24.symm)
      have z26 : h0.size ≤ b24 := Nat.le_trans K0.1 (Nat.le_of_eq g24.symm)
      have O27 := O0.ext E24
      have K28 := K0.ext E24
      have f29 : Fld Z h24 b24 "java/lang/Integer" "value" "I" (.int (0 : Int32)) := D24 (Or.inr (hw _ (List.mem_of_getElem? (i := 149) rfl))) (ty := .int) (by decide)
      show G (T24.setTop (mkF me_ 26 #[.val (.int n)] [(.ref b24)]))
      refine gv (fun tQ kQ => XS.dup X24.here hx rfl (hb hby d16_26) rfl rfl kQ) ?_
      show G (T24.setTop (mkF me_ 27 #[.val (.int n)] [(.ref b24), (.ref b24)]))
      refine gv (fun tQ kQ => XS.iloadN X24.here hx rfl (hb hby d16_27) rfl kQ) ?_
      show G (T24.setTop (mkF me_ 28 #[.val (.int n)] [(.int n), (.ref b24), (.ref b24)]))
      obtain ⟨_, _, ⟨T30, L30, k30, n30⟩, -, X30, ⟨Lc30, hQ30, l30, y30, z30⟩, st30⟩ := X24.specialBack hx (y := (⟨"java/lang/Integer", "<init>", "(I)V"⟩ : MethodName)) rfl hown (mvT hZ (hw _ (List.mem_of_getElem? (i := 152) rfl))) (mvT hZ (hw _ (List.mem_of_getElem? (i := 153) rfl))) (mvT hZ (hw _ (List.mem_of_getElem? (i := 154) rfl))) (by decide) (backOf (W := 1) (rm_ini l Z a0 hw [] b24 n h24 n0 O27 A24 f29 g25) hZ (hw _ (List.mem_of_getElem? (i := 154) rfl)) (hw _ (List.mem_of_getElem? (i := 86) rfl)) (by decide) (by decide)) (g := (mkF me_ 28 #[.val (.int n)] [(.int n), (.ref b24), (.ref b24)])) rfl (by rw [hml]; rfl) (Steps.refl _) (a := b24) (argsL := [(.int n)]) (rest := [(.ref b24)]) (lenOf pd_1 rfl) rfl (by show 2 * 0 + _ ≤ _; exact Nat.le_of_eq rfl) (hb hby d16_28) (fun _ _ => ⟨rfl, e24, (by decide : 1 + 0 ≤ _), (by decide : 1 + 0 ≤ _)⟩)
      dsimp only [Pt.U, Pt.locs, Pt.cells, Pt.slots] at X30 l30 y30 z30 st30 hQ30
      subst l30 y30 z30
      obtain ⟨rfl, Nq30, Kq30, w30_0, w30_1⟩ := hQ30
      have N31 := Fr.app N0 Nq30
      obtain ⟨h30, e30⟩ : ∃ z, T30.heap = z := ⟨_, rfl⟩
      rw [e30] at Kq30 w30_0 w30_1
      have f32 : Exa Z h30 b24 "java/lang/Integer" := A24.keep Kq30
      have O33 := O27.keep Kq30 (allS g25 all0)
      have K34 := K28.trans Kq30 (allS (Or.inr z26) all0)
      refine gv (fun tQ kQ => st30.trans kQ) ?_
      show G (T30.setTop (mkF me_ 31 #[.val (.int n)] [(.ref b24)]))
      refine gf _ (own_ret X30 Bd.notSynchronized (v := some (.ref b24)) (fun h => by rw [Bd.returns] at h; cases h) ?_ (by decide) (by decide) (fun fs hr => retOut X30 hx (t := (.object "java/lang/Integer")) Bd.returns rfl (Or.inr (Or.inr (Or.inr (Or.inr ⟨rfl, rfl, rfl⟩)))) (hb hby d16_31) hr))
      show Q_vo Z n cA bxc h0 n0 _ T30.heap _
      rw [e30]
      exact ⟨b24, rfl, N31, K34, w30_0, w30_1⟩
    · refine gv (fun tQ kQ => XS.icmpNo X22.here hx rfl (hb hby d16_10) rfl (flt hc23).2.2.1 kQ) ?_
      show G (T22.setTop (mkF me_ 13 #[.val (.int n)] []))
      obtain ⟨T35, X35, e35, st35⟩ := getS2 X22 hx hZ hown (host := "") (Or.inl (hw _ (List.mem_of_getElem? (i := 90) rfl))) Via.refl e22 (u1.ext O0.2) (g := (mkF me_ 13 #[.val (.int n)] [])) rfl (hb hby d16_13)
      refine gv st35 ?_
      show G (T35.setTop (mkF me_ 16 #[.val (.int n)] [(.ref cA)]))
      refine gv (fun tQ kQ => XS.iloadN X35.here hx rfl (hb hby d16_16) rfl kQ) ?_
      show G (T35.setTop (mkF me_ 17 #[.val (.int n)] [(.int n), (.ref cA)]))
      refine gv (fun tQ kQ => XS.sipush X35.here hx rfl (hb hby d16_17) kQ) ?_
      show G (T35.setTop (mkF me_ 20 #[.val (.int n)] [(.int (128 : Int32)), (.int n), (.ref cA)]))
      refine gv (fun tQ kQ => XS.iadd X35.here hx rfl (hb hby d16_20) rfl kQ) ?_
      show G (T35.setTop (mkF me_ 21 #[.val (.int n)] [(.int (n + (128 : Int32))), (.ref cA)]))
      have in36 := own_cache_in (n := n) (c := bxc) hc10 hc23 u2.2.1
      obtain ⟨r36, hr36, E36, F36⟩ := u2.2.2.2 _ in36
      dsimp only at F36
      rw [own_box] at F36
      refine gv (X35.aaload hx (j := (n + (128 : Int32))) (v := .ref r36) (by rw [e35]; exact (u2.1.ext O0.2).1) (State.isArrayOf_alike hZ.alike u2.1.2.1) rfl u2.1.2.2 in36 hr36 (g := (mkF me_ 21 #[.val (.int n)] [(.int (n + (128 : Int32))), (.ref cA)])) rfl rfl (hb hby d16_21)) ?_
      show G (T35.setTop (mkF me_ 22 #[.val (.int n)] [(.ref r36)]))
      refine gf _ (own_ret X35 Bd.notSynchronized (v := some (.ref r36)) (fun h => by rw [Bd.returns] at h; cases h) ?_ (by decide) (by decide) (fun fs hr => retOut X35 hx (t := (.object "java/lang/Integer")) Bd.returns rfl (Or.inr (Or.inr (Or.inr (Or.inr ⟨rfl, rfl, rfl⟩)))) (hb hby d16_22) hr))
      show Q_vo Z n cA bxc h0 n0 _ T35.heap _
      rw [e35]
      exact ⟨r36, rfl, N0, K0, (E36.ext O0.2), (F36.ext O0.2)⟩
theorem pn_2 : plainName "java/util/AbstractCollection" = true := by first | (simp [plainName, overriddenIn]; done) | decide +kernel
theorem d3_0 : decode jdk_22_method_1_code 0 = .ok (.aload_n 0, 1) := by decide +kernel
theorem d3_1 : decode jdk_22_method_1_code 1 = .ok (.invokespecial 1, 3) := by decide +kernel
theorem d3_4 : decode jdk_22_method_1_code 4 = .ok (.return_, 1) := by decide +kernel
def Q_abc (Z : State) (a : Addr) (h0 : Heap) (n0 : Nat) (v : Option Value) (h : Heap) (L : List Loc) : Prop := v = none ∧ Fr n0 L ∧ h = h0
set_option maxRecDepth 65536 in
set_option maxHeartbeats 40000000 in
theorem rm_abc (l : Launch) (Z : State) (a0 : Array Value) (hw : ∀ d ∈ tables_1, d.before a0 Z = true) (ws : List Jvm.Cond) (a : Addr) (h0 : Heap) (n0 : Nat) (O0 : Old Z n0 h0)  :
    MetFree l (⟨"java/util/AbstractCollection", "<init>", "()V"⟩ : MethodName) (head1 (Jvm.Cond.code (⟨"java/util/AbstractCollection", "<init>", "()V"⟩ : MethodName) jdk_22_method_1_code 1 none :: ws) ({ frames := 1, cells := 0, slots := 0, locals := 12 } : Room)) (fun aV U => aV = #[(.ref a)] ∧ Z.Warmed39 U.vm ∧ U.heap = h0) (fun _ _ _ _ _ => True) (fun _ U o U' => ∃ v L, o = .returned v ∧ Q_abc Z a h0 n0 v U'.heap L ∧ FrameEnd U o U' L ({ frames := 1, cells := 0, slots := 0, locals := 12 } : Room).cells ({ frames := 1, cells := 0, slots := 0, locals := 12 } : Room).slots) := by
  refine MetFree.of_bodySF (plainFor_of_name pn_2) hisR ?_
  intro pr_ en_ st_ me_ args below meth_ co_ s₁ Bd hml0 hP hK
  obtain ⟨rfl, hZ, hh⟩ := hP
  have hx := Bd.exec
  have hby := Bd.bytes
  have hml : co_.maxLocals = 1 := hml0
  have hown : st_.vm.findClass "java/util/AbstractCollection" = some me_.cls := findClass_of_methodNamed Bd.named
  have hnm := (name_of_methodNamed Bd.named Bd.method).1
  have X0 : Stand pr_ l en_ ({ frames := 1, cells := 0, slots := 0, locals := 12 } : Room) st_ me_ #[(.ref a)] below meth_ co_ s₁ [] 0 0 := Stand.of_body Bd
  have e0 : s₁.heap = h0 := by rw [← hh, Bd.state]; rfl
  have N0 := Fr.nil n0
  have K0 := Keep.refl h0 []
  obtain ⟨G, gv, gf, gb⟩ := own_G pr_.tables en_ below st_ (Q_abc Z a h0 n0) ({ frames := 1, cells := 0, slots := 0, locals := 12 } : Room).cells ({ frames := 1, cells := 0, slots := 0, locals := 12 } : Room).slots
  show own_Fin pr_.tables en_ below st_ (Q_abc Z a h0 n0) ({ frames := 1, cells := 0, slots := 0, locals := 12 } : Room).cells ({ frames := 1, cells := 0, slots := 0, locals := 12 } : Room).slots (s₁.setTop (entryFrame me_ #[(.ref a)] 1))
  refine gb _ (gv (fun tQ kQ => castTop (ef_0 me_ a) kQ) ?_)
  show G (s₁.setTop (mkF me_ 0 #[.val (.ref a)] []))
  refine gv (fun tQ kQ => XS.aloadN X0.here hx rfl (hb hby d3_0) rfl rfl kQ) ?_
  show G (s₁.setTop (mkF me_ 1 #[.val (.ref a)] [(.ref a)]))
  obtain ⟨T37, X37, e37, st37⟩ := initO X0 hx hZ hown (hw _ (List.mem_of_getElem? (i := 18) rfl)) (hw _ (List.mem_of_getElem? (i := 19) rfl)) (hw _ (List.mem_of_getElem? (i := 20) rfl)) e0 (g := (mkF me_ 1 #[.val (.ref a)] [(.ref a)])) rfl (by rw [hml]; rfl) rfl (hb hby d3_1) (by decide) (W := 0) (by show 2 * 0 + _ ≤ _; exact Nat.le_of_eq rfl) (by decide)
  refine gv st37 ?_
  show G (T37.setTop (mkF me_ 4 #[.val (.ref a)] []))
  refine gf _ (own_ret X37 Bd.notSynchronized (v := none) (fun _ => rfl) ?_ (by decide) (by decide) (fun fs hr => X37.returnOut hx Bd.returns (hb hby d3_4) hr))
  show Q_abc Z a h0 n0 _ T37.heap _
  rw [e37]
  exact ⟨rfl, N0, rfl⟩
theorem pn_3 : plainName "java/util/AbstractList" = true := by first | (simp [plainName, overriddenIn]; done) | decide +kernel
theorem d2_0 : decode jdk_39_method_1_code 0 = .ok (.aload_n 0, 1) := by decide +kernel
theorem d2_1 : decode jdk_39_method_1_code 1 = .ok (.invokespecial 1, 3) := by decide +kernel
theorem d2_4 : decode jdk_39_method_1_code 4 = .ok (.aload_n 0, 1) := by decide +kernel
theorem d2_5 : decode jdk_39_method_1_code 5 = .ok (.iconst 0, 1) := by decide +kernel
theorem d2_6 : decode jdk_39_method_1_code 6 = .ok (.putfield 7, 3) := by decide +kernel
theorem d2_9 : decode jdk_39_method_1_code 9 = .ok (.return_, 1) := by decide +kernel
def Q_abl (Z : State) (a : Addr) (h0 : Heap) (n0 : Nat) (v : Option Value) (h : Heap) (L : List Loc) : Prop := v = none ∧ Fr n0 L ∧ Keep h0 h [a] ∧ (Exa Z h a "java/util/ArrayList") ∧ (Fld Z h a "java/util/AbstractList" "modCount" "I" (.int (0 : Int32))) ∧ (Fld Z h a "java/util/ArrayList" "elementData" "[Ljava/lang/Object;" .null) ∧ (Fld Z h a "java/util/ArrayList" "size" "I" (.int (0 : Int32)))
set_option maxRecDepth 65536 in
set_option maxHeartbeats 40000000 in
theorem rm_abl (l : Launch) (Z : State) (a0 : Array Value) (hw : ∀ d ∈ tables_1, d.before a0 Z = true) (ws : List Jvm.Cond) (a : Addr) (h0 : Heap) (n0 : Nat) (O0 : Old Z n0 h0) (u0 : Exa Z h0 a "java/util/ArrayList") (u1 : Fld Z h0 a "java/util/AbstractList" "modCount" "I" (.int (0 : Int32))) (u2 : Fld Z h0 a "java/util/ArrayList" "elementData" "[Ljava/lang/Object;" .null) (u3 : Fld Z h0 a "java/util/ArrayList" "size" "I" (.int (0 : Int32))) (u4 : n0 ≤ a) :
    MetFree l (⟨"java/util/AbstractList", "<init>", "()V"⟩ : MethodName) (head1 (Jvm.Cond.code (⟨"java/util/AbstractList", "<init>", "()V"⟩ : MethodName) jdk_39_method_1_code 1 none :: ws) ({ frames := 2, cells := 0, slots := 0, locals := 24 } : Room)) (fun aV U => aV = #[(.ref a)] ∧ Z.Warmed39 U.vm ∧ U.heap = h0) (fun _ _ _ _ _ => True) (fun _ U o U' => ∃ v L, o = .returned v ∧ Q_abl Z a h0 n0 v U'.heap L ∧ FrameEnd U o U' L ({ frames := 2, cells := 0, slots := 0, locals := 24 } : Room).cells ({ frames := 2, cells := 0, slots := 0, locals := 24 } : Room).slots) := by
  refine MetFree.of_bodySF (plainFor_of_name pn_3) hisR ?_
  intro pr_ en_ st_ me_ args below meth_ co_ s₁ Bd hml0 hP hK
  obtain ⟨rfl, hZ, hh⟩ := hP
  have hx := Bd.exec
  have hby := Bd.bytes
  have hml : co_.maxLocals = 1 := hml0
  have hown : st_.vm.findClass "java/util/AbstractList" = some me_.cls := findClass_of_methodNamed Bd.named
  have hnm := (name_of_methodNamed Bd.named Bd.method).1
  have X0 : Stand pr_ l en_ ({ frames := 2, cells := 0, slots := 0, locals := 24 } : Room) st_ me_ #[(.ref a)] below meth_ co_ s₁ [] 0 0 := Stand.of_body Bd
  have e0 : s₁.heap = h0 := by rw [← hh, Bd.state]; rfl
  have N0 := Fr.nil n0
  have K0 := Keep.refl h0 [a]
  obtain ⟨G, gv, gf, gb⟩ := own_G pr_.tables en_ below st_ (Q_abl Z a h0 n0) ({ frames := 2, cells := 0, slots := 0, locals := 24 } : Room).cells ({ frames := 2, cells := 0, slots := 0, locals := 24 } : Room).slots
  show own_Fin pr_.tables en_ below st_ (Q_abl Z a h0 n0) ({ frames := 2, cells := 0, slots := 0, locals := 24 } : Room).cells ({ frames := 2, cells := 0, slots := 0, locals := 24 } : Room).slots (s₁.setTop (entryFrame me_ #[(.ref a)] 1))
  refine gb _ (gv (fun tQ kQ => castTop (ef_0 me_ a) kQ) ?_)
  show G (s₁.setTop (mkF me_ 0 #[.val (.ref a)] []))
  refine gv (fun tQ kQ => XS.aloadN X0.here hx rfl (hb hby d2_0) rfl rfl kQ) ?_
  show G (s₁.setTop (mkF me_ 1 #[.val (.ref a)] [(.ref a)]))
  obtain ⟨_, _, ⟨T38, L38, k38, n38⟩, -, X38, ⟨Lc38, hQ38, l38, y38, z38⟩, st38⟩ := X0.specialBack hx (y := (⟨"java/util/AbstractCollection", "<init>", "()V"⟩ : MethodName)) rfl hown (mvT hZ (hw _ (List.mem_of_getElem? (i := 12) rfl))) (mvT hZ (hw _ (List.mem_of_getElem? (i := 13) rfl))) (mvT hZ (hw _ (List.mem_of_getElem? (i := 17) rfl))) (by decide) (backOf (W := 0) (rm_abc l Z a0 hw [] a h0 n0 O0 ) hZ (hw _ (List.mem_of_getElem? (i := 17) rfl)) (hw _ (List.mem_of_getElem? (i := 16) rfl)) (by decide) (by decide)) (g := (mkF me_ 1 #[.val (.ref a)] [(.ref a)])) rfl (by rw [hml]; rfl) (Steps.refl _) (a := a) (argsL := []) (rest := []) (lenOf pd_0 rfl) rfl (by show 2 * 0 + _ ≤ _; exact Nat.le_of_eq rfl) (hb hby d2_1) (fun _ _ => ⟨rfl, e0, (by decide : 0 + 0 ≤ _), (by decide : 0 + 0 ≤ _)⟩)
  dsimp only [Pt.U, Pt.locs, Pt.cells, Pt.slots] at X38 l38 y38 z38 st38 hQ38
  subst l38 y38 z38
  obtain ⟨rfl, Nq38, eq38⟩ := hQ38
  have N39 := Fr.app N0 Nq38
  refine gv (fun tQ kQ => st38.trans kQ) ?_
  show G (T38.setTop (mkF me_ 4 #[.val (.ref a)] []))
  refine gv (fun tQ kQ => XS.aloadN X38.here hx rfl (hb hby d2_4) rfl rfl kQ) ?_
  show G (T38.setTop (mkF me_ 5 #[.val (.ref a)] [(.ref a)]))
  refine gv (fun tQ kQ => XS.iconst X38.here hx rfl (hb hby d2_5) kQ) ?_
  show G (T38.setTop (mkF me_ 6 #[.val (.ref a)] [(.int (0 : Int32)), (.ref a)]))
  obtain ⟨T40, h40, X40, e40, W40, st40⟩ := putF X38 hx hZ hown (host := "") (Or.inl (hw _ (List.mem_of_getElem? (i := 21) rfl))) Via.refl eq38 u1 u0 (Or.inl (hw _ (List.mem_of_getElem? (i := 22) rfl))) (hw _ (List.mem_of_getElem? (i := 1) rfl)) (ty := .int) (by decide) rfl rfl (g := (mkF me_ 6 #[.val (.ref a)] [(.int (0 : Int32)), (.ref a)])) rfl rfl (hb hby d2_6)
  refine gv st40 ?_
  have f42 : Exa Z h40 a "java/util/ArrayList" := u0.wr W40
  have f43 : Fld Z h40 a "java/util/ArrayList" "elementData" "[Ljava/lang/Object;" .null := u2.other W40 (Or.inr (slot_ne (Or.inl (hw _ (List.mem_of_getElem? (i := 25) rfl))) (Or.inl (hw _ (List.mem_of_getElem? (i := 22) rfl))) (by decide) (t := (.array (.object "java/lang/Object"))) (t' := .int) (by decide) (by decide)))
  have f44 : Fld Z h40 a "java/util/ArrayList" "size" "I" (.int (0 : Int32)) := u3.other W40 (Or.inr (slot_ne (Or.inl (hw _ (List.mem_of_getElem? (i := 66) rfl))) (Or.inl (hw _ (List.mem_of_getElem? (i := 22) rfl))) (by decide) (t := .int) (t' := .int) (by decide) (by decide)))
  have O45 := O0.wr W40 u4
  have K46 := K0.wr W40 (Or.inl (List.mem_of_getElem? (i := 0) rfl))
  have N47 := Fr.snoc X40 N39 u4
  have f41 : Fld Z h40 a "java/util/AbstractList" "modCount" "I" (.int (0 : Int32)) := u1.same W40
  show G (T40.setTop (mkF me_ 9 #[.val (.ref a)] []))
  refine gf _ (own_ret X40 Bd.notSynchronized (v := none) (fun _ => rfl) ?_ (by decide) (by decide) (fun fs hr => X40.returnOut hx Bd.returns (hb hby d2_9) hr))
  show Q_abl Z a h0 n0 _ T40.heap _
  rw [e40]
  exact ⟨rfl, N47, K46, f42, f41, f43, f44⟩
theorem pn_4 : plainName "java/util/ArrayList" = true := by first | (simp [plainName, overriddenIn]; done) | decide +kernel
theorem d1_0 : decode jdk_38_method_2_code 0 = .ok (.aload_n 0, 1) := by decide +kernel
theorem d1_1 : decode jdk_38_method_2_code 1 = .ok (.invokespecial 1, 3) := by decide +kernel
theorem d1_4 : decode jdk_38_method_2_code 4 = .ok (.aload_n 0, 1) := by decide +kernel
theorem d1_5 : decode jdk_38_method_2_code 5 = .ok (.getstatic 39, 3) := by decide +kernel
theorem d1_8 : decode jdk_38_method_2_code 8 = .ok (.putfield 9, 3) := by decide +kernel
theorem d1_11 : decode jdk_38_method_2_code 11 = .ok (.return_, 1) := by decide +kernel
def Q_ali (Z : State) (a : Addr) (dA : Addr) (dk : ClassId) (h0 : Heap) (n0 : Nat) (v : Option Value) (h : Heap) (L : List Loc) : Prop := v = none ∧ Fr n0 L ∧ Keep h0 h [a] ∧ (Exa Z h a "java/util/ArrayList") ∧ (Fld Z h a "java/util/AbstractList" "modCount" "I" (.int (0 : Int32))) ∧ (Fld Z h a "java/util/ArrayList" "elementData" "[Ljava/lang/Object;" (.ref dA)) ∧ (Fld Z h a "java/util/ArrayList" "size" "I" (.int (0 : Int32)))
set_option maxRecDepth 65536 in
set_option maxHeartbeats 40000000 in
theorem rm_ali (l : Launch) (Z : State) (a0 : Array Value) (hw : ∀ d ∈ tables_1, d.before a0 Z = true) (ws : List Jvm.Cond) (a : Addr) (dA : Addr) (dk : ClassId) (h0 : Heap) (n0 : Nat) (O0 : Old Z n0 h0) (u0 : Sta Z Z.heap "java/util/ArrayList" "DEFAULTCAPACITY_EMPTY_ELEMENTDATA" "[Ljava/lang/Object;" (.ref dA)) (u1 : Arv Z Z.heap dA dk (.object "java/lang/Object") (0 : Int32) [] .null) (u2 : Exa Z h0 a "java/util/ArrayList") (u3 : Fld Z h0 a "java/util/AbstractList" "modCount" "I" (.int (0 : Int32))) (u4 : Fld Z h0 a "java/util/ArrayList" "elementData" "[Ljava/lang/Object;" .null) (u5 : Fld Z h0 a "java/util/ArrayList" "size" "I" (.int (0 : Int32))) (u6 : n0 ≤ a) :
    MetFree l (⟨"java/util/ArrayList", "<init>", "()V"⟩ : MethodName) (head1 (Jvm.Cond.code (⟨"java/util/ArrayList", "<init>", "()V"⟩ : MethodName) jdk_38_method_2_code 1 none :: ws) ({ frames := 3, cells := 0, slots := 0, locals := 36 } : Room)) (fun aV U => aV = #[(.ref a)] ∧ Z.Warmed39 U.vm ∧ U.heap = h0) (fun _ _ _ _ _ => True) (fun _ U o U' => ∃ v L, o = .returned v ∧ Q_ali Z a dA dk h0 n0 v U'.heap L ∧ FrameEnd U o U' L ({ frames := 3, cells := 0, slots := 0, locals := 36 } : Room).cells ({ frames := 3, cells := 0, slots := 0, locals := 36 } : Room).slots) := by
  refine MetFree.of_bodySF (plainFor_of_name pn_4) hisR ?_
  intro pr_ en_ st_ me_ args below meth_ co_ s₁ Bd hml0 hP hK
  obtain ⟨rfl, hZ, hh⟩ := hP
  have hx := Bd.exec
  have hby := Bd.bytes
  have hml : co_.maxLocals = 1 := hml0
  have hown : st_.vm.findClass "java/util/ArrayList" = some me_.cls := findClass_of_methodNamed Bd.named
  have hnm := (name_of_methodNamed Bd.named Bd.method).1
  have X0 : Stand pr_ l en_ ({ frames := 3, cells := 0, slots := 0, locals := 36 } : Room) st_ me_ #[(.ref a)] below meth_ co_ s₁ [] 0 0 := Stand.of_body Bd
  have e0 : s₁.heap = h0 := by rw [← hh, Bd.state]; rfl
  have N0 := Fr.nil n0
  have K0 := Keep.refl h0 [a]
  obtain ⟨G, gv, gf, gb⟩ := own_G pr_.tables en_ below st_ (Q_ali Z a dA dk h0 n0) ({ frames := 3, cells := 0, slots := 0, locals := 36 } : Room).cells ({ frames := 3, cells := 0, slots := 0, locals := 36 } : Room).slots
  show own_Fin pr_.tables en_ below st_ (Q_ali Z a dA dk h0 n0) ({ frames := 3, cells := 0, slots := 0, locals := 36 } : Room).cells ({ frames := 3, cells := 0, slots := 0, locals := 36 } : Room).slots (s₁.setTop (entryFrame me_ #[(.ref a)] 1))
  refine gb _ (gv (fun tQ kQ => castTop (ef_0 me_ a) kQ) ?_)
  show G (s₁.setTop (mkF me_ 0 #[.val (.ref a)] []))
  refine gv (fun tQ kQ => XS.aloadN X0.here hx rfl (hb hby d1_0) rfl rfl kQ) ?_
  show G (s₁.setTop (mkF me_ 1 #[.val (.ref a)] [(.ref a)]))
  obtain ⟨_, _, ⟨T48, L48, k48, n48⟩, -, X48, ⟨Lc48, hQ48, l48, y48, z48⟩, st48⟩ := X0.specialBack hx (y := (⟨"java/util/AbstractList", "<init>", "()V"⟩ : MethodName)) rfl hown (mvT hZ (hw _ (List.mem_of_getElem? (i := 6) rfl))) (mvT hZ (hw _ (List.mem_of_getElem? (i := 7) rfl))) (mvT hZ (hw _ (List.mem_of_getElem? (i := 11) rfl))) (by decide) (backOf (W := 0) (rm_abl l Z a0 hw [] a h0 n0 O0 u2 u3 u4 u5 u6) hZ (hw _ (List.mem_of_getElem? (i := 11) rfl)) (hw _ (List.mem_of_getElem? (i := 10) rfl)) (by decide) (by decide)) (g := (mkF me_ 1 #[.val (.ref a)] [(.ref a)])) rfl (by rw [hml]; rfl) (Steps.refl _) (a := a) (argsL := []) (rest := []) (lenOf pd_0 rfl) rfl (by show 2 * 0 + _ ≤ _; exact Nat.le_of_eq rfl) (hb hby d1_1) (fun _ _ => ⟨rfl, e0, (by decide : 0 + 0 ≤ _), (by decide : 0 + 0 ≤ _)⟩)
  dsimp only [Pt.U, Pt.locs, Pt.cells, Pt.slots] at X48 l48 y48 z48 st48 hQ48
  subst l48 y48 z48
  obtain ⟨rfl, Nq48, Kq48, w48_0, w48_1, w48_2, w48_3⟩ := hQ48
  have N49 := Fr.app N0 Nq48
  obtain ⟨h48, e48⟩ : ∃ z, T48.heap = z := ⟨_, rfl⟩
  rw [e48] at Kq48 w48_0 w48_1 w48_2 w48_3
  have f50 : Exa Z h48 a "java/util/ArrayList" := u2.keep Kq48
  have O51 := O0.keep Kq48 (allS u6 all0)
  have K52 := K0.trans Kq48 (allS (Or.inl (List.mem_of_getElem? (i := 0) rfl)) all0)
  refine gv (fun tQ kQ => st48.trans kQ) ?_
  show G (T48.setTop (mkF me_ 4 #[.val (.ref a)] []))
  refine gv (fun tQ kQ => XS.aloadN X48.here hx rfl (hb hby d1_4) rfl rfl kQ) ?_
  show G (T48.setTop (mkF me_ 5 #[.val (.ref a)] [(.ref a)]))
  obtain ⟨T53, X53, e53, st53⟩ := getS2 X48 hx hZ hown (host := "") (Or.inl (hw _ (List.mem_of_getElem? (i := 23) rfl))) Via.refl e48 (u0.ext O51.2) (g := (mkF me_ 5 #[.val (.ref a)] [(.ref a)])) rfl (hb hby d1_5)
  refine gv st53 ?_
  show G (T53.setTop (mkF me_ 8 #[.val (.ref a)] [(.ref dA), (.ref a)]))
  obtain ⟨T54, h54, X54, e54, W54, st54⟩ := putF X53 hx hZ hown (host := "") (Or.inl (hw _ (List.mem_of_getElem? (i := 24) rfl))) Via.refl e53 w48_2 w48_0 (Or.inl (hw _ (List.mem_of_getElem? (i := 25) rfl))) (hw _ (List.mem_of_getElem? (i := 1) rfl)) (ty := (.array (.object "java/lang/Object"))) (by decide) rfl rfl (g := (mkF me_ 8 #[.val (.ref a)] [(.ref dA), (.ref a)])) rfl rfl (hb hby d1_8)
  refine gv st54 ?_
  have f56 : Exa Z h54 a "java/util/ArrayList" := w48_0.wr W54
  have f57 : Fld Z h54 a "java/util/AbstractList" "modCount" "I" (.int (0 : Int32)) := w48_1.other W54 (Or.inr (slot_ne (Or.inl (hw _ (List.mem_of_getElem? (i := 22) rfl))) (Or.inl (hw _ (List.mem_of_getElem? (i := 25) rfl))) (by decide) (t := .int) (t' := (.array (.object "java/lang/Object"))) (by decide) (by decide)))
  have f58 : Fld Z h54 a "java/util/ArrayList" "size" "I" (.int (0 : Int32)) := w48_3.other W54 (Or.inr (slot_ne (Or.inl (hw _ (List.mem_of_getElem? (i := 66) rfl))) (Or.inl (hw _ (List.mem_of_getElem? (i := 25) rfl))) (by decide) (t := .int) (t' := (.array (.object "java/lang/Object"))) (by decide) (by decide)))
  have O59 := O51.wr W54 u6
  have K60 := K52.wr W54 (Or.inl (List.mem_of_getElem? (i := 0) rfl))
  have N61 := Fr.snoc X54 N49 u6
  have f55 : Fld Z h54 a "java/util/ArrayList" "elementData" "[Ljava/lang/Object;" (.ref dA) := w48_2.same W54
  show G (T54.setTop (mkF me_ 11 #[.val (.ref a)] []))
  refine gf _ (own_ret X54 Bd.notSynchronized (v := none) (fun _ => rfl) ?_ (by decide) (by decide) (fun fs hr => X54.returnOut hx Bd.returns (hb hby d1_11) hr))
  show Q_ali Z a dA dk h0 n0 _ T54.heap _
  rw [e54]
  exact ⟨rfl, N61, K60, f56, f57, f55, f58⟩
theorem ef_3 (m : MethodId) (x0 : Int32) (x1 : Int32)  : entryFrame m #[(.int x0), (.int x1)] 2 = mkF m 0 #[.val (.int x0), .val (.int x1)] [] := by first | (simp [entryFrame, mkF, argsToLocals, Value.category]; done) | rfl
theorem d21_0 : decode jdk_29_method_65_code 0 = .ok (.iload_n 0, 1) := by decide +kernel
theorem d21_1 : decode jdk_29_method_65_code 1 = .ok (.iload_n 1, 1) := by decide +kernel
theorem d21_2 : decode jdk_29_method_65_code 2 = .ok (.if_icmp .lt 7, 3) := by decide +kernel
theorem d21_5 : decode jdk_29_method_65_code 5 = .ok (.iload_n 0, 1) := by decide +kernel
theorem d21_6 : decode jdk_29_method_65_code 6 = .ok (.goto 4, 3) := by decide +kernel
theorem d21_10 : decode jdk_29_method_65_code 10 = .ok (.ireturn, 1) := by decide +kernel
def Q_max_10_1 (Z : State)  (h0 : Heap) (n0 : Nat) (v : Option Value) (h : Heap) (L : List Loc) : Prop := v = some (.int (10 : Int32)) ∧ Fr n0 L ∧ h = h0
set_option maxRecDepth 65536 in
set_option maxHeartbeats 40000000 in
theorem rm_max_10_1 (l : Launch) (Z : State) (a0 : Array Value) (hw : ∀ d ∈ tables_1, d.before a0 Z = true) (ws : List Jvm.Cond)  (h0 : Heap) (n0 : Nat) (O0 : Old Z n0 h0)  :
    MetFree l (⟨"java/lang/Math", "max", "(II)I"⟩ : MethodName) (head1 (Jvm.Cond.code (⟨"java/lang/Math", "max", "(II)I"⟩ : MethodName) jdk_29_method_65_code 2 (some .int) :: ws) ({ frames := 0, cells := 0, slots := 0, locals := 0 } : Room)) (fun aV U => aV = #[(.int (10 : Int32)), (.int (1 : Int32))] ∧ Z.Warmed39 U.vm ∧ U.heap = h0) (fun _ _ _ _ _ => True) (fun _ U o U' => ∃ v L, o = .returned v ∧ Q_max_10_1 Z  h0 n0 v U'.heap L ∧ FrameEnd U o U' L ({ frames := 0, cells := 0, slots := 0, locals := 0 } : Room).cells ({ frames := 0, cells := 0, slots := 0, locals := 0 } : Room).slots) := by
  refine MetFree.of_bodySF (Jvm.Free.JP.mathPlain rfl (by decide +kernel)) hisR ?_
  intro pr_ en_ st_ me_ args below meth_ co_ s₁ Bd hml0 hP hK
  obtain ⟨rfl, hZ, hh⟩ := hP
  have hx := Bd.exec
  have hby := Bd.bytes
  have hml : co_.maxLocals = 2 := hml0
  have hown : st_.vm.findClass "java/lang/Math" = some me_.cls := findClass_of_methodNamed Bd.named
  have hnm := (name_of_methodNamed Bd.named Bd.method).1
  have X0 : Stand pr_ l en_ ({ frames := 0, cells := 0, slots := 0, locals := 0 } : Room) st_ me_ #[(.int (10 : Int32)), (.int (1 : Int32))] below meth_ co_ s₁ [] 0 0 := Stand.of_body Bd
  have e0 : s₁.heap = h0 := by rw [← hh, Bd.state]; rfl
  have N0 := Fr.nil n0
  have K0 := Keep.refl h0 []
  obtain ⟨G, gv, gf, gb⟩ := own_G pr_.tables en_ below st_ (Q_max_10_1 Z  h0 n0) ({ frames := 0, cells := 0, slots := 0, locals := 0 } : Room).cells ({ frames := 0, cells := 0, slots := 0, locals := 0 } : Room).slots
  show own_Fin pr_.tables en_ below st_ (Q_max_10_1 Z  h0 n0) ({ frames := 0, cells := 0, slots := 0, locals := 0 } : Room).cells ({ frames := 0, cells := 0, slots := 0, locals := 0 } : Room).slots (s₁.setTop (entryFrame me_ #[(.int (10 : Int32)), (.int (1 : Int32))] 2))
  refine gb _ (gv (fun tQ kQ => castTop (ef_3 me_ (10 : Int32) (1 : Int32)) kQ) ?_)
  show G (s₁.setTop (mkF me_ 0 #[.val (.int (10 : Int32)), .val (.int (1 : Int32))] []))
  refine gv (fun tQ kQ => XS.iloadN X0.here hx rfl (hb hby d21_0) rfl kQ) ?_
  show G (s₁.setTop (mkF me_ 1 #[.val (.int (10 : Int32)), .val (.int (1 : Int32))] [(.int (10 : Int32))]))
  refine gv (fun tQ kQ => XS.iloadN X0.here hx rfl (hb hby d21_1) rfl kQ) ?_
  show G (s₁.setTop (mkF me_ 2 #[.val (.int (10 : Int32)), .val (.int (1 : Int32))] [(.int (1 : Int32)), (.int (10 : Int32))]))
  refine gv (fun tQ kQ => XS.icmpNo X0.here hx rfl (hb hby d21_2) rfl (flt (by decide : ¬ ((10 : Int32) < (1 : Int32)))).1 kQ) ?_
  show G (s₁.setTop (mkF me_ 5 #[.val (.int (10 : Int32)), .val (.int (1 : Int32))] []))
  refine gv (fun tQ kQ => XS.iloadN X0.here hx rfl (hb hby d21_5) rfl kQ) ?_
  show G (s₁.setTop (mkF me_ 6 #[.val (.int (10 : Int32)), .val (.int (1 : Int32))] [(.int (10 : Int32))]))
  refine gv (fun tQ kQ => XS.goto X0.here hx rfl (pc0 := 6) (pc' := 10) rfl (hb hby d21_6) (by decide) (by decide) kQ) ?_
  show G (s₁.setTop (mkF me_ 10 #[.val (.int (10 : Int32)), .val (.int (1 : Int32))] [(.int (10 : Int32))]))
  refine gf _ (own_ret X0 Bd.notSynchronized (v := some (.int (10 : Int32))) (fun h => by rw [Bd.returns] at h; cases h) ?_ (by decide) (by decide) (fun fs hr => retOut X0 hx (t := .int) Bd.returns rfl (Or.inl ⟨rfl, Or.inl rfl, _, rfl⟩) (hb hby d21_10) hr))
  show Q_max_10_1 Z  h0 n0 _ s₁.heap _
  rw [e0]
  exact ⟨rfl, N0, rfl⟩
theorem ef_4 (m : MethodId) (x0 : Addr) (x1 : Int32)  : entryFrame m #[(.ref x0), (.int x1)] 4 = mkF m 0 #[.val (.ref x0), .val (.int x1), .unset, .unset] [] := by first | (simp [entryFrame, mkF, argsToLocals, Value.category]; done) | rfl
theorem d20_0 : decode jdk_38_method_6_code 0 = .ok (.aload_n 0, 1) := by decide +kernel
theorem d20_1 : decode jdk_38_method_6_code 1 = .ok (.getfield 9, 3) := by decide +kernel
theorem d20_4 : decode jdk_38_method_6_code 4 = .ok (.arraylength, 1) := by decide +kernel
theorem d20_5 : decode jdk_38_method_6_code 5 = .ok (.istore_n 2, 1) := by decide +kernel
theorem d20_6 : decode jdk_38_method_6_code 6 = .ok (.iload_n 2, 1) := by decide +kernel
theorem d20_7 : decode jdk_38_method_6_code 7 = .ok (.ifCond .gt 13, 3) := by decide +kernel
theorem d20_10 : decode jdk_38_method_6_code 10 = .ok (.aload_n 0, 1) := by decide +kernel
theorem d20_11 : decode jdk_38_method_6_code 11 = .ok (.getfield 9, 3) := by decide +kernel
theorem d20_14 : decode jdk_38_method_6_code 14 = .ok (.getstatic 39, 3) := by decide +kernel
theorem d20_17 : decode jdk_38_method_6_code 17 = .ok (.if_acmp .eq 28, 3) := by decide +kernel
theorem d20_45 : decode jdk_38_method_6_code 45 = .ok (.aload_n 0, 1) := by decide +kernel
theorem d20_46 : decode jdk_38_method_6_code 46 = .ok (.bipush 10, 2) := by decide +kernel
theorem d20_48 : decode jdk_38_method_6_code 48 = .ok (.iload_n 1, 1) := by decide +kernel
theorem d20_49 : decode jdk_38_method_6_code 49 = .ok (.invokestatic 79, 3) := by decide +kernel
theorem pd_2 : parseMethodDescriptor "(II)I" = some ⟨[.int, .int], some .int⟩ := by decide +kernel
theorem d20_52 : decode jdk_38_method_6_code 52 = .ok (.anewarray 7, 3) := by decide +kernel
theorem d20_55 : decode jdk_38_method_6_code 55 = .ok (.dup_x1, 1) := by decide +kernel
theorem d20_56 : decode jdk_38_method_6_code 56 = .ok (.putfield 9, 3) := by decide +kernel
theorem d20_59 : decode jdk_38_method_6_code 59 = .ok (.areturn, 1) := by decide +kernel
def Q_growI (Z : State) (a : Addr) (dA : Addr) (dk : ClassId) (mc : Int32) (h0 : Heap) (n0 : Nat) (v : Option Value) (h : Heap) (L : List Loc) : Prop := ∃ (b : Addr), ∃ (k : ClassId), v = some (.ref b) ∧ Fr n0 L ∧ Keep h0 h [a] ∧ (Exa Z h a "java/util/ArrayList") ∧ (Fld Z h a "java/util/ArrayList" "elementData" "[Ljava/lang/Object;" (.ref b)) ∧ (Fld Z h a "java/util/ArrayList" "size" "I" (.int (0 : Int32))) ∧ h0.size ≤ b ∧ (Arv Z h b k (.object "java/lang/Object") (10 : Int32) [.null, .null, .null, .null, .null, .null, .null, .null, .null, .null] .null) ∧ (Ovr Z k "java/lang/Object") ∧ (Fld Z h a "java/util/AbstractList" "modCount" "I" (.int mc))
set_option maxRecDepth 65536 in
set_option maxHeartbeats 40000000 in
theorem rm_growI (l : Launch) (Z : State) (a0 : Array Value) (hw : ∀ d ∈ tables_1, d.before a0 Z = true) (ws : List Jvm.Cond) (a : Addr) (dA : Addr) (dk : ClassId) (mc : Int32) (h0 : Heap) (n0 : Nat) (O0 : Old Z n0 h0) (u0 : Sta Z Z.heap "java/util/ArrayList" "DEFAULTCAPACITY_EMPTY_ELEMENTDATA" "[Ljava/lang/Object;" (.ref dA)) (u1 : Arv Z Z.heap dA dk (.object "java/lang/Object") (0 : Int32) [] .null) (u2 : Exa Z h0 a "java/util/ArrayList") (u3 : Fld Z h0 a "java/util/ArrayList" "elementData" "[Ljava/lang/Object;" (.ref dA)) (u4 : Fld Z h0 a "java/util/ArrayList" "size" "I" (.int (0 : Int32))) (u5 : n0 ≤ a) (u6 : Fld Z h0 a "java/util/AbstractList" "modCount" "I" (.int mc)) :
    MetFree l (⟨"java/util/ArrayList", "grow", "(I)[Ljava/lang/Object;"⟩ : MethodName) (head1 (Jvm.Cond.code (⟨"java/util/ArrayList", "grow", "(I)[Ljava/lang/Object;"⟩ : MethodName) jdk_38_method_6_code 4 (some (.array (.object "java/lang/Object"))) :: ws) ({ frames := 1, cells := 1, slots := 10, locals := 14 } : Room)) (fun aV U => aV = #[(.ref a), (.int (1 : Int32))] ∧ Z.Warmed39 U.vm ∧ U.heap = h0) (fun _ _ _ _ _ => True) (fun _ U o U' => ∃ v L, o = .returned v ∧ Q_growI Z a dA dk mc h0 n0 v U'.heap L ∧ FrameEnd U o U' L ({ frames := 1, cells := 1, slots := 10, locals := 14 } : Room).cells ({ frames := 1, cells := 1, slots := 10, locals := 14 } : Room).slots) := by
  refine MetFree.of_bodySF (plainFor_of_name pn_4) hisR ?_
  intro pr_ en_ st_ me_ args below meth_ co_ s₁ Bd hml0 hP hK
  obtain ⟨rfl, hZ, hh⟩ := hP
  have hx := Bd.exec
  have hby := Bd.bytes
  have hml : co_.maxLocals = 4 := hml0
  have hown : st_.vm.findClass "java/util/ArrayList" = some me_.cls := findClass_of_methodNamed Bd.named
  have hnm := (name_of_methodNamed Bd.named Bd.method).1
  have X0 : Stand pr_ l en_ ({ frames := 1, cells := 1, slots := 10, locals := 14 } : Room) st_ me_ #[(.ref a), (.int (1 : Int32))] below meth_ co_ s₁ [] 0 0 := Stand.of_body Bd
  have e0 : s₁.heap = h0 := by rw [← hh, Bd.state]; rfl
  have N0 := Fr.nil n0
  have K0 := Keep.refl h0 [a]
  obtain ⟨G, gv, gf, gb⟩ := own_G pr_.tables en_ below st_ (Q_growI Z a dA dk mc h0 n0) ({ frames := 1, cells := 1, slots := 10, locals := 14 } : Room).cells ({ frames := 1, cells := 1, slots := 10, locals := 14 } : Room).slots
  show own_Fin pr_.tables en_ below st_ (Q_growI Z a dA dk mc h0 n0) ({ frames := 1, cells := 1, slots := 10, locals := 14 } : Room).cells ({ frames := 1, cells := 1, slots := 10, locals := 14 } : Room).slots (s₁.setTop (entryFrame me_ #[(.ref a), (.int (1 : Int32))] 4))
  refine gb _ (gv (fun tQ kQ => castTop (ef_4 me_ a (1 : Int32)) kQ) ?_)
  show G (s₁.setTop (mkF me_ 0 #[.val (.ref a), .val (.int (1 : Int32)), .unset, .unset] []))
  refine gv (fun tQ kQ => XS.aloadN X0.here hx rfl (hb hby d20_0) rfl rfl kQ) ?_
  show G (s₁.setTop (mkF me_ 1 #[.val (.ref a), .val (.int (1 : Int32)), .unset, .unset] [(.ref a)]))
  obtain ⟨T62, X62, e62, st62⟩ := getF X0 hx hZ hown (host := "") (Or.inl (hw _ (List.mem_of_getElem? (i := 24) rfl))) Via.refl e0 u3 (g := (mkF me_ 1 #[.val (.ref a), .val (.int (1 : Int32)), .unset, .unset] [(.ref a)])) rfl rfl (hb hby d20_1)
  refine gv st62 ?_
  show G (T62.setTop (mkF me_ 4 #[.val (.ref a), .val (.int (1 : Int32)), .unset, .unset] [(.ref dA)]))
  obtain ⟨cl63, Ar63, -, S63, n63, -, -⟩ := (id (u1.ext O0.2))
  refine gv (X62.arraylength hx (by rw [e62]; exact Ar63.1) (State.isArrayOf_alike hZ.alike Ar63.2.1) (g := (mkF me_ 4 #[.val (.ref a), .val (.int (1 : Int32)), .unset, .unset] [(.ref dA)])) rfl rfl (hb hby d20_4)) ?_
  rw [len_of S63 n63]
  show G (T62.setTop (mkF me_ 5 #[.val (.ref a), .val (.int (1 : Int32)), .unset, .unset] [(.int (0 : Int32))]))
  refine gv (fun tQ kQ => XS.istoreN X62.here hx rfl (hb hby d20_5) rfl (l' := #[.val (.ref a), .val (.int (1 : Int32)), .val (.int (0 : Int32)), .unset]) rfl kQ) ?_
  show G (T62.setTop (mkF me_ 6 #[.val (.ref a), .val (.int (1 : Int32)), .val (.int (0 : Int32)), .unset] []))
  refine gv (fun tQ kQ => XS.iloadN X62.here hx rfl (hb hby d20_6) rfl kQ) ?_
  show G (T62.setTop (mkF me_ 7 #[.val (.ref a), .val (.int (1 : Int32)), .val (.int (0 : Int32)), .unset] [(.int (0 : Int32))]))
  refine gv (fun tQ kQ => XS.ifNo X62.here hx rfl (hb hby d20_7) rfl ((if0 _ _).trans (flt (by decide : ¬ ((0 : Int32) < (0 : Int32)))).2.2.1) kQ) ?_
  show G (T62.setTop (mkF me_ 10 #[.val (.ref a), .val (.int (1 : Int32)), .val (.int (0 : Int32)), .unset] []))
  refine gv (fun tQ kQ => XS.aloadN X62.here hx rfl (hb hby d20_10) rfl rfl kQ) ?_
  show G (T62.setTop (mkF me_ 11 #[.val (.ref a), .val (.int (1 : Int32)), .val (.int (0 : Int32)), .unset] [(.ref a)]))
  obtain ⟨T64, X64, e64, st64⟩ := getF X62 hx hZ hown (host := "") (Or.inl (hw _ (List.mem_of_getElem? (i := 24) rfl))) Via.refl e62 u3 (g := (mkF me_ 11 #[.val (.ref a), .val (.int (1 : Int32)), .val (.int (0 : Int32)), .unset] [(.ref a)])) rfl rfl (hb hby d20_11)
  refine gv st64 ?_
  show G (T64.setTop (mkF me_ 14 #[.val (.ref a), .val (.int (1 : Int32)), .val (.int (0 : Int32)), .unset] [(.ref dA)]))
  obtain ⟨T65, X65, e65, st65⟩ := getS2 X64 hx hZ hown (host := "") (Or.inl (hw _ (List.mem_of_getElem? (i := 23) rfl))) Via.refl e64 (u0.ext O0.2) (g := (mkF me_ 14 #[.val (.ref a), .val (.int (1 : Int32)), .val (.int (0 : Int32)), .unset] [(.ref dA)])) rfl (hb hby d20_14)
  refine gv st65 ?_
  show G (T65.setTop (mkF me_ 17 #[.val (.ref a), .val (.int (1 : Int32)), .val (.int (0 : Int32)), .unset] [(.ref dA), (.ref dA)]))
  refine gv (fun tQ kQ => Jvm.RoadKit.acmp (g := (mkF me_ 17 #[.val (.ref a), .val (.int (1 : Int32)), .val (.int (0 : Int32)), .unset] [(.ref dA), (.ref dA)])) X65 hx rfl rfl rfl (pc0 := 17) (pc' := 45) (same := true) rfl (hb hby d20_17) rfl (decide_eq_true rfl) (by decide) (by decide) kQ) ?_
  show G (T65.setTop (mkF me_ 45 #[.val (.ref a), .val (.int (1 : Int32)), .val (.int (0 : Int32)), .unset] []))
  refine gv (fun tQ kQ => XS.aloadN X65.here hx rfl (hb hby d20_45) rfl rfl kQ) ?_
  show G (T65.setTop (mkF me_ 46 #[.val (.ref a), .val (.int (1 : Int32)), .val (.int (0 : Int32)), .unset] [(.ref a)]))
  refine gv (fun tQ kQ => XS.bipush X65.here hx rfl (hb hby d20_46) kQ) ?_
  show G (T65.setTop (mkF me_ 48 #[.val (.ref a), .val (.int (1 : Int32)), .val (.int (0 : Int32)), .unset] [(.int (10 : Int32)), (.ref a)]))
  refine gv (fun tQ kQ => XS.iloadN X65.here hx rfl (hb hby d20_48) rfl kQ) ?_
  show G (T65.setTop (mkF me_ 49 #[.val (.ref a), .val (.int (1 : Int32)), .val (.int (0 : Int32)), .unset] [(.int (1 : Int32)), (.int (10 : Int32)), (.ref a)]))
  obtain ⟨_, _, ⟨T66, L66, k66, n66⟩, -, X66, ⟨Lc66, hQ66, l66, y66, z66⟩, st66⟩ := Jvm.LawKit.callS X65 hx (y := (⟨"java/lang/Math", "max", "(II)I"⟩ : MethodName)) hown (mvT hZ (hw _ (List.mem_of_getElem? (i := 113) rfl))) (mvT hZ (hw _ (List.mem_of_getElem? (i := 114) rfl))) (mvT hZ (hw _ (List.mem_of_getElem? (i := 115) rfl))) (mvT hZ (hw _ (List.mem_of_getElem? (i := 116) rfl))) (by decide) (backOf (W := 1) (rm_max_10_1 l Z a0 hw []  h0 n0 O0 ) hZ (hw _ (List.mem_of_getElem? (i := 116) rfl)) (hw _ (List.mem_of_getElem? (i := 115) rfl)) (by decide) (by decide)) (g := (mkF me_ 49 #[.val (.ref a), .val (.int (1 : Int32)), .val (.int (0 : Int32)), .unset] [(.int (1 : Int32)), (.int (10 : Int32)), (.ref a)])) rfl (by rw [hml]; rfl) (argsL := [(.int (10 : Int32)), (.int (1 : Int32))]) (rest := [(.ref a)]) (lenOf pd_2 rfl) rfl (by show 2 * 0 + _ ≤ _; exact Nat.le_of_eq rfl) (hb hby d20_49) (fun _ _ => ⟨rfl, e65, (by decide : 0 + 0 ≤ _), (by decide : 0 + 0 ≤ _)⟩)
  dsimp only [Pt.U, Pt.locs, Pt.cells, Pt.slots] at X66 l66 y66 z66 st66 hQ66
  subst l66 y66 z66
  obtain ⟨rfl, Nq66, eq66⟩ := hQ66
  have N67 := Fr.app N0 Nq66
  refine gv st66 ?_
  show G (T66.setTop (mkF me_ 52 #[.val (.ref a), .val (.int (1 : Int32)), .val (.int (0 : Int32)), .unset] [(.int (10 : Int32)), (.ref a)]))
  obtain ⟨T68, h68, k68, X68, e68, E68, A68, Ov68, st68⟩ := newR X66 hx hZ hown (hw _ (List.mem_of_getElem? (i := 117) rfl)) (hw _ (List.mem_of_getElem? (i := 118) rfl)) eq66 (g := (mkF me_ 52 #[.val (.ref a), .val (.int (1 : Int32)), .val (.int (0 : Int32)), .unset] [(.int (10 : Int32)), (.ref a)])) rfl (hb hby d20_52) rfl (by decide) (cap := 10) (by decide) (by decide) (by decide) (by decide)
  obtain ⟨b68, g68⟩ : ∃ z, z = h0.size := ⟨_, rfl⟩
  rw [← g68] at A68 st68
  refine gv st68 ?_
  have ne69 : dA ≠ b68 := Nat.ne_of_lt (Nat.lt_of_lt_of_le (u1.ext O0.2).lt (Nat.le_of_eq g68.symm))
  have ne70 : a ≠ b68 := Nat.ne_of_lt (Nat.lt_of_lt_of_le u2.lt (Nat.le_of_eq g68.symm))
  have g71 : n0 ≤ b68 := Nat.le_trans (own_old O0) (Nat.le_of_eq g68.symm)
  have z72 : h0.size ≤ b68 := Nat.le_trans K0.1 (Nat.le_of_eq g68.symm)
  have f73 : Exa Z h68 a "java/util/ArrayList" := u2.ext E68
  have f74 : Fld Z h68 a "java/util/ArrayList" "elementData" "[Ljava/lang/Object;" (.ref dA) := u3.ext E68
  have f75 : Fld Z h68 a "java/util/ArrayList" "size" "I" (.int (0 : Int32)) := u4.ext E68
  have f76 : Fld Z h68 a "java/util/AbstractList" "modCount" "I" (.int mc) := u6.ext E68
  have O77 := O0.ext E68
  have K78 := K0.ext E68
  have V68 : Arv Z h68 b68 k68 (.object "java/lang/Object") (10 : Int32) [.null, .null, .null, .null, .null, .null, .null, .null, .null, .null] .null := (Arv.new A68 (by decide)).pad (pad_rep [] .null 10)
  show G (T68.setTop (mkF me_ 55 #[.val (.ref a), .val (.int (1 : Int32)), .val (.int (0 : Int32)), .unset] [(.ref b68), (.ref a)]))
  refine gv (fun tQ kQ => XS.dupX1 X68.here hx rfl (hb hby d20_55) rfl rfl rfl kQ) ?_
  show G (T68.setTop (mkF me_ 56 #[.val (.ref a), .val (.int (1 : Int32)), .val (.int (0 : Int32)), .unset] [(.ref b68), (.ref a), (.ref b68)]))
  obtain ⟨T79, h79, X79, e79, W79, st79⟩ := putF X68 hx hZ hown (host := "") (Or.inl (hw _ (List.mem_of_getElem? (i := 24) rfl))) Via.refl e68 f74 f73 (Or.inl (hw _ (List.mem_of_getElem? (i := 25) rfl))) (hw _ (List.mem_of_getElem? (i := 1) rfl)) (ty := (.array (.object "java/lang/Object"))) (by decide) rfl rfl (g := (mkF me_ 56 #[.val (.ref a), .val (.int (1 : Int32)), .val (.int (0 : Int32)), .unset] [(.ref b68), (.ref a), (.ref b68)])) rfl rfl (hb hby d20_56)
  refine gv st79 ?_
  have f81 : Exa Z h79 a "java/util/ArrayList" := f73.wr W79
  have f82 : Fld Z h79 a "java/util/ArrayList" "size" "I" (.int (0 : Int32)) := f75.other W79 (Or.inr (slot_ne (Or.inl (hw _ (List.mem_of_getElem? (i := 66) rfl))) (Or.inl (hw _ (List.mem_of_getElem? (i := 25) rfl))) (by decide) (t := .int) (t' := (.array (.object "java/lang/Object"))) (by decide) (by decide)))
  have f83 : Fld Z h79 a "java/util/AbstractList" "modCount" "I" (.int mc) := f76.other W79 (Or.inr (slot_ne (Or.inl (hw _ (List.mem_of_getElem? (i := 22) rfl))) (Or.inl (hw _ (List.mem_of_getElem? (i := 25) rfl))) (by decide) (t := .int) (t' := (.array (.object "java/lang/Object"))) (by decide) (by decide)))
  have f84 : Arv Z h79 b68 k68 (.object "java/lang/Object") (10 : Int32) [.null, .null, .null, .null, .null, .null, .null, .null, .null, .null] .null := V68.other W79 (Ne.symm ne70)
  have O85 := O77.wr W79 u5
  have K86 := K78.wr W79 (Or.inl (List.mem_of_getElem? (i := 0) rfl))
  have N87 := Fr.snoc X79 N67 u5
  have f80 : Fld Z h79 a "java/util/ArrayList" "elementData" "[Ljava/lang/Object;" (.ref b68) := f74.same W79
  show G (T79.setTop (mkF me_ 59 #[.val (.ref a), .val (.int (1 : Int32)), .val (.int (0 : Int32)), .unset] [(.ref b68)]))
  refine gf _ (own_ret X79 Bd.notSynchronized (v := some (.ref b68)) (fun h => by rw [Bd.returns] at h; cases h) ?_ (by decide) (by decide) (fun fs hr => retOut X79 hx (t := (.array (.object "java/lang/Object"))) Bd.returns rfl (Or.inr (Or.inr (Or.inr (Or.inr ⟨rfl, rfl, rfl⟩)))) (hb hby d20_59) hr))
  show Q_growI Z a dA dk mc h0 n0 _ T79.heap _
  rw [e79]
  exact ⟨b68, k68, rfl, N87, K86, f81, f80, f82, z72, f84, Ov68, f83⟩
theorem d19_0 : decode jdk_38_method_7_code 0 = .ok (.aload_n 0, 1) := by decide +kernel
theorem d19_1 : decode jdk_38_method_7_code 1 = .ok (.aload_n 0, 1) := by decide +kernel
theorem d19_2 : decode jdk_38_method_7_code 2 = .ok (.getfield 48, 3) := by decide +kernel
theorem d19_5 : decode jdk_38_method_7_code 5 = .ok (.iconst 1, 1) := by decide +kernel
theorem d19_6 : decode jdk_38_method_7_code 6 = .ok (.iadd, 1) := by decide +kernel
theorem d19_7 : decode jdk_38_method_7_code 7 = .ok (.invokevirtual 69, 3) := by decide +kernel
theorem pd_3 : parseMethodDescriptor "(I)[Ljava/lang/Object;" = some ⟨[.int], some (.array (.object "java/lang/Object"))⟩ := by decide +kernel
theorem d19_10 : decode jdk_38_method_7_code 10 = .ok (.areturn, 1) := by decide +kernel
def Q_grow (Z : State) (a : Addr) (dA : Addr) (dk : ClassId) (mc : Int32) (h0 : Heap) (n0 : Nat) (v : Option Value) (h : Heap) (L : List Loc) : Prop := ∃ (b : Addr), ∃ (k : ClassId), v = some (.ref b) ∧ Fr n0 L ∧ Keep h0 h [a] ∧ (Exa Z h a "java/util/ArrayList") ∧ (Fld Z h a "java/util/ArrayList" "elementData" "[Ljava/lang/Object;" (.ref b)) ∧ (Fld Z h a "java/util/ArrayList" "size" "I" (.int (0 : Int32))) ∧ h0.size ≤ b ∧ (Arv Z h b k (.object "java/lang/Object") (10 : Int32) [.null, .null, .null, .null, .null, .null, .null, .null, .null, .null] .null) ∧ (Ovr Z k "java/lang/Object") ∧ (Fld Z h a "java/util/AbstractList" "modCount" "I" (.int mc))
set_option maxRecDepth 65536 in
set_option maxHeartbeats 40000000 in
theorem rm_grow (l : Launch) (Z : State) (a0 : Array Value) (hw : ∀ d ∈ tables_1, d.before a0 Z = true) (ws : List Jvm.Cond) (a : Addr) (dA : Addr) (dk : ClassId) (mc : Int32) (h0 : Heap) (n0 : Nat) (O0 : Old Z n0 h0) (u0 : Sta Z Z.heap "java/util/ArrayList" "DEFAULTCAPACITY_EMPTY_ELEMENTDATA" "[Ljava/lang/Object;" (.ref dA)) (u1 : Arv Z Z.heap dA dk (.object "java/lang/Object") (0 : Int32) [] .null) (u2 : Exa Z h0 a "java/util/ArrayList") (u3 : Fld Z h0 a "java/util/ArrayList" "elementData" "[Ljava/lang/Object;" (.ref dA)) (u4 : Fld Z h0 a "java/util/ArrayList" "size" "I" (.int (0 : Int32))) (u5 : n0 ≤ a) (u6 : Fld Z h0 a "java/util/AbstractList" "modCount" "I" (.int mc)) :
    MetFree l (⟨"java/util/ArrayList", "grow", "()[Ljava/lang/Object;"⟩ : MethodName) (head1 (Jvm.Cond.code (⟨"java/util/ArrayList", "grow", "()[Ljava/lang/Object;"⟩ : MethodName) jdk_38_method_7_code 1 (some (.array (.object "java/lang/Object"))) :: ws) ({ frames := 2, cells := 1, slots := 10, locals := 29 } : Room)) (fun aV U => aV = #[(.ref a)] ∧ Z.Warmed39 U.vm ∧ U.heap = h0) (fun _ _ _ _ _ => True) (fun _ U o U' => ∃ v L, o = .returned v ∧ Q_grow Z a dA dk mc h0 n0 v U'.heap L ∧ FrameEnd U o U' L ({ frames := 2, cells := 1, slots := 10, locals := 29 } : Room).cells ({ frames := 2, cells := 1, slots := 10, locals := 29 } : Room).slots) := by
  refine MetFree.of_bodySF (plainFor_of_name pn_4) hisR ?_
  intro pr_ en_ st_ me_ args below meth_ co_ s₁ Bd hml0 hP hK
  obtain ⟨rfl, hZ, hh⟩ := hP
  have hx := Bd.exec
  have hby := Bd.bytes
  have hml : co_.maxLocals = 1 := hml0
  have hown : st_.vm.findClass "java/util/ArrayList" = some me_.cls := findClass_of_methodNamed Bd.named
  have hnm := (name_of_methodNamed Bd.named Bd.method).1
  have X0 : Stand pr_ l en_ ({ frames := 2, cells := 1, slots := 10, locals := 29 } : Room) st_ me_ #[(.ref a)] below meth_ co_ s₁ [] 0 0 := Stand.of_body Bd
  have e0 : s₁.heap = h0 := by rw [← hh, Bd.state]; rfl
  have N0 := Fr.nil n0
  have K0 := Keep.refl h0 [a]
  obtain ⟨G, gv, gf, gb⟩ := own_G pr_.tables en_ below st_ (Q_grow Z a dA dk mc h0 n0) ({ frames := 2, cells := 1, slots := 10, locals := 29 } : Room).cells ({ frames := 2, cells := 1, slots := 10, locals := 29 } : Room).slots
  show own_Fin pr_.tables en_ below st_ (Q_grow Z a dA dk mc h0 n0) ({ frames := 2, cells := 1, slots := 10, locals := 29 } : Room).cells ({ frames := 2, cells := 1, slots := 10, locals := 29 } : Room).slots (s₁.setTop (entryFrame me_ #[(.ref a)] 1))
  refine gb _ (gv (fun tQ kQ => castTop (ef_0 me_ a) kQ) ?_)
  show G (s₁.setTop (mkF me_ 0 #[.val (.ref a)] []))
  refine gv (fun tQ kQ => XS.aloadN X0.here hx rfl (hb hby d19_0) rfl rfl kQ) ?_
  show G (s₁.setTop (mkF me_ 1 #[.val (.ref a)] [(.ref a)]))
  refine gv (fun tQ kQ => XS.aloadN X0.here hx rfl (hb hby d19_1) rfl rfl kQ) ?_
  show G (s₁.setTop (mkF me_ 2 #[.val (.ref a)] [(.ref a), (.ref a)]))
  obtain ⟨T88, X88, e88, st88⟩ := getF X0 hx hZ hown (host := "") (Or.inl (hw _ (List.mem_of_getElem? (i := 65) rfl))) Via.refl e0 u4 (g := (mkF me_ 2 #[.val (.ref a)] [(.ref a), (.ref a)])) rfl rfl (hb hby d19_2)
  refine gv st88 ?_
  show G (T88.setTop (mkF me_ 5 #[.val (.ref a)] [(.int (0 : Int32)), (.ref a)]))
  refine gv (fun tQ kQ => XS.iconst X88.here hx rfl (hb hby d19_5) kQ) ?_
  show G (T88.setTop (mkF me_ 6 #[.val (.ref a)] [(.int (1 : Int32)), (.int (0 : Int32)), (.ref a)]))
  refine gv (fun tQ kQ => XS.iadd X88.here hx rfl (hb hby d19_6) rfl kQ) ?_
  show G (T88.setTop (mkF me_ 7 #[.val (.ref a)] [(.int ((0 : Int32) + (1 : Int32))), (.ref a)]))
  rw [(by decide : ((0 : Int32) + (1 : Int32)) = (1 : Int32))]
  show G (T88.setTop (mkF me_ 7 #[.val (.ref a)] [(.int (1 : Int32)), (.ref a)]))
  obtain ⟨cq89, q89, q89'⟩ := u2.cell
  obtain ⟨_, _, ⟨T89, L89, k89, n89⟩, -, X89, ⟨Lc89, hQ89, l89, y89, z89⟩, st89⟩ := X88.privateBack hx (y := (⟨"java/util/ArrayList", "grow", "(I)[Ljava/lang/Object;"⟩ : MethodName)) hown (mvT hZ (hw _ (List.mem_of_getElem? (i := 108) rfl))) (mvT hZ (hw _ (List.mem_of_getElem? (i := 109) rfl))) (mvT hZ (hw _ (List.mem_of_getElem? (i := 111) rfl))) (Cond.privateMethod_at (mvP hZ (hw _ (List.mem_of_getElem? (i := 110) rfl)) (args := #[]))) (mvT hZ (hw _ (List.mem_of_getElem? (i := 112) rfl))) (by decide) (backOf (W := 0) (rm_growI l Z a0 hw [] a dA dk mc h0 n0 O0 u0 u1 u2 u3 u4 u5 u6) hZ (hw _ (List.mem_of_getElem? (i := 112) rfl)) (hw _ (List.mem_of_getElem? (i := 2) rfl)) (by decide) (by decide)) (g := (mkF me_ 7 #[.val (.ref a)] [(.int (1 : Int32)), (.ref a)])) rfl (by rw [hml]; rfl) (Steps.refl _) (a := a) (by rw [e88]; exact q89) q89' (argsL := [(.int (1 : Int32))]) (rest := []) (lenOf pd_3 rfl) rfl (by show 2 * 0 + _ ≤ _; exact Nat.le_of_eq rfl) (hb hby d19_7) (fun _ _ => ⟨rfl, e88, (by decide : 0 + 1 ≤ _), (by decide : 0 + 10 ≤ _)⟩)
  dsimp only [Pt.U, Pt.locs, Pt.cells, Pt.slots] at X89 l89 y89 z89 st89 hQ89
  subst l89 y89 z89
  obtain ⟨b_89, k_89, rfl, Nq89, Kq89, w89_0, w89_1, w89_2, w89_3, w89_4, w89_5, w89_6⟩ := hQ89
  have N90 := Fr.app N0 Nq89
  obtain ⟨h89, e89⟩ : ∃ z, T89.heap = z := ⟨_, rfl⟩
  rw [e89] at Kq89 w89_0 w89_1 w89_2 w89_4 w89_6
  have ne91 : dA ≠ b_89 := Nat.ne_of_lt (Nat.lt_of_lt_of_le (u1.ext O0.2).lt w89_3)
  have ne92 : a ≠ b_89 := Nat.ne_of_lt (Nat.lt_of_lt_of_le u2.lt w89_3)
  have g93 : n0 ≤ b_89 := Nat.le_trans (own_old O0) w89_3
  have z94 : h0.size ≤ b_89 := Nat.le_trans K0.1 w89_3
  have f95 : Exa Z h89 a "java/util/ArrayList" := u2.keep Kq89
  have O96 := O0.keep Kq89 (allS u5 all0)
  have K97 := K0.trans Kq89 (allS (Or.inl (List.mem_of_getElem? (i := 0) rfl)) all0)
  refine gv (fun tQ kQ => st89.trans kQ) ?_
  show G (T89.setTop (mkF me_ 10 #[.val (.ref a)] [(.ref b_89)]))
  refine gf _ (own_ret X89 Bd.notSynchronized (v := some (.ref b_89)) (fun h => by rw [Bd.returns] at h; cases h) ?_ (by decide) (by decide) (fun fs hr => retOut X89 hx (t := (.array (.object "java/lang/Object"))) Bd.returns rfl (Or.inr (Or.inr (Or.inr (Or.inr ⟨rfl, rfl, rfl⟩)))) (hb hby d19_10) hr))
  show Q_grow Z a dA dk mc h0 n0 _ T89.heap _
  rw [e89]
  exact ⟨b_89, k_89, rfl, N90, K97, w89_0, w89_1, w89_2, z94, w89_4, w89_5, w89_6⟩
theorem ef_5 (m : MethodId) (x0 : Addr) (x1 : Addr) (x2 : Addr) (x3 : Int32)  : entryFrame m #[(.ref x0), (.ref x1), (.ref x2), (.int x3)] 4 = mkF m 0 #[.val (.ref x0), .val (.ref x1), .val (.ref x2), .val (.int x3)] [] := by first | (simp [entryFrame, mkF, argsToLocals, Value.category]; done) | rfl
theorem d18_0 : decode jdk_38_method_24_code 0 = .ok (.iload_n 3, 1) := by decide +kernel
theorem d18_1 : decode jdk_38_method_24_code 1 = .ok (.aload_n 2, 1) := by decide +kernel
theorem d18_2 : decode jdk_38_method_24_code 2 = .ok (.arraylength, 1) := by decide +kernel
theorem d18_3 : decode jdk_38_method_24_code 3 = .ok (.if_icmp .ne 8, 3) := by decide +kernel
theorem d18_6 : decode jdk_38_method_24_code 6 = .ok (.aload_n 0, 1) := by decide +kernel
theorem d18_7 : decode jdk_38_method_24_code 7 = .ok (.invokevirtual 129, 3) := by decide +kernel
theorem pd_4 : parseMethodDescriptor "()[Ljava/lang/Object;" = some ⟨[], some (.array (.object "java/lang/Object"))⟩ := by decide +kernel
theorem d18_10 : decode jdk_38_method_24_code 10 = .ok (.astore_n 2, 1) := by decide +kernel
theorem d18_11 : decode jdk_38_method_24_code 11 = .ok (.aload_n 2, 1) := by decide +kernel
theorem d18_12 : decode jdk_38_method_24_code 12 = .ok (.iload_n 3, 1) := by decide +kernel
theorem d18_13 : decode jdk_38_method_24_code 13 = .ok (.aload_n 1, 1) := by decide +kernel
theorem d18_14 : decode jdk_38_method_24_code 14 = .ok (.aastore, 1) := by decide +kernel
theorem d18_15 : decode jdk_38_method_24_code 15 = .ok (.aload_n 0, 1) := by decide +kernel
theorem d18_16 : decode jdk_38_method_24_code 16 = .ok (.iload_n 3, 1) := by decide +kernel
theorem d18_17 : decode jdk_38_method_24_code 17 = .ok (.iconst 1, 1) := by decide +kernel
theorem d18_18 : decode jdk_38_method_24_code 18 = .ok (.iadd, 1) := by decide +kernel
theorem d18_19 : decode jdk_38_method_24_code 19 = .ok (.putfield 48, 3) := by decide +kernel
theorem d18_22 : decode jdk_38_method_24_code 22 = .ok (.return_, 1) := by decide +kernel
def Q_addh0 (Z : State) (a : Addr) (r : Addr) (dA : Addr) (dk : ClassId) (mc : Int32) (h0 : Heap) (n0 : Nat) (v : Option Value) (h : Heap) (L : List Loc) : Prop := ∃ (b : Addr), ∃ (k : ClassId), v = none ∧ Fr n0 L ∧ Keep h0 h [a] ∧ (Exa Z h a "java/util/ArrayList") ∧ (Fld Z h a "java/util/ArrayList" "elementData" "[Ljava/lang/Object;" (.ref b)) ∧ (Fld Z h a "java/util/ArrayList" "size" "I" (.int (1 : Int32))) ∧ h0.size ≤ b ∧ (Arv Z h b k (.object "java/lang/Object") (10 : Int32) [(.ref r), .null, .null, .null, .null, .null, .null, .null, .null, .null] .null) ∧ (Ovr Z k "java/lang/Object") ∧ (Fld Z h a "java/util/AbstractList" "modCount" "I" (.int mc))
set_option maxRecDepth 65536 in
set_option maxHeartbeats 40000000 in
theorem rm_addh0 (l : Launch) (Z : State) (a0 : Array Value) (hw : ∀ d ∈ tables_1, d.before a0 Z = true) (ws : List Jvm.Cond) (a : Addr) (r : Addr) (dA : Addr) (dk : ClassId) (mc : Int32) (h0 : Heap) (n0 : Nat) (O0 : Old Z n0 h0) (u0 : Sta Z Z.heap "java/util/ArrayList" "DEFAULTCAPACITY_EMPTY_ELEMENTDATA" "[Ljava/lang/Object;" (.ref dA)) (u1 : Arv Z Z.heap dA dk (.object "java/lang/Object") (0 : Int32) [] .null) (u2 : Exa Z h0 a "java/util/ArrayList") (u3 : Fld Z h0 a "java/util/ArrayList" "elementData" "[Ljava/lang/Object;" (.ref dA)) (u4 : Fld Z h0 a "java/util/ArrayList" "size" "I" (.int (0 : Int32))) (u5 : n0 ≤ a) (u6 : Exa Z h0 r "java/lang/Integer") (u7 : Fld Z h0 a "java/util/AbstractList" "modCount" "I" (.int mc)) :
    MetFree l (⟨"java/util/ArrayList", "add", "(Ljava/lang/Object;[Ljava/lang/Object;I)V"⟩ : MethodName) (head1 (Jvm.Cond.code (⟨"java/util/ArrayList", "add", "(Ljava/lang/Object;[Ljava/lang/Object;I)V"⟩ : MethodName) jdk_38_method_24_code 4 none :: ws) ({ frames := 3, cells := 1, slots := 10, locals := 41 } : Room)) (fun aV U => aV = #[(.ref a), (.ref r), (.ref dA), (.int (0 : Int32))] ∧ Z.Warmed39 U.vm ∧ U.heap = h0) (fun _ _ _ _ _ => True) (fun _ U o U' => ∃ v L, o = .returned v ∧ Q_addh0 Z a r dA dk mc h0 n0 v U'.heap L ∧ FrameEnd U o U' L ({ frames := 3, cells := 1, slots := 10, locals := 41 } : Room).cells ({ frames := 3, cells := 1, slots := 10, locals := 41 } : Room).slots) := by
  refine MetFree.of_bodySF (plainFor_of_name pn_4) hisR ?_
  intro pr_ en_ st_ me_ args below meth_ co_ s₁ Bd hml0 hP hK
  obtain ⟨rfl, hZ, hh⟩ := hP
  have hx := Bd.exec
  have hby := Bd.bytes
  have hml : co_.maxLocals = 4 := hml0
  have hown : st_.vm.findClass "java/util/ArrayList" = some me_.cls := findClass_of_methodNamed Bd.named
  have hnm := (name_of_methodNamed Bd.named Bd.method).1
  have X0 : Stand pr_ l en_ ({ frames := 3, cells := 1, slots := 10, locals := 41 } : Room) st_ me_ #[(.ref a), (.ref r), (.ref dA), (.int (0 : Int32))] below meth_ co_ s₁ [] 0 0 := Stand.of_body Bd
  have e0 : s₁.heap = h0 := by rw [← hh, Bd.state]; rfl
  have N0 := Fr.nil n0
  have K0 := Keep.refl h0 [a]
  obtain ⟨G, gv, gf, gb⟩ := own_G pr_.tables en_ below st_ (Q_addh0 Z a r dA dk mc h0 n0) ({ frames := 3, cells := 1, slots := 10, locals := 41 } : Room).cells ({ frames := 3, cells := 1, slots := 10, locals := 41 } : Room).slots
  show own_Fin pr_.tables en_ below st_ (Q_addh0 Z a r dA dk mc h0 n0) ({ frames := 3, cells := 1, slots := 10, locals := 41 } : Room).cells ({ frames := 3, cells := 1, slots := 10, locals := 41 } : Room).slots (s₁.setTop (entryFrame me_ #[(.ref a), (.ref r), (.ref dA), (.int (0 : Int32))] 4))
  refine gb _ (gv (fun tQ kQ => castTop (ef_5 me_ a r dA (0 : Int32)) kQ) ?_)
  show G (s₁.setTop (mkF me_ 0 #[.val (.ref a), .val (.ref r), .val (.ref dA), .val (.int (0 : Int32))] []))
  refine gv (fun tQ kQ => XS.iloadN X0.here hx rfl (hb hby d18_0) rfl kQ) ?_
  show G (s₁.setTop (mkF me_ 1 #[.val (.ref a), .val (.ref r), .val (.ref dA), .val (.int (0 : Int32))] [(.int (0 : Int32))]))
  refine gv (fun tQ kQ => XS.aloadN X0.here hx rfl (hb hby d18_1) rfl rfl kQ) ?_
  show G (s₁.setTop (mkF me_ 2 #[.val (.ref a), .val (.ref r), .val (.ref dA), .val (.int (0 : Int32))] [(.ref dA), (.int (0 : Int32))]))
  obtain ⟨cl98, Ar98, -, S98, n98, -, -⟩ := (id (u1.ext O0.2))
  refine gv (X0.arraylength hx (by rw [e0]; exact Ar98.1) (State.isArrayOf_alike hZ.alike Ar98.2.1) (g := (mkF me_ 2 #[.val (.ref a), .val (.ref r), .val (.ref dA), .val (.int (0 : Int32))] [(.ref dA), (.int (0 : Int32))])) rfl rfl (hb hby d18_2)) ?_
  rw [len_of S98 n98]
  show G (s₁.setTop (mkF me_ 3 #[.val (.ref a), .val (.ref r), .val (.ref dA), .val (.int (0 : Int32))] [(.int (0 : Int32)), (.int (0 : Int32))]))
  refine gv (fun tQ kQ => XS.icmpNo X0.here hx rfl (hb hby d18_3) rfl (teq (by decide : (0 : Int32) = (0 : Int32))).2 kQ) ?_
  show G (s₁.setTop (mkF me_ 6 #[.val (.ref a), .val (.ref r), .val (.ref dA), .val (.int (0 : Int32))] []))
  refine gv (fun tQ kQ => XS.aloadN X0.here hx rfl (hb hby d18_6) rfl rfl kQ) ?_
  show G (s₁.setTop (mkF me_ 7 #[.val (.ref a), .val (.ref r), .val (.ref dA), .val (.int (0 : Int32))] [(.ref a)]))
  obtain ⟨cq99, q99, q99'⟩ := u2.cell
  obtain ⟨_, _, ⟨T99, L99, k99, n99⟩, -, X99, ⟨Lc99, hQ99, l99, y99, z99⟩, st99⟩ := X0.privateBack hx (y := (⟨"java/util/ArrayList", "grow", "()[Ljava/lang/Object;"⟩ : MethodName)) hown (mvT hZ (hw _ (List.mem_of_getElem? (i := 103) rfl))) (mvT hZ (hw _ (List.mem_of_getElem? (i := 104) rfl))) (mvT hZ (hw _ (List.mem_of_getElem? (i := 106) rfl))) (Cond.privateMethod_at (mvP hZ (hw _ (List.mem_of_getElem? (i := 105) rfl)) (args := #[]))) (mvT hZ (hw _ (List.mem_of_getElem? (i := 107) rfl))) (by decide) (backOf (W := 0) (rm_grow l Z a0 hw [] a dA dk mc h0 n0 O0 u0 u1 u2 u3 u4 u5 u7) hZ (hw _ (List.mem_of_getElem? (i := 107) rfl)) (hw _ (List.mem_of_getElem? (i := 2) rfl)) (by decide) (by decide)) (g := (mkF me_ 7 #[.val (.ref a), .val (.ref r), .val (.ref dA), .val (.int (0 : Int32))] [(.ref a)])) rfl (by rw [hml]; rfl) (Steps.refl _) (a := a) (by rw [e0]; exact q99) q99' (argsL := []) (rest := []) (lenOf pd_4 rfl) rfl (by show 2 * 0 + _ ≤ _; exact Nat.le_of_eq rfl) (hb hby d18_7) (fun _ _ => ⟨rfl, e0, (by decide : 0 + 1 ≤ _), (by decide : 0 + 10 ≤ _)⟩)
  dsimp only [Pt.U, Pt.locs, Pt.cells, Pt.slots] at X99 l99 y99 z99 st99 hQ99
  subst l99 y99 z99
  obtain ⟨b_99, k_99, rfl, Nq99, Kq99, w99_0, w99_1, w99_2, w99_3, w99_4, w99_5, w99_6⟩ := hQ99
  have N100 := Fr.app N0 Nq99
  obtain ⟨h99, e99⟩ : ∃ z, T99.heap = z := ⟨_, rfl⟩
  rw [e99] at Kq99 w99_0 w99_1 w99_2 w99_4 w99_6
  have ne101 : dA ≠ b_99 := Nat.ne_of_lt (Nat.lt_of_lt_of_le (u1.ext O0.2).lt w99_3)
  have ne102 : a ≠ b_99 := Nat.ne_of_lt (Nat.lt_of_lt_of_le u2.lt w99_3)
  have ne103 : r ≠ b_99 := Nat.ne_of_lt (Nat.lt_of_lt_of_le u6.lt w99_3)
  have g104 : n0 ≤ b_99 := Nat.le_trans (own_old O0) w99_3
  have z105 : h0.size ≤ b_99 := Nat.le_trans K0.1 w99_3
  have f106 : Exa Z h99 a "java/util/ArrayList" := u2.keep Kq99
  have f107 : Exa Z h99 r "java/lang/Integer" := u6.keep Kq99
  have O108 := O0.keep Kq99 (allS u5 all0)
  have K109 := K0.trans Kq99 (allS (Or.inl (List.mem_of_getElem? (i := 0) rfl)) all0)
  refine gv (fun tQ kQ => st99.trans kQ) ?_
  show G (T99.setTop (mkF me_ 10 #[.val (.ref a), .val (.ref r), .val (.ref dA), .val (.int (0 : Int32))] [(.ref b_99)]))
  refine gv (fun tQ kQ => XS.astoreN X99.here hx rfl (hb hby d18_10) rfl rfl (l' := #[.val (.ref a), .val (.ref r), .val (.ref b_99), .val (.int (0 : Int32))]) rfl kQ) ?_
  show G (T99.setTop (mkF me_ 11 #[.val (.ref a), .val (.ref r), .val (.ref b_99), .val (.int (0 : Int32))] []))
  refine gv (fun tQ kQ => XS.aloadN X99.here hx rfl (hb hby d18_11) rfl rfl kQ) ?_
  show G (T99.setTop (mkF me_ 12 #[.val (.ref a), .val (.ref r), .val (.ref b_99), .val (.int (0 : Int32))] [(.ref b_99)]))
  refine gv (fun tQ kQ => XS.iloadN X99.here hx rfl (hb hby d18_12) rfl kQ) ?_
  show G (T99.setTop (mkF me_ 13 #[.val (.ref a), .val (.ref r), .val (.ref b_99), .val (.int (0 : Int32))] [(.int (0 : Int32)), (.ref b_99)]))
  refine gv (fun tQ kQ => XS.aloadN X99.here hx rfl (hb hby d18_13) rfl rfl kQ) ?_
  show G (T99.setTop (mkF me_ 14 #[.val (.ref a), .val (.ref r), .val (.ref b_99), .val (.int (0 : Int32))] [(.ref r), (.int (0 : Int32)), (.ref b_99)]))
  obtain ⟨cl110, Ar110, q110, S110, n110, H110, G110⟩ := (id w99_4)
  have in110 : ¬ ((0 : Int32) < 0 ∨ cl110.slots.size ≤ ((0 : Int32)).toNatClampNeg) := inb_of S110 ⟨by decide, by decide⟩
  obtain ⟨T110, h110, X110, e110, W110, st110⟩ := stR X99 hx hZ e99 Ar110 (j := (0 : Int32)) in110 rfl (Sto.ofV Ar110 q110 w99_5 (Ins.of_exa f107 (hw _ (List.mem_of_getElem? (i := 119) rfl)))) (g := (mkF me_ 14 #[.val (.ref a), .val (.ref r), .val (.ref b_99), .val (.int (0 : Int32))] [(.ref r), (.int (0 : Int32)), (.ref b_99)])) rfl rfl (hb hby d18_14)
  refine gv st110 ?_
  have f112 : Exa Z h110 a "java/util/ArrayList" := w99_0.wr W110
  have f113 : Exa Z h110 r "java/lang/Integer" := f107.wr W110
  have f114 : Fld Z h110 a "java/util/ArrayList" "elementData" "[Ljava/lang/Object;" (.ref b_99) := w99_1.other W110 (Or.inl ne102)
  have f115 : Fld Z h110 a "java/util/ArrayList" "size" "I" (.int (0 : Int32)) := w99_2.other W110 (Or.inl ne102)
  have f116 : Fld Z h110 a "java/util/AbstractList" "modCount" "I" (.int mc) := w99_6.other W110 (Or.inl ne102)
  have O117 := O108.wr W110 g104
  have K118 := K109.wr W110 (Or.inr z105)
  have N119 := Fr.snoc X110 N100 g104
  have f111 : Arv Z h110 b_99 k_99 (.object "java/lang/Object") (10 : Int32) [(.ref r), .null, .null, .null, .null, .null, .null, .null, .null, .null] .null := Arv.set Ar110 q110 S110 n110 H110 G110 rfl W110 0 rfl (Nat.le_of_ble_eq_true rfl)
  show G (T110.setTop (mkF me_ 15 #[.val (.ref a), .val (.ref r), .val (.ref b_99), .val (.int (0 : Int32))] []))
  refine gv (fun tQ kQ => XS.aloadN X110.here hx rfl (hb hby d18_15) rfl rfl kQ) ?_
  show G (T110.setTop (mkF me_ 16 #[.val (.ref a), .val (.ref r), .val (.ref b_99), .val (.int (0 : Int32))] [(.ref a)]))
  refine gv (fun tQ kQ => XS.iloadN X110.here hx rfl (hb hby d18_16) rfl kQ) ?_
  show G (T110.setTop (mkF me_ 17 #[.val (.ref a), .val (.ref r), .val (.ref b_99), .val (.int (0 : Int32))] [(.int (0 : Int32)), (.ref a)]))
  refine gv (fun tQ kQ => XS.iconst X110.here hx rfl (hb hby d18_17) kQ) ?_
  show G (T110.setTop (mkF me_ 18 #[.val (.ref a), .val (.ref r), .val (.ref b_99), .val (.int (0 : Int32))] [(.int (1 : Int32)), (.int (0 : Int32)), (.ref a)]))
  refine gv (fun tQ kQ => XS.iadd X110.here hx rfl (hb hby d18_18) rfl kQ) ?_
  show G (T110.setTop (mkF me_ 19 #[.val (.ref a), .val (.ref r), .val (.ref b_99), .val (.int (0 : Int32))] [(.int ((0 : Int32) + (1 : Int32))), (.ref a)]))
  rw [(by decide : ((0 : Int32) + (1 : Int32)) = (1 : Int32))]
  show G (T110.setTop (mkF me_ 19 #[.val (.ref a), .val (.ref r), .val (.ref b_99), .val (.int (0 : Int32))] [(.int (1 : Int32)), (.ref a)]))
  obtain ⟨T120, h120, X120, e120, W120, st120⟩ := putF X110 hx hZ hown (host := "") (Or.inl (hw _ (List.mem_of_getElem? (i := 65) rfl))) Via.refl e110 f115 f112 (Or.inl (hw _ (List.mem_of_getElem? (i := 66) rfl))) (hw _ (List.mem_of_getElem? (i := 1) rfl)) (ty := .int) (by decide) rfl rfl (g := (mkF me_ 19 #[.val (.ref a), .val (.ref r), .val (.ref b_99), .val (.int (0 : Int32))] [(.int (1 : Int32)), (.ref a)])) rfl rfl (hb hby d18_19)
  refine gv st120 ?_
  have f122 : Exa Z h120 a "java/util/ArrayList" := f112.wr W120
  have f123 : Exa Z h120 r "java/lang/Integer" := f113.wr W120
  have f124 : Fld Z h120 a "java/util/ArrayList" "elementData" "[Ljava/lang/Object;" (.ref b_99) := f114.other W120 (Or.inr (slot_ne (Or.inl (hw _ (List.mem_of_getElem? (i := 25) rfl))) (Or.inl (hw _ (List.mem_of_getElem? (i := 66) rfl))) (by decide) (t := (.array (.object "java/lang/Object"))) (t' := .int) (by decide) (by decide)))
  have f125 : Arv Z h120 b_99 k_99 (.object "java/lang/Object") (10 : Int32) [(.ref r), .null, .null, .null, .null, .null, .null, .null, .null, .null] .null := f111.other W120 (Ne.symm ne102)
  have f126 : Fld Z h120 a "java/util/AbstractList" "modCount" "I" (.int mc) := f116.other W120 (Or.inr (slot_ne (Or.inl (hw _ (List.mem_of_getElem? (i := 22) rfl))) (Or.inl (hw _ (List.mem_of_getElem? (i := 66) rfl))) (by decide) (t := .int) (t' := .int) (by decide) (by decide)))
  have O127 := O117.wr W120 u5
  have K128 := K118.wr W120 (Or.inl (List.mem_of_getElem? (i := 0) rfl))
  have N129 := Fr.snoc X120 N119 u5
  have f121 : Fld Z h120 a "java/util/ArrayList" "size" "I" (.int (1 : Int32)) := f115.same W120
  show G (T120.setTop (mkF me_ 22 #[.val (.ref a), .val (.ref r), .val (.ref b_99), .val (.int (0 : Int32))] []))
  refine gf _ (own_ret X120 Bd.notSynchronized (v := none) (fun _ => rfl) ?_ (by decide) (by decide) (fun fs hr => X120.returnOut hx Bd.returns (hb hby d18_22) hr))
  show Q_addh0 Z a r dA dk mc h0 n0 _ T120.heap _
  rw [e120]
  exact ⟨b_99, k_99, rfl, N129, K128, f122, f124, f121, z105, f125, w99_5, f126⟩
theorem ef_6 (m : MethodId) (x0 : Addr) (x1 : Addr)  : entryFrame m #[(.ref x0), (.ref x1)] 2 = mkF m 0 #[.val (.ref x0), .val (.ref x1)] [] := by first | (simp [entryFrame, mkF, argsToLocals, Value.category]; done) | rfl
theorem d17_0 : decode jdk_38_method_25_code 0 = .ok (.aload_n 0, 1) := by decide +kernel
theorem d17_1 : decode jdk_38_method_25_code 1 = .ok (.dup, 1) := by decide +kernel
theorem d17_2 : decode jdk_38_method_25_code 2 = .ok (.getfield 63, 3) := by decide +kernel
theorem d17_5 : decode jdk_38_method_25_code 5 = .ok (.iconst 1, 1) := by decide +kernel
theorem d17_6 : decode jdk_38_method_25_code 6 = .ok (.iadd, 1) := by decide +kernel
theorem d17_7 : decode jdk_38_method_25_code 7 = .ok (.putfield 63, 3) := by decide +kernel
theorem d17_10 : decode jdk_38_method_25_code 10 = .ok (.aload_n 0, 1) := by decide +kernel
theorem d17_11 : decode jdk_38_method_25_code 11 = .ok (.aload_n 1, 1) := by decide +kernel
theorem d17_12 : decode jdk_38_method_25_code 12 = .ok (.aload_n 0, 1) := by decide +kernel
theorem d17_13 : decode jdk_38_method_25_code 13 = .ok (.getfield 9, 3) := by decide +kernel
theorem d17_16 : decode jdk_38_method_25_code 16 = .ok (.aload_n 0, 1) := by decide +kernel
theorem d17_17 : decode jdk_38_method_25_code 17 = .ok (.getfield 48, 3) := by decide +kernel
theorem d17_20 : decode jdk_38_method_25_code 20 = .ok (.invokevirtual 131, 3) := by decide +kernel
theorem pd_5 : parseMethodDescriptor "(Ljava/lang/Object;[Ljava/lang/Object;I)V" = some ⟨[(.object "java/lang/Object"), (.array (.object "java/lang/Object")), .int], none⟩ := by decide +kernel
theorem d17_23 : decode jdk_38_method_25_code 23 = .ok (.iconst 1, 1) := by decide +kernel
theorem d17_24 : decode jdk_38_method_25_code 24 = .ok (.ireturn, 1) := by decide +kernel
def Q_add0 (Z : State) (a : Addr) (r : Addr) (dA : Addr) (dk : ClassId) (h0 : Heap) (n0 : Nat) (v : Option Value) (h : Heap) (L : List Loc) : Prop := ∃ (b : Addr), ∃ (k : ClassId), v = some (.int (1 : Int32)) ∧ Fr n0 L ∧ Keep h0 h [a] ∧ (Exa Z h a "java/util/ArrayList") ∧ (Fld Z h a "java/util/ArrayList" "elementData" "[Ljava/lang/Object;" (.ref b)) ∧ (Fld Z h a "java/util/ArrayList" "size" "I" (.int (1 : Int32))) ∧ h0.size ≤ b ∧ (Arv Z h b k (.object "java/lang/Object") (10 : Int32) [(.ref r), .null, .null, .null, .null, .null, .null, .null, .null, .null] .null) ∧ (Ovr Z k "java/lang/Object") ∧ (Fld Z h a "java/util/AbstractList" "modCount" "I" (.int (1 : Int32)))
set_option maxRecDepth 65536 in
set_option maxHeartbeats 40000000 in
theorem rm_add0 (l : Launch) (Z : State) (a0 : Array Value) (hw : ∀ d ∈ tables_1, d.before a0 Z = true) (ws : List Jvm.Cond) (a : Addr) (r : Addr) (dA : Addr) (dk : ClassId) (h0 : Heap) (n0 : Nat) (O0 : Old Z n0 h0) (u0 : Sta Z Z.heap "java/util/ArrayList" "DEFAULTCAPACITY_EMPTY_ELEMENTDATA" "[Ljava/lang/Object;" (.ref dA)) (u1 : Arv Z Z.heap dA dk (.object "java/lang/Object") (0 : Int32) [] .null) (u2 : Exa Z h0 a "java/util/ArrayList") (u3 : Fld Z h0 a "java/util/ArrayList" "elementData" "[Ljava/lang/Object;" (.ref dA)) (u4 : Fld Z h0 a "java/util/ArrayList" "size" "I" (.int (0 : Int32))) (u5 : n0 ≤ a) (u6 : Exa Z h0 r "java/lang/Integer") (u7 : Fld Z h0 a "java/util/AbstractList" "modCount" "I" (.int (0 : Int32))) :
    MetFree l (⟨"java/util/ArrayList", "add", "(Ljava/lang/Object;)Z"⟩ : MethodName) (head1 (Jvm.Cond.code (⟨"java/util/ArrayList", "add", "(Ljava/lang/Object;)Z"⟩ : MethodName) jdk_38_method_25_code 2 (some .boolean) :: ws) ({ frames := 4, cells := 1, slots := 10, locals := 56 } : Room)) (fun aV U => aV = #[(.ref a), (.ref r)] ∧ Z.Warmed39 U.vm ∧ U.heap = h0) (fun _ _ _ _ _ => True) (fun _ U o U' => ∃ v L, o = .returned v ∧ Q_add0 Z a r dA dk h0 n0 v U'.heap L ∧ FrameEnd U o U' L ({ frames := 4, cells := 1, slots := 10, locals := 56 } : Room).cells ({ frames := 4, cells := 1, slots := 10, locals := 56 } : Room).slots) := by
  refine MetFree.of_bodySF (plainFor_of_name pn_4) hisR ?_
  intro pr_ en_ st_ me_ args below meth_ co_ s₁ Bd hml0 hP hK
  obtain ⟨rfl, hZ, hh⟩ := hP
  have hx := Bd.exec
  have hby := Bd.bytes
  have hml : co_.maxLocals = 2 := hml0
  have hown : st_.vm.findClass "java/util/ArrayList" = some me_.cls := findClass_of_methodNamed Bd.named
  have hnm := (name_of_methodNamed Bd.named Bd.method).1
  have X0 : Stand pr_ l en_ ({ frames := 4, cells := 1, slots := 10, locals := 56 } : Room) st_ me_ #[(.ref a), (.ref r)] below meth_ co_ s₁ [] 0 0 := Stand.of_body Bd
  have e0 : s₁.heap = h0 := by rw [← hh, Bd.state]; rfl
  have N0 := Fr.nil n0
  have K0 := Keep.refl h0 [a]
  obtain ⟨G, gv, gf, gb⟩ := own_G pr_.tables en_ below st_ (Q_add0 Z a r dA dk h0 n0) ({ frames := 4, cells := 1, slots := 10, locals := 56 } : Room).cells ({ frames := 4, cells := 1, slots := 10, locals := 56 } : Room).slots
  show own_Fin pr_.tables en_ below st_ (Q_add0 Z a r dA dk h0 n0) ({ frames := 4, cells := 1, slots := 10, locals := 56 } : Room).cells ({ frames := 4, cells := 1, slots := 10, locals := 56 } : Room).slots (s₁.setTop (entryFrame me_ #[(.ref a), (.ref r)] 2))
  refine gb _ (gv (fun tQ kQ => castTop (ef_6 me_ a r) kQ) ?_)
  show G (s₁.setTop (mkF me_ 0 #[.val (.ref a), .val (.ref r)] []))
  refine gv (fun tQ kQ => XS.aloadN X0.here hx rfl (hb hby d17_0) rfl rfl kQ) ?_
  show G (s₁.setTop (mkF me_ 1 #[.val (.ref a), .val (.ref r)] [(.ref a)]))
  refine gv (fun tQ kQ => XS.dup X0.here hx rfl (hb hby d17_1) rfl rfl kQ) ?_
  show G (s₁.setTop (mkF me_ 2 #[.val (.ref a), .val (.ref r)] [(.ref a), (.ref a)]))
  obtain ⟨T130, X130, e130, st130⟩ := getF X0 hx hZ hown (host := "") (Or.inl (hw _ (List.mem_of_getElem? (i := 96) rfl))) (Via.of (hw _ (List.mem_of_getElem? (i := 97) rfl))) e0 u7 (g := (mkF me_ 2 #[.val (.ref a), .val (.ref r)] [(.ref a), (.ref a)])) rfl rfl (hb hby d17_2)
  refine gv st130 ?_
  show G (T130.setTop (mkF me_ 5 #[.val (.ref a), .val (.ref r)] [(.int (0 : Int32)), (.ref a)]))
  refine gv (fun tQ kQ => XS.iconst X130.here hx rfl (hb hby d17_5) kQ) ?_
  show G (T130.setTop (mkF me_ 6 #[.val (.ref a), .val (.ref r)] [(.int (1 : Int32)), (.int (0 : Int32)), (.ref a)]))
  refine gv (fun tQ kQ => XS.iadd X130.here hx rfl (hb hby d17_6) rfl kQ) ?_
  show G (T130.setTop (mkF me_ 7 #[.val (.ref a), .val (.ref r)] [(.int ((0 : Int32) + (1 : Int32))), (.ref a)]))
  rw [(by decide : ((0 : Int32) + (1 : Int32)) = (1 : Int32))]
  show G (T130.setTop (mkF me_ 7 #[.val (.ref a), .val (.ref r)] [(.int (1 : Int32)), (.ref a)]))
  obtain ⟨T131, h131, X131, e131, W131, st131⟩ := putF X130 hx hZ hown (host := "") (Or.inl (hw _ (List.mem_of_getElem? (i := 96) rfl))) (Via.of (hw _ (List.mem_of_getElem? (i := 97) rfl))) e130 u7 u2 (Or.inl (hw _ (List.mem_of_getElem? (i := 22) rfl))) (hw _ (List.mem_of_getElem? (i := 1) rfl)) (ty := .int) (by decide) rfl rfl (g := (mkF me_ 7 #[.val (.ref a), .val (.ref r)] [(.int (1 : Int32)), (.ref a)])) rfl rfl (hb hby d17_7)
  refine gv st131 ?_
  have f133 : Exa Z h131 a "java/util/ArrayList" := u2.wr W131
  have f134 : Fld Z h131 a "java/util/ArrayList" "elementData" "[Ljava/lang/Object;" (.ref dA) := u3.other W131 (Or.inr (slot_ne (Or.inl (hw _ (List.mem_of_getElem? (i := 25) rfl))) (Or.inl (hw _ (List.mem_of_getElem? (i := 22) rfl))) (by decide) (t := (.array (.object "java/lang/Object"))) (t' := .int) (by decide) (by decide)))
  have f135 : Fld Z h131 a "java/util/ArrayList" "size" "I" (.int (0 : Int32)) := u4.other W131 (Or.inr (slot_ne (Or.inl (hw _ (List.mem_of_getElem? (i := 66) rfl))) (Or.inl (hw _ (List.mem_of_getElem? (i := 22) rfl))) (by decide) (t := .int) (t' := .int) (by decide) (by decide)))
  have f136 : Exa Z h131 r "java/lang/Integer" := u6.wr W131
  have O137 := O0.wr W131 u5
  have K138 := K0.wr W131 (Or.inl (List.mem_of_getElem? (i := 0) rfl))
  have N139 := Fr.snoc X131 N0 u5
  have f132 : Fld Z h131 a "java/util/AbstractList" "modCount" "I" (.int (1 : Int32)) := u7.same W131
  show G (T131.setTop (mkF me_ 10 #[.val (.ref a), .val (.ref r)] []))
  refine gv (fun tQ kQ => XS.aloadN X131.here hx rfl (hb hby d17_10) rfl rfl kQ) ?_
  show G (T131.setTop (mkF me_ 11 #[.val (.ref a), .val (.ref r)] [(.ref a)]))
  refine gv (fun tQ kQ => XS.aloadN X131.here hx rfl (hb hby d17_11) rfl rfl kQ) ?_
  show G (T131.setTop (mkF me_ 12 #[.val (.ref a), .val (.ref r)] [(.ref r), (.ref a)]))
  refine gv (fun tQ kQ => XS.aloadN X131.here hx rfl (hb hby d17_12) rfl rfl kQ) ?_
  show G (T131.setTop (mkF me_ 13 #[.val (.ref a), .val (.ref r)] [(.ref a), (.ref r), (.ref a)]))
  obtain ⟨T140, X140, e140, st140⟩ := getF X131 hx hZ hown (host := "") (Or.inl (hw _ (List.mem_of_getElem? (i := 24) rfl))) Via.refl e131 f134 (g := (mkF me_ 13 #[.val (.ref a), .val (.ref r)] [(.ref a), (.ref r), (.ref a)])) rfl rfl (hb hby d17_13)
  refine gv st140 ?_
  show G (T140.setTop (mkF me_ 16 #[.val (.ref a), .val (.ref r)] [(.ref dA), (.ref r), (.ref a)]))
  refine gv (fun tQ kQ => XS.aloadN X140.here hx rfl (hb hby d17_16) rfl rfl kQ) ?_
  show G (T140.setTop (mkF me_ 17 #[.val (.ref a), .val (.ref r)] [(.ref a), (.ref dA), (.ref r), (.ref a)]))
  obtain ⟨T141, X141, e141, st141⟩ := getF X140 hx hZ hown (host := "") (Or.inl (hw _ (List.mem_of_getElem? (i := 65) rfl))) Via.refl e140 f135 (g := (mkF me_ 17 #[.val (.ref a), .val (.ref r)] [(.ref a), (.ref dA), (.ref r), (.ref a)])) rfl rfl (hb hby d17_17)
  refine gv st141 ?_
  show G (T141.setTop (mkF me_ 20 #[.val (.ref a), .val (.ref r)] [(.int (0 : Int32)), (.ref dA), (.ref r), (.ref a)]))
  obtain ⟨cq142, q142, q142'⟩ := f133.cell
  obtain ⟨_, _, ⟨T142, L142, k142, n142⟩, -, X142, ⟨Lc142, hQ142, l142, y142, z142⟩, st142⟩ := X141.privateBack hx (y := (⟨"java/util/ArrayList", "add", "(Ljava/lang/Object;[Ljava/lang/Object;I)V"⟩ : MethodName)) hown (mvT hZ (hw _ (List.mem_of_getElem? (i := 98) rfl))) (mvT hZ (hw _ (List.mem_of_getElem? (i := 99) rfl))) (mvT hZ (hw _ (List.mem_of_getElem? (i := 101) rfl))) (Cond.privateMethod_at (mvP hZ (hw _ (List.mem_of_getElem? (i := 100) rfl)) (args := #[]))) (mvT hZ (hw _ (List.mem_of_getElem? (i := 102) rfl))) (by decide) (backOf (W := 0) (rm_addh0 l Z a0 hw [] a r dA dk (1 : Int32) h131 n0 O137 u0 u1 f133 f134 f135 u5 f136 f132) hZ (hw _ (List.mem_of_getElem? (i := 102) rfl)) (hw _ (List.mem_of_getElem? (i := 2) rfl)) (by decide) (by decide)) (g := (mkF me_ 20 #[.val (.ref a), .val (.ref r)] [(.int (0 : Int32)), (.ref dA), (.ref r), (.ref a)])) rfl (by rw [hml]; rfl) (Steps.refl _) (a := a) (by rw [e141]; exact q142) q142' (argsL := [(.ref r), (.ref dA), (.int (0 : Int32))]) (rest := []) (lenOf pd_5 rfl) rfl (by show 2 * 0 + _ ≤ _; exact Nat.le_of_eq rfl) (hb hby d17_20) (fun _ _ => ⟨rfl, e141, (by decide : 0 + 1 ≤ _), (by decide : 0 + 10 ≤ _)⟩)
  dsimp only [Pt.U, Pt.locs, Pt.cells, Pt.slots] at X142 l142 y142 z142 st142 hQ142
  subst l142 y142 z142
  obtain ⟨b_142, k_142, rfl, Nq142, Kq142, w142_0, w142_1, w142_2, w142_3, w142_4, w142_5, w142_6⟩ := hQ142
  have N143 := Fr.app N139 Nq142
  obtain ⟨h142, e142⟩ : ∃ z, T142.heap = z := ⟨_, rfl⟩
  rw [e142] at Kq142 w142_0 w142_1 w142_2 w142_4 w142_6
  have ne144 : dA ≠ b_142 := Nat.ne_of_lt (Nat.lt_of_lt_of_le (u1.ext O137.2).lt w142_3)
  have ne145 : a ≠ b_142 := Nat.ne_of_lt (Nat.lt_of_lt_of_le f133.lt w142_3)
  have ne146 : r ≠ b_142 := Nat.ne_of_lt (Nat.lt_of_lt_of_le f136.lt w142_3)
  have g147 : n0 ≤ b_142 := Nat.le_trans (own_old O137) w142_3
  have z148 : h0.size ≤ b_142 := Nat.le_trans K138.1 w142_3
  have f149 : Exa Z h142 a "java/util/ArrayList" := f133.keep Kq142
  have f150 : Exa Z h142 r "java/lang/Integer" := f136.keep Kq142
  have O151 := O137.keep Kq142 (allS u5 all0)
  have K152 := K138.trans Kq142 (allS (Or.inl (List.mem_of_getElem? (i := 0) rfl)) all0)
  refine gv (fun tQ kQ => st142.trans kQ) ?_
  show G (T142.setTop (mkF me_ 23 #[.val (.ref a), .val (.ref r)] []))
  refine gv (fun tQ kQ => XS.iconst X142.here hx rfl (hb hby d17_23) kQ) ?_
  show G (T142.setTop (mkF me_ 24 #[.val (.ref a), .val (.ref r)] [(.int (1 : Int32))]))
  refine gf _ (own_ret X142 Bd.notSynchronized (v := some (.int (1 : Int32))) (fun h => by rw [Bd.returns] at h; cases h) ?_ (by decide) (by decide) (fun fs hr => retN X142 hx (t := .boolean) Bd.returns (by simp) (hb hby d17_24) hr))
  show Q_add0 Z a r dA dk h0 n0 _ T142.heap _
  rw [e142]
  exact ⟨b_142, k_142, rfl, N143, K152, w142_0, w142_1, w142_2, z148, w142_4, w142_5, w142_6⟩
def Q_addh1 (Z : State) (a : Addr) (r : Addr) (b : Addr) (k : ClassId) (r0 : Addr) (mc : Int32) (h0 : Heap) (n0 : Nat) (v : Option Value) (h : Heap) (L : List Loc) : Prop := v = none ∧ Fr n0 L ∧ Keep h0 h [a, b] ∧ (Exa Z h a "java/util/ArrayList") ∧ (Fld Z h a "java/util/ArrayList" "elementData" "[Ljava/lang/Object;" (.ref b)) ∧ (Fld Z h a "java/util/ArrayList" "size" "I" (.int (2 : Int32))) ∧ (Arv Z h b k (.object "java/lang/Object") (10 : Int32) [(.ref r0), (.ref r), .null, .null, .null, .null, .null, .null, .null, .null] .null) ∧ (Fld Z h a "java/util/AbstractList" "modCount" "I" (.int mc))
set_option maxRecDepth 65536 in
set_option maxHeartbeats 40000000 in
theorem rm_addh1 (l : Launch) (Z : State) (a0 : Array Value) (hw : ∀ d ∈ tables_1, d.before a0 Z = true) (ws : List Jvm.Cond) (a : Addr) (r : Addr) (b : Addr) (k : ClassId) (r0 : Addr) (mc : Int32) (h0 : Heap) (n0 : Nat) (O0 : Old Z n0 h0) (u0 : Exa Z h0 a "java/util/ArrayList") (u1 : Fld Z h0 a "java/util/ArrayList" "elementData" "[Ljava/lang/Object;" (.ref b)) (u2 : Fld Z h0 a "java/util/ArrayList" "size" "I" (.int (1 : Int32))) (u3 : n0 ≤ a) (u4 : Arv Z h0 b k (.object "java/lang/Object") (10 : Int32) [(.ref r0), .null, .null, .null, .null, .null, .null, .null, .null, .null] .null) (u5 : n0 ≤ b) (u6 : Ovr Z k "java/lang/Object") (u7 : Exa Z h0 r "java/lang/Integer") (u8 : Fld Z h0 a "java/util/AbstractList" "modCount" "I" (.int mc)) :
    MetFree l (⟨"java/util/ArrayList", "add", "(Ljava/lang/Object;[Ljava/lang/Object;I)V"⟩ : MethodName) (head1 (Jvm.Cond.code (⟨"java/util/ArrayList", "add", "(Ljava/lang/Object;[Ljava/lang/Object;I)V"⟩ : MethodName) jdk_38_method_24_code 4 none :: ws) ({ frames := 0, cells := 0, slots := 0, locals := 0 } : Room)) (fun aV U => aV = #[(.ref a), (.ref r), (.ref b), (.int (1 : Int32))] ∧ Z.Warmed39 U.vm ∧ U.heap = h0) (fun _ _ _ _ _ => True) (fun _ U o U' => ∃ v L, o = .returned v ∧ Q_addh1 Z a r b k r0 mc h0 n0 v U'.heap L ∧ FrameEnd U o U' L ({ frames := 0, cells := 0, slots := 0, locals := 0 } : Room).cells ({ frames := 0, cells := 0, slots := 0, locals := 0 } : Room).slots) := by
  refine MetFree.of_bodySF (plainFor_of_name pn_4) hisR ?_
  intro pr_ en_ st_ me_ args below meth_ co_ s₁ Bd hml0 hP hK
  obtain ⟨rfl, hZ, hh⟩ := hP
  have hx := Bd.exec
  have hby := Bd.bytes
  have hml : co_.maxLocals = 4 := hml0
  have hown : st_.vm.findClass "java/util/ArrayList" = some me_.cls := findClass_of_methodNamed Bd.named
  have hnm := (name_of_methodNamed Bd.named Bd.method).1
  have X0 : Stand pr_ l en_ ({ frames := 0, cells := 0, slots := 0, locals := 0 } : Room) st_ me_ #[(.ref a), (.ref r), (.ref b), (.int (1 : Int32))] below meth_ co_ s₁ [] 0 0 := Stand.of_body Bd
  have e0 : s₁.heap = h0 := by rw [← hh, Bd.state]; rfl
  have N0 := Fr.nil n0
  have K0 := Keep.refl h0 [a, b]
  obtain ⟨G, gv, gf, gb⟩ := own_G pr_.tables en_ below st_ (Q_addh1 Z a r b k r0 mc h0 n0) ({ frames := 0, cells := 0, slots := 0, locals := 0 } : Room).cells ({ frames := 0, cells := 0, slots := 0, locals := 0 } : Room).slots
  show own_Fin pr_.tables en_ below st_ (Q_addh1 Z a r b k r0 mc h0 n0) ({ frames := 0, cells := 0, slots := 0, locals := 0 } : Room).cells ({ frames := 0, cells := 0, slots := 0, locals := 0 } : Room).slots (s₁.setTop (entryFrame me_ #[(.ref a), (.ref r), (.ref b), (.int (1 : Int32))] 4))
  refine gb _ (gv (fun tQ kQ => castTop (ef_5 me_ a r b (1 : Int32)) kQ) ?_)
  show G (s₁.setTop (mkF me_ 0 #[.val (.ref a), .val (.ref r), .val (.ref b), .val (.int (1 : Int32))] []))
  refine gv (fun tQ kQ => XS.iloadN X0.here hx rfl (hb hby d18_0) rfl kQ) ?_
  show G (s₁.setTop (mkF me_ 1 #[.val (.ref a), .val (.ref r), .val (.ref b), .val (.int (1 : Int32))] [(.int (1 : Int32))]))
  refine gv (fun tQ kQ => XS.aloadN X0.here hx rfl (hb hby d18_1) rfl rfl kQ) ?_
  show G (s₁.setTop (mkF me_ 2 #[.val (.ref a), .val (.ref r), .val (.ref b), .val (.int (1 : Int32))] [(.ref b), (.int (1 : Int32))]))
  obtain ⟨cl153, Ar153, -, S153, n153, -, -⟩ := (id u4)
  refine gv (X0.arraylength hx (by rw [e0]; exact Ar153.1) (State.isArrayOf_alike hZ.alike Ar153.2.1) (g := (mkF me_ 2 #[.val (.ref a), .val (.ref r), .val (.ref b), .val (.int (1 : Int32))] [(.ref b), (.int (1 : Int32))])) rfl rfl (hb hby d18_2)) ?_
  rw [len_of S153 n153]
  show G (s₁.setTop (mkF me_ 3 #[.val (.ref a), .val (.ref r), .val (.ref b), .val (.int (1 : Int32))] [(.int (10 : Int32)), (.int (1 : Int32))]))
  refine gv (fun tQ kQ => XS.icmpYes X0.here hx rfl (pc0 := 3) (pc' := 11) rfl (hb hby d18_3) rfl (feq (by decide : ¬ ((1 : Int32) = (10 : Int32)))).2 (by decide) (by decide) kQ) ?_
  show G (s₁.setTop (mkF me_ 11 #[.val (.ref a), .val (.ref r), .val (.ref b), .val (.int (1 : Int32))] []))
  refine gv (fun tQ kQ => XS.aloadN X0.here hx rfl (hb hby d18_11) rfl rfl kQ) ?_
  show G (s₁.setTop (mkF me_ 12 #[.val (.ref a), .val (.ref r), .val (.ref b), .val (.int (1 : Int32))] [(.ref b)]))
  refine gv (fun tQ kQ => XS.iloadN X0.here hx rfl (hb hby d18_12) rfl kQ) ?_
  show G (s₁.setTop (mkF me_ 13 #[.val (.ref a), .val (.ref r), .val (.ref b), .val (.int (1 : Int32))] [(.int (1 : Int32)), (.ref b)]))
  refine gv (fun tQ kQ => XS.aloadN X0.here hx rfl (hb hby d18_13) rfl rfl kQ) ?_
  show G (s₁.setTop (mkF me_ 14 #[.val (.ref a), .val (.ref r), .val (.ref b), .val (.int (1 : Int32))] [(.ref r), (.int (1 : Int32)), (.ref b)]))
  obtain ⟨cl154, Ar154, q154, S154, n154, H154, G154⟩ := (id u4)
  have in154 : ¬ ((1 : Int32) < 0 ∨ cl154.slots.size ≤ ((1 : Int32)).toNatClampNeg) := inb_of S154 ⟨by decide, by decide⟩
  obtain ⟨T154, h154, X154, e154, W154, st154⟩ := stR X0 hx hZ e0 Ar154 (j := (1 : Int32)) in154 rfl (Sto.ofV Ar154 q154 u6 (Ins.of_exa u7 (hw _ (List.mem_of_getElem? (i := 119) rfl)))) (g := (mkF me_ 14 #[.val (.ref a), .val (.ref r), .val (.ref b), .val (.int (1 : Int32))] [(.ref r), (.int (1 : Int32)), (.ref b)])) rfl rfl (hb hby d18_14)
  refine gv st154 ?_
  have f156 : Exa Z h154 a "java/util/ArrayList" := u0.wr W154
  have f157 : Fld Z h154 a "java/util/ArrayList" "elementData" "[Ljava/lang/Object;" (.ref b) := u1.other W154 (Or.inl (own_ne_arv u0 (hw _ (List.mem_of_getElem? (i := 1) rfl)) u4))
  have f158 : Fld Z h154 a "java/util/ArrayList" "size" "I" (.int (1 : Int32)) := u2.other W154 (Or.inl (own_ne_arv u0 (hw _ (List.mem_of_getElem? (i := 1) rfl)) u4))
  have f159 : Exa Z h154 r "java/lang/Integer" := u7.wr W154
  have f160 : Fld Z h154 a "java/util/AbstractList" "modCount" "I" (.int mc) := u8.other W154 (Or.inl (own_ne_arv u0 (hw _ (List.mem_of_getElem? (i := 1) rfl)) u4))
  have O161 := O0.wr W154 u5
  have K162 := K0.wr W154 (Or.inl (List.mem_of_getElem? (i := 1) rfl))
  have N163 := Fr.snoc X154 N0 u5
  have f155 : Arv Z h154 b k (.object "java/lang/Object") (10 : Int32) [(.ref r0), (.ref r), .null, .null, .null, .null, .null, .null, .null, .null] .null := Arv.set Ar154 q154 S154 n154 H154 G154 rfl W154 1 rfl (Nat.le_of_ble_eq_true rfl)
  show G (T154.setTop (mkF me_ 15 #[.val (.ref a), .val (.ref r), .val (.ref b), .val (.int (1 : Int32))] []))
  refine gv (fun tQ kQ => XS.aloadN X154.here hx rfl (hb hby d18_15) rfl rfl kQ) ?_
  show G (T154.setTop (mkF me_ 16 #[.val (.ref a), .val (.ref r), .val (.ref b), .val (.int (1 : Int32))] [(.ref a)]))
  refine gv (fun tQ kQ => XS.iloadN X154.here hx rfl (hb hby d18_16) rfl kQ) ?_
  show G (T154.setTop (mkF me_ 17 #[.val (.ref a), .val (.ref r), .val (.ref b), .val (.int (1 : Int32))] [(.int (1 : Int32)), (.ref a)]))
  refine gv (fun tQ kQ => XS.iconst X154.here hx rfl (hb hby d18_17) kQ) ?_
  show G (T154.setTop (mkF me_ 18 #[.val (.ref a), .val (.ref r), .val (.ref b), .val (.int (1 : Int32))] [(.int (1 : Int32)), (.int (1 : Int32)), (.ref a)]))
  refine gv (fun tQ kQ => XS.iadd X154.here hx rfl (hb hby d18_18) rfl kQ) ?_
  show G (T154.setTop (mkF me_ 19 #[.val (.ref a), .val (.ref r), .val (.ref b), .val (.int (1 : Int32))] [(.int ((1 : Int32) + (1 : Int32))), (.ref a)]))
  rw [(by decide : ((1 : Int32) + (1 : Int32)) = (2 : Int32))]
  show G (T154.setTop (mkF me_ 19 #[.val (.ref a), .val (.ref r), .val (.ref b), .val (.int (1 : Int32))] [(.int (2 : Int32)), (.ref a)]))
  obtain ⟨T164, h164, X164, e164, W164, st164⟩ := putF X154 hx hZ hown (host := "") (Or.inl (hw _ (List.mem_of_getElem? (i := 65) rfl))) Via.refl e154 f158 f156 (Or.inl (hw _ (List.mem_of_getElem? (i := 66) rfl))) (hw _ (List.mem_of_getElem? (i := 1) rfl)) (ty := .int) (by decide) rfl rfl (g := (mkF me_ 19 #[.val (.ref a), .val (.ref r), .val (.ref b), .val (.int (1 : Int32))] [(.int (2 : Int32)), (.ref a)])) rfl rfl (hb hby d18_19)
  refine gv st164 ?_
  have f166 : Exa Z h164 a "java/util/ArrayList" := f156.wr W164
  have f167 : Fld Z h164 a "java/util/ArrayList" "elementData" "[Ljava/lang/Object;" (.ref b) := f157.other W164 (Or.inr (slot_ne (Or.inl (hw _ (List.mem_of_getElem? (i := 25) rfl))) (Or.inl (hw _ (List.mem_of_getElem? (i := 66) rfl))) (by decide) (t := (.array (.object "java/lang/Object"))) (t' := .int) (by decide) (by decide)))
  have f168 : Arv Z h164 b k (.object "java/lang/Object") (10 : Int32) [(.ref r0), (.ref r), .null, .null, .null, .null, .null, .null, .null, .null] .null := f155.other W164 (Ne.symm (own_ne_arv f156 (hw _ (List.mem_of_getElem? (i := 1) rfl)) f155))
  have f169 : Exa Z h164 r "java/lang/Integer" := f159.wr W164
  have f170 : Fld Z h164 a "java/util/AbstractList" "modCount" "I" (.int mc) := f160.other W164 (Or.inr (slot_ne (Or.inl (hw _ (List.mem_of_getElem? (i := 22) rfl))) (Or.inl (hw _ (List.mem_of_getElem? (i := 66) rfl))) (by decide) (t := .int) (t' := .int) (by decide) (by decide)))
  have O171 := O161.wr W164 u3
  have K172 := K162.wr W164 (Or.inl (List.mem_of_getElem? (i := 0) rfl))
  have N173 := Fr.snoc X164 N163 u3
  have f165 : Fld Z h164 a "java/util/ArrayList" "size" "I" (.int (2 : Int32)) := f158.same W164
  show G (T164.setTop (mkF me_ 22 #[.val (.ref a), .val (.ref r), .val (.ref b), .val (.int (1 : Int32))] []))
  refine gf _ (own_ret X164 Bd.notSynchronized (v := none) (fun _ => rfl) ?_ (by decide) (by decide) (fun fs hr => X164.returnOut hx Bd.returns (hb hby d18_22) hr))
  show Q_addh1 Z a r b k r0 mc h0 n0 _ T164.heap _
  rw [e164]
  exact ⟨rfl, N173, K172, f166, f167, f165, f168, f170⟩
def Q_add1 (Z : State) (a : Addr) (r : Addr) (b : Addr) (k : ClassId) (r0 : Addr) (h0 : Heap) (n0 : Nat) (v : Option Value) (h : Heap) (L : List Loc) : Prop := v = some (.int (1 : Int32)) ∧ Fr n0 L ∧ Keep h0 h [a, b] ∧ (Exa Z h a "java/util/ArrayList") ∧ (Fld Z h a "java/util/ArrayList" "elementData" "[Ljava/lang/Object;" (.ref b)) ∧ (Fld Z h a "java/util/ArrayList" "size" "I" (.int (2 : Int32))) ∧ (Arv Z h b k (.object "java/lang/Object") (10 : Int32) [(.ref r0), (.ref r), .null, .null, .null, .null, .null, .null, .null, .null] .null) ∧ (Fld Z h a "java/util/AbstractList" "modCount" "I" (.int (2 : Int32)))
set_option maxRecDepth 65536 in
set_option maxHeartbeats 40000000 in
theorem rm_add1 (l : Launch) (Z : State) (a0 : Array Value) (hw : ∀ d ∈ tables_1, d.before a0 Z = true) (ws : List Jvm.Cond) (a : Addr) (r : Addr) (b : Addr) (k : ClassId) (r0 : Addr) (h0 : Heap) (n0 : Nat) (O0 : Old Z n0 h0) (u0 : Exa Z h0 a "java/util/ArrayList") (u1 : Fld Z h0 a "java/util/ArrayList" "elementData" "[Ljava/lang/Object;" (.ref b)) (u2 : Fld Z h0 a "java/util/ArrayList" "size" "I" (.int (1 : Int32))) (u3 : n0 ≤ a) (u4 : Arv Z h0 b k (.object "java/lang/Object") (10 : Int32) [(.ref r0), .null, .null, .null, .null, .null, .null, .null, .null, .null] .null) (u5 : n0 ≤ b) (u6 : Ovr Z k "java/lang/Object") (u7 : Exa Z h0 r "java/lang/Integer") (u8 : Fld Z h0 a "java/util/AbstractList" "modCount" "I" (.int (1 : Int32))) :
    MetFree l (⟨"java/util/ArrayList", "add", "(Ljava/lang/Object;)Z"⟩ : MethodName) (head1 (Jvm.Cond.code (⟨"java/util/ArrayList", "add", "(Ljava/lang/Object;)Z"⟩ : MethodName) jdk_38_method_25_code 2 (some .boolean) :: ws) ({ frames := 1, cells := 0, slots := 0, locals := 15 } : Room)) (fun aV U => aV = #[(.ref a), (.ref r)] ∧ Z.Warmed39 U.vm ∧ U.heap = h0) (fun _ _ _ _ _ => True) (fun _ U o U' => ∃ v L, o = .returned v ∧ Q_add1 Z a r b k r0 h0 n0 v U'.heap L ∧ FrameEnd U o U' L ({ frames := 1, cells := 0, slots := 0, locals := 15 } : Room).cells ({ frames := 1, cells := 0, slots := 0, locals := 15 } : Room).slots) := by
  refine MetFree.of_bodySF (plainFor_of_name pn_4) hisR ?_
  intro pr_ en_ st_ me_ args below meth_ co_ s₁ Bd hml0 hP hK
  obtain ⟨rfl, hZ, hh⟩ := hP
  have hx := Bd.exec
  have hby := Bd.bytes
  have hml : co_.maxLocals = 2 := hml0
  have hown : st_.vm.findClass "java/util/ArrayList" = some me_.cls := findClass_of_methodNamed Bd.named
  have hnm := (name_of_methodNamed Bd.named Bd.method).1
  have X0 : Stand pr_ l en_ ({ frames := 1, cells := 0, slots := 0, locals := 15 } : Room) st_ me_ #[(.ref a), (.ref r)] below meth_ co_ s₁ [] 0 0 := Stand.of_body Bd
  have e0 : s₁.heap = h0 := by rw [← hh, Bd.state]; rfl
  have N0 := Fr.nil n0
  have K0 := Keep.refl h0 [a, b]
  obtain ⟨G, gv, gf, gb⟩ := own_G pr_.tables en_ below st_ (Q_add1 Z a r b k r0 h0 n0) ({ frames := 1, cells := 0, slots := 0, locals := 15 } : Room).cells ({ frames := 1, cells := 0, slots := 0, locals := 15 } : Room).slots
  show own_Fin pr_.tables en_ below st_ (Q_add1 Z a r b k r0 h0 n0) ({ frames := 1, cells := 0, slots := 0, locals := 15 } : Room).cells ({ frames := 1, cells := 0, slots := 0, locals := 15 } : Room).slots (s₁.setTop (entryFrame me_ #[(.ref a), (.ref r)] 2))
  refine gb _ (gv (fun tQ kQ => castTop (ef_6 me_ a r) kQ) ?_)
  show G (s₁.setTop (mkF me_ 0 #[.val (.ref a), .val (.ref r)] []))
  refine gv (fun tQ kQ => XS.aloadN X0.here hx rfl (hb hby d17_0) rfl rfl kQ) ?_
  show G (s₁.setTop (mkF me_ 1 #[.val (.ref a), .val (.ref r)] [(.ref a)]))
  refine gv (fun tQ kQ => XS.dup X0.here hx rfl (hb hby d17_1) rfl rfl kQ) ?_
  show G (s₁.setTop (mkF me_ 2 #[.val (.ref a), .val (.ref r)] [(.ref a), (.ref a)]))
  obtain ⟨T174, X174, e174, st174⟩ := getF X0 hx hZ hown (host := "") (Or.inl (hw _ (List.mem_of_getElem? (i := 96) rfl))) (Via.of (hw _ (List.mem_of_getElem? (i := 97) rfl))) e0 u8 (g := (mkF me_ 2 #[.val (.ref a), .val (.ref r)] [(.ref a), (.ref a)])) rfl rfl (hb hby d17_2)
  refine gv st174 ?_
  show G (T174.setTop (mkF me_ 5 #[.val (.ref a), .val (.ref r)] [(.int (1 : Int32)), (.ref a)]))
  refine gv (fun tQ kQ => XS.iconst X174.here hx rfl (hb hby d17_5) kQ) ?_
  show G (T174.setTop (mkF me_ 6 #[.val (.ref a), .val (.ref r)] [(.int (1 : Int32)), (.int (1 : Int32)), (.ref a)]))
  refine gv (fun tQ kQ => XS.iadd X174.here hx rfl (hb hby d17_6) rfl kQ) ?_
  show G (T174.setTop (mkF me_ 7 #[.val (.ref a), .val (.ref r)] [(.int ((1 : Int32) + (1 : Int32))), (.ref a)]))
  rw [(by decide : ((1 : Int32) + (1 : Int32)) = (2 : Int32))]
  show G (T174.setTop (mkF me_ 7 #[.val (.ref a), .val (.ref r)] [(.int (2 : Int32)), (.ref a)]))
  obtain ⟨T175, h175, X175, e175, W175, st175⟩ := putF X174 hx hZ hown (host := "") (Or.inl (hw _ (List.mem_of_getElem? (i := 96) rfl))) (Via.of (hw _ (List.mem_of_getElem? (i := 97) rfl))) e174 u8 u0 (Or.inl (hw _ (List.mem_of_getElem? (i := 22) rfl))) (hw _ (List.mem_of_getElem? (i := 1) rfl)) (ty := .int) (by decide) rfl rfl (g := (mkF me_ 7 #[.val (.ref a), .val (.ref r)] [(.int (2 : Int32)), (.ref a)])) rfl rfl (hb hby d17_7)
  refine gv st175 ?_
  have f177 : Exa Z h175 a "java/util/ArrayList" := u0.wr W175
  have f178 : Fld Z h175 a "java/util/ArrayList" "elementData" "[Ljava/lang/Object;" (.ref b) := u1.other W175 (Or.inr (slot_ne (Or.inl (hw _ (List.mem_of_getElem? (i := 25) rfl))) (Or.inl (hw _ (List.mem_of_getElem? (i := 22) rfl))) (by decide) (t := (.array (.object "java/lang/Object"))) (t' := .int) (by decide) (by decide)))
  have f179 : Fld Z h175 a "java/util/ArrayList" "size" "I" (.int (1 : Int32)) := u2.other W175 (Or.inr (slot_ne (Or.inl (hw _ (List.mem_of_getElem? (i := 66) rfl))) (Or.inl (hw _ (List.mem_of_getElem? (i := 22) rfl))) (by decide) (t := .int) (t' := .int) (by decide) (by decide)))
  have f180 : Arv Z h175 b k (.object "java/lang/Object") (10 : Int32) [(.ref r0), .null, .null, .null, .null, .null, .null, .null, .null, .null] .null := u4.other W175 (Ne.symm (own_ne_arv u0 (hw _ (List.mem_of_getElem? (i := 1) rfl)) u4))
  have f181 : Exa Z h175 r "java/lang/Integer" := u7.wr W175
  have O182 := O0.wr W175 u3
  have K183 := K0.wr W175 (Or.inl (List.mem_of_getElem? (i := 0) rfl))
  have N184 := Fr.snoc X175 N0 u3
  have f176 : Fld Z h175 a "java/util/AbstractList" "modCount" "I" (.int (2 : Int32)) := u8.same W175
  show G (T175.setTop (mkF me_ 10 #[.val (.ref a), .val (.ref r)] []))
  refine gv (fun tQ kQ => XS.aloadN X175.here hx rfl (hb hby d17_10) rfl rfl kQ) ?_
  show G (T175.setTop (mkF me_ 11 #[.val (.ref a), .val (.ref r)] [(.ref a)]))
  refine gv (fun tQ kQ => XS.aloadN X175.here hx rfl (hb hby d17_11) rfl rfl kQ) ?_
  show G (T175.setTop (mkF me_ 12 #[.val (.ref a), .val (.ref r)] [(.ref r), (.ref a)]))
  refine gv (fun tQ kQ => XS.aloadN X175.here hx rfl (hb hby d17_12) rfl rfl kQ) ?_
  show G (T175.setTop (mkF me_ 13 #[.val (.ref a), .val (.ref r)] [(.ref a), (.ref r), (.ref a)]))
  obtain ⟨T185, X185, e185, st185⟩ := getF X175 hx hZ hown (host := "") (Or.inl (hw _ (List.mem_of_getElem? (i := 24) rfl))) Via.refl e175 f178 (g := (mkF me_ 13 #[.val (.ref a), .val (.ref r)] [(.ref a), (.ref r), (.ref a)])) rfl rfl (hb hby d17_13)
  refine gv st185 ?_
  show G (T185.setTop (mkF me_ 16 #[.val (.ref a), .val (.ref r)] [(.ref b), (.ref r), (.ref a)]))
  refine gv (fun tQ kQ => XS.aloadN X185.here hx rfl (hb hby d17_16) rfl rfl kQ) ?_
  show G (T185.setTop (mkF me_ 17 #[.val (.ref a), .val (.ref r)] [(.ref a), (.ref b), (.ref r), (.ref a)]))
  obtain ⟨T186, X186, e186, st186⟩ := getF X185 hx hZ hown (host := "") (Or.inl (hw _ (List.mem_of_getElem? (i := 65) rfl))) Via.refl e185 f179 (g := (mkF me_ 17 #[.val (.ref a), .val (.ref r)] [(.ref a), (.ref b), (.ref r), (.ref a)])) rfl rfl (hb hby d17_17)
  refine gv st186 ?_
  show G (T186.setTop (mkF me_ 20 #[.val (.ref a), .val (.ref r)] [(.int (1 : Int32)), (.ref b), (.ref r), (.ref a)]))
  obtain ⟨cq187, q187, q187'⟩ := f177.cell
  obtain ⟨_, _, ⟨T187, L187, k187, n187⟩, -, X187, ⟨Lc187, hQ187, l187, y187, z187⟩, st187⟩ := X186.privateBack hx (y := (⟨"java/util/ArrayList", "add", "(Ljava/lang/Object;[Ljava/lang/Object;I)V"⟩ : MethodName)) hown (mvT hZ (hw _ (List.mem_of_getElem? (i := 98) rfl))) (mvT hZ (hw _ (List.mem_of_getElem? (i := 99) rfl))) (mvT hZ (hw _ (List.mem_of_getElem? (i := 101) rfl))) (Cond.privateMethod_at (mvP hZ (hw _ (List.mem_of_getElem? (i := 100) rfl)) (args := #[]))) (mvT hZ (hw _ (List.mem_of_getElem? (i := 102) rfl))) (by decide) (backOf (W := 0) (rm_addh1 l Z a0 hw [] a r b k r0 (2 : Int32) h175 n0 O182 f177 f178 f179 u3 f180 u5 u6 f181 f176) hZ (hw _ (List.mem_of_getElem? (i := 102) rfl)) (hw _ (List.mem_of_getElem? (i := 2) rfl)) (by decide) (by decide)) (g := (mkF me_ 20 #[.val (.ref a), .val (.ref r)] [(.int (1 : Int32)), (.ref b), (.ref r), (.ref a)])) rfl (by rw [hml]; rfl) (Steps.refl _) (a := a) (by rw [e186]; exact q187) q187' (argsL := [(.ref r), (.ref b), (.int (1 : Int32))]) (rest := []) (lenOf pd_5 rfl) rfl (by show 2 * 0 + _ ≤ _; exact Nat.le_of_eq rfl) (hb hby d17_20) (fun _ _ => ⟨rfl, e186, (by decide : 0 + 0 ≤ _), (by decide : 0 + 0 ≤ _)⟩)
  dsimp only [Pt.U, Pt.locs, Pt.cells, Pt.slots] at X187 l187 y187 z187 st187 hQ187
  subst l187 y187 z187
  obtain ⟨rfl, Nq187, Kq187, w187_0, w187_1, w187_2, w187_3, w187_4⟩ := hQ187
  have N188 := Fr.app N184 Nq187
  obtain ⟨h187, e187⟩ : ∃ z, T187.heap = z := ⟨_, rfl⟩
  rw [e187] at Kq187 w187_0 w187_1 w187_2 w187_3 w187_4
  have f189 : Exa Z h187 a "java/util/ArrayList" := f177.keep Kq187
  have f190 : Exa Z h187 r "java/lang/Integer" := f181.keep Kq187
  have O191 := O182.keep Kq187 (allS u3 (allS u5 all0))
  have K192 := K183.trans Kq187 (allS (Or.inl (List.mem_of_getElem? (i := 0) rfl)) (allS (Or.inl (List.mem_of_getElem? (i := 1) rfl)) all0))
  refine gv (fun tQ kQ => st187.trans kQ) ?_
  show G (T187.setTop (mkF me_ 23 #[.val (.ref a), .val (.ref r)] []))
  refine gv (fun tQ kQ => XS.iconst X187.here hx rfl (hb hby d17_23) kQ) ?_
  show G (T187.setTop (mkF me_ 24 #[.val (.ref a), .val (.ref r)] [(.int (1 : Int32))]))
  refine gf _ (own_ret X187 Bd.notSynchronized (v := some (.int (1 : Int32))) (fun h => by rw [Bd.returns] at h; cases h) ?_ (by decide) (by decide) (fun fs hr => retN X187 hx (t := .boolean) Bd.returns (by simp) (hb hby d17_24) hr))
  show Q_add1 Z a r b k r0 h0 n0 _ T187.heap _
  rw [e187]
  exact ⟨rfl, N188, K192, w187_0, w187_1, w187_2, w187_3, w187_4⟩
def Q_addh2 (Z : State) (a : Addr) (r : Addr) (b : Addr) (k : ClassId) (r0 : Addr) (r1 : Addr) (mc : Int32) (h0 : Heap) (n0 : Nat) (v : Option Value) (h : Heap) (L : List Loc) : Prop := v = none ∧ Fr n0 L ∧ Keep h0 h [a, b] ∧ (Exa Z h a "java/util/ArrayList") ∧ (Fld Z h a "java/util/ArrayList" "elementData" "[Ljava/lang/Object;" (.ref b)) ∧ (Fld Z h a "java/util/ArrayList" "size" "I" (.int (3 : Int32))) ∧ (Arv Z h b k (.object "java/lang/Object") (10 : Int32) [(.ref r0), (.ref r1), (.ref r), .null, .null, .null, .null, .null, .null, .null] .null) ∧ (Fld Z h a "java/util/AbstractList" "modCount" "I" (.int mc))
set_option maxRecDepth 65536 in
set_option maxHeartbeats 40000000 in
theorem rm_addh2 (l : Launch) (Z : State) (a0 : Array Value) (hw : ∀ d ∈ tables_1, d.before a0 Z = true) (ws : List Jvm.Cond) (a : Addr) (r : Addr) (b : Addr) (k : ClassId) (r0 : Addr) (r1 : Addr) (mc : Int32) (h0 : Heap) (n0 : Nat) (O0 : Old Z n0 h0) (u0 : Exa Z h0 a "java/util/ArrayList") (u1 : Fld Z h0 a "java/util/ArrayList" "elementData" "[Ljava/lang/Object;" (.ref b)) (u2 : Fld Z h0 a "java/util/ArrayList" "size" "I" (.int (2 : Int32))) (u3 : n0 ≤ a) (u4 : Arv Z h0 b k (.object "java/lang/Object") (10 : Int32) [(.ref r0), (.ref r1), .null, .null, .null, .null, .null, .null, .null, .null] .null) (u5 : n0 ≤ b) (u6 : Ovr Z k "java/lang/Object") (u7 : Exa Z h0 r "java/lang/Integer") (u8 : Fld Z h0 a "java/util/AbstractList" "modCount" "I" (.int mc)) :
    MetFree l (⟨"java/util/ArrayList", "add", "(Ljava/lang/Object;[Ljava/lang/Object;I)V"⟩ : MethodName) (head1 (Jvm.Cond.code (⟨"java/util/ArrayList", "add", "(Ljava/lang/Object;[Ljava/lang/Object;I)V"⟩ : MethodName) jdk_38_method_24_code 4 none :: ws) ({ frames := 0, cells := 0, slots := 0, locals := 0 } : Room)) (fun aV U => aV = #[(.ref a), (.ref r), (.ref b), (.int (2 : Int32))] ∧ Z.Warmed39 U.vm ∧ U.heap = h0) (fun _ _ _ _ _ => True) (fun _ U o U' => ∃ v L, o = .returned v ∧ Q_addh2 Z a r b k r0 r1 mc h0 n0 v U'.heap L ∧ FrameEnd U o U' L ({ frames := 0, cells := 0, slots := 0, locals := 0 } : Room).cells ({ frames := 0, cells := 0, slots := 0, locals := 0 } : Room).slots) := by
  refine MetFree.of_bodySF (plainFor_of_name pn_4) hisR ?_
  intro pr_ en_ st_ me_ args below meth_ co_ s₁ Bd hml0 hP hK
  obtain ⟨rfl, hZ, hh⟩ := hP
  have hx := Bd.exec
  have hby := Bd.bytes
  have hml : co_.maxLocals = 4 := hml0
  have hown : st_.vm.findClass "java/util/ArrayList" = some me_.cls := findClass_of_methodNamed Bd.named
  have hnm := (name_of_methodNamed Bd.named Bd.method).1
  have X0 : Stand pr_ l en_ ({ frames := 0, cells := 0, slots := 0, locals := 0 } : Room) st_ me_ #[(.ref a), (.ref r), (.ref b), (.int (2 : Int32))] below meth_ co_ s₁ [] 0 0 := Stand.of_body Bd
  have e0 : s₁.heap = h0 := by rw [← hh, Bd.state]; rfl
  have N0 := Fr.nil n0
  have K0 := Keep.refl h0 [a, b]
  obtain ⟨G, gv, gf, gb⟩ := own_G pr_.tables en_ below st_ (Q_addh2 Z a r b k r0 r1 mc h0 n0) ({ frames := 0, cells := 0, slots := 0, locals := 0 } : Room).cells ({ frames := 0, cells := 0, slots := 0, locals := 0 } : Room).slots
  show own_Fin pr_.tables en_ below st_ (Q_addh2 Z a r b k r0 r1 mc h0 n0) ({ frames := 0, cells := 0, slots := 0, locals := 0 } : Room).cells ({ frames := 0, cells := 0, slots := 0, locals := 0 } : Room).slots (s₁.setTop (entryFrame me_ #[(.ref a), (.ref r), (.ref b), (.int (2 : Int32))] 4))
  refine gb _ (gv (fun tQ kQ => castTop (ef_5 me_ a r b (2 : Int32)) kQ) ?_)
  show G (s₁.setTop (mkF me_ 0 #[.val (.ref a), .val (.ref r), .val (.ref b), .val (.int (2 : Int32))] []))
  refine gv (fun tQ kQ => XS.iloadN X0.here hx rfl (hb hby d18_0) rfl kQ) ?_
  show G (s₁.setTop (mkF me_ 1 #[.val (.ref a), .val (.ref r), .val (.ref b), .val (.int (2 : Int32))] [(.int (2 : Int32))]))
  refine gv (fun tQ kQ => XS.aloadN X0.here hx rfl (hb hby d18_1) rfl rfl kQ) ?_
  show G (s₁.setTop (mkF me_ 2 #[.val (.ref a), .val (.ref r), .val (.ref b), .val (.int (2 : Int32))] [(.ref b), (.int (2 : Int32))]))
  obtain ⟨cl193, Ar193, -, S193, n193, -, -⟩ := (id u4)
  refine gv (X0.arraylength hx (by rw [e0]; exact Ar193.1) (State.isArrayOf_alike hZ.alike Ar193.2.1) (g := (mkF me_ 2 #[.val (.ref a), .val (.ref r), .val (.ref b), .val (.int (2 : Int32))] [(.ref b), (.int (2 : Int32))])) rfl rfl (hb hby d18_2)) ?_
  rw [len_of S193 n193]
  show G (s₁.setTop (mkF me_ 3 #[.val (.ref a), .val (.ref r), .val (.ref b), .val (.int (2 : Int32))] [(.int (10 : Int32)), (.int (2 : Int32))]))
  refine gv (fun tQ kQ => XS.icmpYes X0.here hx rfl (pc0 := 3) (pc' := 11) rfl (hb hby d18_3) rfl (feq (by decide : ¬ ((2 : Int32) = (10 : Int32)))).2 (by decide) (by decide) kQ) ?_
  show G (s₁.setTop (mkF me_ 11 #[.val (.ref a), .val (.ref r), .val (.ref b), .val (.int (2 : Int32))] []))
  refine gv (fun tQ kQ => XS.aloadN X0.here hx rfl (hb hby d18_11) rfl rfl kQ) ?_
  show G (s₁.setTop (mkF me_ 12 #[.val (.ref a), .val (.ref r), .val (.ref b), .val (.int (2 : Int32))] [(.ref b)]))
  refine gv (fun tQ kQ => XS.iloadN X0.here hx rfl (hb hby d18_12) rfl kQ) ?_
  show G (s₁.setTop (mkF me_ 13 #[.val (.ref a), .val (.ref r), .val (.ref b), .val (.int (2 : Int32))] [(.int (2 : Int32)), (.ref b)]))
  refine gv (fun tQ kQ => XS.aloadN X0.here hx rfl (hb hby d18_13) rfl rfl kQ) ?_
  show G (s₁.setTop (mkF me_ 14 #[.val (.ref a), .val (.ref r), .val (.ref b), .val (.int (2 : Int32))] [(.ref r), (.int (2 : Int32)), (.ref b)]))
  obtain ⟨cl194, Ar194, q194, S194, n194, H194, G194⟩ := (id u4)
  have in194 : ¬ ((2 : Int32) < 0 ∨ cl194.slots.size ≤ ((2 : Int32)).toNatClampNeg) := inb_of S194 ⟨by decide, by decide⟩
  obtain ⟨T194, h194, X194, e194, W194, st194⟩ := stR X0 hx hZ e0 Ar194 (j := (2 : Int32)) in194 rfl (Sto.ofV Ar194 q194 u6 (Ins.of_exa u7 (hw _ (List.mem_of_getElem? (i := 119) rfl)))) (g := (mkF me_ 14 #[.val (.ref a), .val (.ref r), .val (.ref b), .val (.int (2 : Int32))] [(.ref r), (.int (2 : Int32)), (.ref b)])) rfl rfl (hb hby d18_14)
  refine gv st194 ?_
  have f196 : Exa Z h194 a "java/util/ArrayList" := u0.wr W194
  have f197 : Fld Z h194 a "java/util/ArrayList" "elementData" "[Ljava/lang/Object;" (.ref b) := u1.other W194 (Or.inl (own_ne_arv u0 (hw _ (List.mem_of_getElem? (i := 1) rfl)) u4))
  have f198 : Fld Z h194 a "java/util/ArrayList" "size" "I" (.int (2 : Int32)) := u2.other W194 (Or.inl (own_ne_arv u0 (hw _ (List.mem_of_getElem? (i := 1) rfl)) u4))
  have f199 : Exa Z h194 r "java/lang/Integer" := u7.wr W194
  have f200 : Fld Z h194 a "java/util/AbstractList" "modCount" "I" (.int mc) := u8.other W194 (Or.inl (own_ne_arv u0 (hw _ (List.mem_of_getElem? (i := 1) rfl)) u4))
  have O201 := O0.wr W194 u5
  have K202 := K0.wr W194 (Or.inl (List.mem_of_getElem? (i := 1) rfl))
  have N203 := Fr.snoc X194 N0 u5
  have f195 : Arv Z h194 b k (.object "java/lang/Object") (10 : Int32) [(.ref r0), (.ref r1), (.ref r), .null, .null, .null, .null, .null, .null, .null] .null := Arv.set Ar194 q194 S194 n194 H194 G194 rfl W194 2 rfl (Nat.le_of_ble_eq_true rfl)
  show G (T194.setTop (mkF me_ 15 #[.val (.ref a), .val (.ref r), .val (.ref b), .val (.int (2 : Int32))] []))
  refine gv (fun tQ kQ => XS.aloadN X194.here hx rfl (hb hby d18_15) rfl rfl kQ) ?_
  show G (T194.setTop (mkF me_ 16 #[.val (.ref a), .val (.ref r), .val (.ref b), .val (.int (2 : Int32))] [(.ref a)]))
  refine gv (fun tQ kQ => XS.iloadN X194.here hx rfl (hb hby d18_16) rfl kQ) ?_
  show G (T194.setTop (mkF me_ 17 #[.val (.ref a), .val (.ref r), .val (.ref b), .val (.int (2 : Int32))] [(.int (2 : Int32)), (.ref a)]))
  refine gv (fun tQ kQ => XS.iconst X194.here hx rfl (hb hby d18_17) kQ) ?_
  show G (T194.setTop (mkF me_ 18 #[.val (.ref a), .val (.ref r), .val (.ref b), .val (.int (2 : Int32))] [(.int (1 : Int32)), (.int (2 : Int32)), (.ref a)]))
  refine gv (fun tQ kQ => XS.iadd X194.here hx rfl (hb hby d18_18) rfl kQ) ?_
  show G (T194.setTop (mkF me_ 19 #[.val (.ref a), .val (.ref r), .val (.ref b), .val (.int (2 : Int32))] [(.int ((2 : Int32) + (1 : Int32))), (.ref a)]))
  rw [(by decide : ((2 : Int32) + (1 : Int32)) = (3 : Int32))]
  show G (T194.setTop (mkF me_ 19 #[.val (.ref a), .val (.ref r), .val (.ref b), .val (.int (2 : Int32))] [(.int (3 : Int32)), (.ref a)]))
  obtain ⟨T204, h204, X204, e204, W204, st204⟩ := putF X194 hx hZ hown (host := "") (Or.inl (hw _ (List.mem_of_getElem? (i := 65) rfl))) Via.refl e194 f198 f196 (Or.inl (hw _ (List.mem_of_getElem? (i := 66) rfl))) (hw _ (List.mem_of_getElem? (i := 1) rfl)) (ty := .int) (by decide) rfl rfl (g := (mkF me_ 19 #[.val (.ref a), .val (.ref r), .val (.ref b), .val (.int (2 : Int32))] [(.int (3 : Int32)), (.ref a)])) rfl rfl (hb hby d18_19)
  refine gv st204 ?_
  have f206 : Exa Z h204 a "java/util/ArrayList" := f196.wr W204
  have f207 : Fld Z h204 a "java/util/ArrayList" "elementData" "[Ljava/lang/Object;" (.ref b) := f197.other W204 (Or.inr (slot_ne (Or.inl (hw _ (List.mem_of_getElem? (i := 25) rfl))) (Or.inl (hw _ (List.mem_of_getElem? (i := 66) rfl))) (by decide) (t := (.array (.object "java/lang/Object"))) (t' := .int) (by decide) (by decide)))
  have f208 : Arv Z h204 b k (.object "java/lang/Object") (10 : Int32) [(.ref r0), (.ref r1), (.ref r), .null, .null, .null, .null, .null, .null, .null] .null := f195.other W204 (Ne.symm (own_ne_arv f196 (hw _ (List.mem_of_getElem? (i := 1) rfl)) f195))
  have f209 : Exa Z h204 r "java/lang/Integer" := f199.wr W204
  have f210 : Fld Z h204 a "java/util/AbstractList" "modCount" "I" (.int mc) := f200.other W204 (Or.inr (slot_ne (Or.inl (hw _ (List.mem_of_getElem? (i := 22) rfl))) (Or.inl (hw _ (List.mem_of_getElem? (i := 66) rfl))) (by decide) (t := .int) (t' := .int) (by decide) (by decide)))
  have O211 := O201.wr W204 u3
  have K212 := K202.wr W204 (Or.inl (List.mem_of_getElem? (i := 0) rfl))
  have N213 := Fr.snoc X204 N203 u3
  have f205 : Fld Z h204 a "java/util/ArrayList" "size" "I" (.int (3 : Int32)) := f198.same W204
  show G (T204.setTop (mkF me_ 22 #[.val (.ref a), .val (.ref r), .val (.ref b), .val (.int (2 : Int32))] []))
  refine gf _ (own_ret X204 Bd.notSynchronized (v := none) (fun _ => rfl) ?_ (by decide) (by decide) (fun fs hr => X204.returnOut hx Bd.returns (hb hby d18_22) hr))
  show Q_addh2 Z a r b k r0 r1 mc h0 n0 _ T204.heap _
  rw [e204]
  exact ⟨rfl, N213, K212, f206, f207, f205, f208, f210⟩
def Q_add2 (Z : State) (a : Addr) (r : Addr) (b : Addr) (k : ClassId) (r0 : Addr) (r1 : Addr) (h0 : Heap) (n0 : Nat) (v : Option Value) (h : Heap) (L : List Loc) : Prop := v = some (.int (1 : Int32)) ∧ Fr n0 L ∧ Keep h0 h [a, b] ∧ (Exa Z h a "java/util/ArrayList") ∧ (Fld Z h a "java/util/ArrayList" "elementData" "[Ljava/lang/Object;" (.ref b)) ∧ (Fld Z h a "java/util/ArrayList" "size" "I" (.int (3 : Int32))) ∧ (Arv Z h b k (.object "java/lang/Object") (10 : Int32) [(.ref r0), (.ref r1), (.ref r), .null, .null, .null, .null, .null, .null, .null] .null) ∧ (Fld Z h a "java/util/AbstractList" "modCount" "I" (.int (3 : Int32)))
set_option maxRecDepth 65536 in
set_option maxHeartbeats 40000000 in
theorem rm_add2 (l : Launch) (Z : State) (a0 : Array Value) (hw : ∀ d ∈ tables_1, d.before a0 Z = true) (ws : List Jvm.Cond) (a : Addr) (r : Addr) (b : Addr) (k : ClassId) (r0 : Addr) (r1 : Addr) (h0 : Heap) (n0 : Nat) (O0 : Old Z n0 h0) (u0 : Exa Z h0 a "java/util/ArrayList") (u1 : Fld Z h0 a "java/util/ArrayList" "elementData" "[Ljava/lang/Object;" (.ref b)) (u2 : Fld Z h0 a "java/util/ArrayList" "size" "I" (.int (2 : Int32))) (u3 : n0 ≤ a) (u4 : Arv Z h0 b k (.object "java/lang/Object") (10 : Int32) [(.ref r0), (.ref r1), .null, .null, .null, .null, .null, .null, .null, .null] .null) (u5 : n0 ≤ b) (u6 : Ovr Z k "java/lang/Object") (u7 : Exa Z h0 r "java/lang/Integer") (u8 : Fld Z h0 a "java/util/AbstractList" "modCount" "I" (.int (2 : Int32))) :
    MetFree l (⟨"java/util/ArrayList", "add", "(Ljava/lang/Object;)Z"⟩ : MethodName) (head1 (Jvm.Cond.code (⟨"java/util/ArrayList", "add", "(Ljava/lang/Object;)Z"⟩ : MethodName) jdk_38_method_25_code 2 (some .boolean) :: ws) ({ frames := 1, cells := 0, slots := 0, locals := 15 } : Room)) (fun aV U => aV = #[(.ref a), (.ref r)] ∧ Z.Warmed39 U.vm ∧ U.heap = h0) (fun _ _ _ _ _ => True) (fun _ U o U' => ∃ v L, o = .returned v ∧ Q_add2 Z a r b k r0 r1 h0 n0 v U'.heap L ∧ FrameEnd U o U' L ({ frames := 1, cells := 0, slots := 0, locals := 15 } : Room).cells ({ frames := 1, cells := 0, slots := 0, locals := 15 } : Room).slots) := by
  refine MetFree.of_bodySF (plainFor_of_name pn_4) hisR ?_
  intro pr_ en_ st_ me_ args below meth_ co_ s₁ Bd hml0 hP hK
  obtain ⟨rfl, hZ, hh⟩ := hP
  have hx := Bd.exec
  have hby := Bd.bytes
  have hml : co_.maxLocals = 2 := hml0
  have hown : st_.vm.findClass "java/util/ArrayList" = some me_.cls := findClass_of_methodNamed Bd.named
  have hnm := (name_of_methodNamed Bd.named Bd.method).1
  have X0 : Stand pr_ l en_ ({ frames := 1, cells := 0, slots := 0, locals := 15 } : Room) st_ me_ #[(.ref a), (.ref r)] below meth_ co_ s₁ [] 0 0 := Stand.of_body Bd
  have e0 : s₁.heap = h0 := by rw [← hh, Bd.state]; rfl
  have N0 := Fr.nil n0
  have K0 := Keep.refl h0 [a, b]
  obtain ⟨G, gv, gf, gb⟩ := own_G pr_.tables en_ below st_ (Q_add2 Z a r b k r0 r1 h0 n0) ({ frames := 1, cells := 0, slots := 0, locals := 15 } : Room).cells ({ frames := 1, cells := 0, slots := 0, locals := 15 } : Room).slots
  show own_Fin pr_.tables en_ below st_ (Q_add2 Z a r b k r0 r1 h0 n0) ({ frames := 1, cells := 0, slots := 0, locals := 15 } : Room).cells ({ frames := 1, cells := 0, slots := 0, locals := 15 } : Room).slots (s₁.setTop (entryFrame me_ #[(.ref a), (.ref r)] 2))
  refine gb _ (gv (fun tQ kQ => castTop (ef_6 me_ a r) kQ) ?_)
  show G (s₁.setTop (mkF me_ 0 #[.val (.ref a), .val (.ref r)] []))
  refine gv (fun tQ kQ => XS.aloadN X0.here hx rfl (hb hby d17_0) rfl rfl kQ) ?_
  show G (s₁.setTop (mkF me_ 1 #[.val (.ref a), .val (.ref r)] [(.ref a)]))
  refine gv (fun tQ kQ => XS.dup X0.here hx rfl (hb hby d17_1) rfl rfl kQ) ?_
  show G (s₁.setTop (mkF me_ 2 #[.val (.ref a), .val (.ref r)] [(.ref a), (.ref a)]))
  obtain ⟨T214, X214, e214, st214⟩ := getF X0 hx hZ hown (host := "") (Or.inl (hw _ (List.mem_of_getElem? (i := 96) rfl))) (Via.of (hw _ (List.mem_of_getElem? (i := 97) rfl))) e0 u8 (g := (mkF me_ 2 #[.val (.ref a), .val (.ref r)] [(.ref a), (.ref a)])) rfl rfl (hb hby d17_2)
  refine gv st214 ?_
  show G (T214.setTop (mkF me_ 5 #[.val (.ref a), .val (.ref r)] [(.int (2 : Int32)), (.ref a)]))
  refine gv (fun tQ kQ => XS.iconst X214.here hx rfl (hb hby d17_5) kQ) ?_
  show G (T214.setTop (mkF me_ 6 #[.val (.ref a), .val (.ref r)] [(.int (1 : Int32)), (.int (2 : Int32)), (.ref a)]))
  refine gv (fun tQ kQ => XS.iadd X214.here hx rfl (hb hby d17_6) rfl kQ) ?_
  show G (T214.setTop (mkF me_ 7 #[.val (.ref a), .val (.ref r)] [(.int ((2 : Int32) + (1 : Int32))), (.ref a)]))
  rw [(by decide : ((2 : Int32) + (1 : Int32)) = (3 : Int32))]
  show G (T214.setTop (mkF me_ 7 #[.val (.ref a), .val (.ref r)] [(.int (3 : Int32)), (.ref a)]))
  obtain ⟨T215, h215, X215, e215, W215, st215⟩ := putF X214 hx hZ hown (host := "") (Or.inl (hw _ (List.mem_of_getElem? (i := 96) rfl))) (Via.of (hw _ (List.mem_of_getElem? (i := 97) rfl))) e214 u8 u0 (Or.inl (hw _ (List.mem_of_getElem? (i := 22) rfl))) (hw _ (List.mem_of_getElem? (i := 1) rfl)) (ty := .int) (by decide) rfl rfl (g := (mkF me_ 7 #[.val (.ref a), .val (.ref r)] [(.int (3 : Int32)), (.ref a)])) rfl rfl (hb hby d17_7)
  refine gv st215 ?_
  have f217 : Exa Z h215 a "java/util/ArrayList" := u0.wr W215
  have f218 : Fld Z h215 a "java/util/ArrayList" "elementData" "[Ljava/lang/Object;" (.ref b) := u1.other W215 (Or.inr (slot_ne (Or.inl (hw _ (List.mem_of_getElem? (i := 25) rfl))) (Or.inl (hw _ (List.mem_of_getElem? (i := 22) rfl))) (by decide) (t := (.array (.object "java/lang/Object"))) (t' := .int) (by decide) (by decide)))
  have f219 : Fld Z h215 a "java/util/ArrayList" "size" "I" (.int (2 : Int32)) := u2.other W215 (Or.inr (slot_ne (Or.inl (hw _ (List.mem_of_getElem? (i := 66) rfl))) (Or.inl (hw _ (List.mem_of_getElem? (i := 22) rfl))) (by decide) (t := .int) (t' := .int) (by decide) (by decide)))
  have f220 : Arv Z h215 b k (.object "java/lang/Object") (10 : Int32) [(.ref r0), (.ref r1), .null, .null, .null, .null, .null, .null, .null, .null] .null := u4.other W215 (Ne.symm (own_ne_arv u0 (hw _ (List.mem_of_getElem? (i := 1) rfl)) u4))
  have f221 : Exa Z h215 r "java/lang/Integer" := u7.wr W215
  have O222 := O0.wr W215 u3
  have K223 := K0.wr W215 (Or.inl (List.mem_of_getElem? (i := 0) rfl))
  have N224 := Fr.snoc X215 N0 u3
  have f216 : Fld Z h215 a "java/util/AbstractList" "modCount" "I" (.int (3 : Int32)) := u8.same W215
  show G (T215.setTop (mkF me_ 10 #[.val (.ref a), .val (.ref r)] []))
  refine gv (fun tQ kQ => XS.aloadN X215.here hx rfl (hb hby d17_10) rfl rfl kQ) ?_
  show G (T215.setTop (mkF me_ 11 #[.val (.ref a), .val (.ref r)] [(.ref a)]))
  refine gv (fun tQ kQ => XS.aloadN X215.here hx rfl (hb hby d17_11) rfl rfl kQ) ?_
  show G (T215.setTop (mkF me_ 12 #[.val (.ref a), .val (.ref r)] [(.ref r), (.ref a)]))
  refine gv (fun tQ kQ => XS.aloadN X215.here hx rfl (hb hby d17_12) rfl rfl kQ) ?_
  show G (T215.setTop (mkF me_ 13 #[.val (.ref a), .val (.ref r)] [(.ref a), (.ref r), (.ref a)]))
  obtain ⟨T225, X225, e225, st225⟩ := getF X215 hx hZ hown (host := "") (Or.inl (hw _ (List.mem_of_getElem? (i := 24) rfl))) Via.refl e215 f218 (g := (mkF me_ 13 #[.val (.ref a), .val (.ref r)] [(.ref a), (.ref r), (.ref a)])) rfl rfl (hb hby d17_13)
  refine gv st225 ?_
  show G (T225.setTop (mkF me_ 16 #[.val (.ref a), .val (.ref r)] [(.ref b), (.ref r), (.ref a)]))
  refine gv (fun tQ kQ => XS.aloadN X225.here hx rfl (hb hby d17_16) rfl rfl kQ) ?_
  show G (T225.setTop (mkF me_ 17 #[.val (.ref a), .val (.ref r)] [(.ref a), (.ref b), (.ref r), (.ref a)]))
  obtain ⟨T226, X226, e226, st226⟩ := getF X225 hx hZ hown (host := "") (Or.inl (hw _ (List.mem_of_getElem? (i := 65) rfl))) Via.refl e225 f219 (g := (mkF me_ 17 #[.val (.ref a), .val (.ref r)] [(.ref a), (.ref b), (.ref r), (.ref a)])) rfl rfl (hb hby d17_17)
  refine gv st226 ?_
  show G (T226.setTop (mkF me_ 20 #[.val (.ref a), .val (.ref r)] [(.int (2 : Int32)), (.ref b), (.ref r), (.ref a)]))
  obtain ⟨cq227, q227, q227'⟩ := f217.cell
  obtain ⟨_, _, ⟨T227, L227, k227, n227⟩, -, X227, ⟨Lc227, hQ227, l227, y227, z227⟩, st227⟩ := X226.privateBack hx (y := (⟨"java/util/ArrayList", "add", "(Ljava/lang/Object;[Ljava/lang/Object;I)V"⟩ : MethodName)) hown (mvT hZ (hw _ (List.mem_of_getElem? (i := 98) rfl))) (mvT hZ (hw _ (List.mem_of_getElem? (i := 99) rfl))) (mvT hZ (hw _ (List.mem_of_getElem? (i := 101) rfl))) (Cond.privateMethod_at (mvP hZ (hw _ (List.mem_of_getElem? (i := 100) rfl)) (args := #[]))) (mvT hZ (hw _ (List.mem_of_getElem? (i := 102) rfl))) (by decide) (backOf (W := 0) (rm_addh2 l Z a0 hw [] a r b k r0 r1 (3 : Int32) h215 n0 O222 f217 f218 f219 u3 f220 u5 u6 f221 f216) hZ (hw _ (List.mem_of_getElem? (i := 102) rfl)) (hw _ (List.mem_of_getElem? (i := 2) rfl)) (by decide) (by decide)) (g := (mkF me_ 20 #[.val (.ref a), .val (.ref r)] [(.int (2 : Int32)), (.ref b), (.ref r), (.ref a)])) rfl (by rw [hml]; rfl) (Steps.refl _) (a := a) (by rw [e226]; exact q227) q227' (argsL := [(.ref r), (.ref b), (.int (2 : Int32))]) (rest := []) (lenOf pd_5 rfl) rfl (by show 2 * 0 + _ ≤ _; exact Nat.le_of_eq rfl) (hb hby d17_20) (fun _ _ => ⟨rfl, e226, (by decide : 0 + 0 ≤ _), (by decide : 0 + 0 ≤ _)⟩)
  dsimp only [Pt.U, Pt.locs, Pt.cells, Pt.slots] at X227 l227 y227 z227 st227 hQ227
  subst l227 y227 z227
  obtain ⟨rfl, Nq227, Kq227, w227_0, w227_1, w227_2, w227_3, w227_4⟩ := hQ227
  have N228 := Fr.app N224 Nq227
  obtain ⟨h227, e227⟩ : ∃ z, T227.heap = z := ⟨_, rfl⟩
  rw [e227] at Kq227 w227_0 w227_1 w227_2 w227_3 w227_4
  have f229 : Exa Z h227 a "java/util/ArrayList" := f217.keep Kq227
  have f230 : Exa Z h227 r "java/lang/Integer" := f221.keep Kq227
  have O231 := O222.keep Kq227 (allS u3 (allS u5 all0))
  have K232 := K223.trans Kq227 (allS (Or.inl (List.mem_of_getElem? (i := 0) rfl)) (allS (Or.inl (List.mem_of_getElem? (i := 1) rfl)) all0))
  refine gv (fun tQ kQ => st227.trans kQ) ?_
  show G (T227.setTop (mkF me_ 23 #[.val (.ref a), .val (.ref r)] []))
  refine gv (fun tQ kQ => XS.iconst X227.here hx rfl (hb hby d17_23) kQ) ?_
  show G (T227.setTop (mkF me_ 24 #[.val (.ref a), .val (.ref r)] [(.int (1 : Int32))]))
  refine gf _ (own_ret X227 Bd.notSynchronized (v := some (.int (1 : Int32))) (fun h => by rw [Bd.returns] at h; cases h) ?_ (by decide) (by decide) (fun fs hr => retN X227 hx (t := .boolean) Bd.returns (by simp) (hb hby d17_24) hr))
  show Q_add2 Z a r b k r0 r1 h0 n0 _ T227.heap _
  rw [e227]
  exact ⟨rfl, N228, K232, w227_0, w227_1, w227_2, w227_3, w227_4⟩
theorem pn_5 : plainName "java/lang/StringLatin1" = true := by first | (simp [plainName, overriddenIn]; done) | decide +kernel
theorem d6_0 : decode jdk_43_method_3_code 0 = .ok (.iload_n 0, 1) := by decide +kernel
theorem d6_1 : decode jdk_43_method_3_code 1 = .ok (.sipush 255, 3) := by decide +kernel
theorem d6_4 : decode jdk_43_method_3_code 4 = .ok (.if_icmp .gt 7, 3) := by decide +kernel
theorem d6_11 : decode jdk_43_method_3_code 11 = .ok (.iconst 0, 1) := by decide +kernel
theorem d6_12 : decode jdk_43_method_3_code 12 = .ok (.ireturn, 1) := by decide +kernel
theorem d6_7 : decode jdk_43_method_3_code 7 = .ok (.iconst 1, 1) := by decide +kernel
theorem d6_8 : decode jdk_43_method_3_code 8 = .ok (.goto 4, 3) := by decide +kernel
def Q_canC (Z : State) (c : Int32) (h0 : Heap) (n0 : Nat) (v : Option Value) (h : Heap) (L : List Loc) : Prop := v = some (.int (if (255 : Int32) < c then (0 : Int32) else (1 : Int32))) ∧ Fr n0 L ∧ h = h0
set_option maxRecDepth 65536 in
set_option maxHeartbeats 40000000 in
theorem rm_canC (l : Launch) (Z : State) (a0 : Array Value) (hw : ∀ d ∈ tables_1, d.before a0 Z = true) (ws : List Jvm.Cond) (c : Int32) (h0 : Heap) (n0 : Nat) (O0 : Old Z n0 h0)  :
    MetFree l (⟨"java/lang/StringLatin1", "canEncode", "(C)Z"⟩ : MethodName) (head1 (Jvm.Cond.code (⟨"java/lang/StringLatin1", "canEncode", "(C)Z"⟩ : MethodName) jdk_43_method_3_code 1 (some .boolean) :: ws) ({ frames := 0, cells := 0, slots := 0, locals := 0 } : Room)) (fun aV U => aV = #[(.int c)] ∧ Z.Warmed39 U.vm ∧ U.heap = h0) (fun _ _ _ _ _ => True) (fun _ U o U' => ∃ v L, o = .returned v ∧ Q_canC Z c h0 n0 v U'.heap L ∧ FrameEnd U o U' L ({ frames := 0, cells := 0, slots := 0, locals := 0 } : Room).cells ({ frames := 0, cells := 0, slots := 0, locals := 0 } : Room).slots) := by
  refine MetFree.of_bodySF (plainFor_of_name pn_5) hisR ?_
  intro pr_ en_ st_ me_ args below meth_ co_ s₁ Bd hml0 hP hK
  obtain ⟨rfl, hZ, hh⟩ := hP
  have hx := Bd.exec
  have hby := Bd.bytes
  have hml : co_.maxLocals = 1 := hml0
  have hown : st_.vm.findClass "java/lang/StringLatin1" = some me_.cls := findClass_of_methodNamed Bd.named
  have hnm := (name_of_methodNamed Bd.named Bd.method).1
  have X0 : Stand pr_ l en_ ({ frames := 0, cells := 0, slots := 0, locals := 0 } : Room) st_ me_ #[(.int c)] below meth_ co_ s₁ [] 0 0 := Stand.of_body Bd
  have e0 : s₁.heap = h0 := by rw [← hh, Bd.state]; rfl
  have N0 := Fr.nil n0
  have K0 := Keep.refl h0 []
  obtain ⟨G, gv, gf, gb⟩ := own_G pr_.tables en_ below st_ (Q_canC Z c h0 n0) ({ frames := 0, cells := 0, slots := 0, locals := 0 } : Room).cells ({ frames := 0, cells := 0, slots := 0, locals := 0 } : Room).slots
  show own_Fin pr_.tables en_ below st_ (Q_canC Z c h0 n0) ({ frames := 0, cells := 0, slots := 0, locals := 0 } : Room).cells ({ frames := 0, cells := 0, slots := 0, locals := 0 } : Room).slots (s₁.setTop (entryFrame me_ #[(.int c)] 1))
  refine gb _ (gv (fun tQ kQ => castTop (ef_2 me_ c) kQ) ?_)
  show G (s₁.setTop (mkF me_ 0 #[.val (.int c)] []))
  refine gv (fun tQ kQ => XS.iloadN X0.here hx rfl (hb hby d6_0) rfl kQ) ?_
  show G (s₁.setTop (mkF me_ 1 #[.val (.int c)] [(.int c)]))
  refine gv (fun tQ kQ => XS.sipush X0.here hx rfl (hb hby d6_1) kQ) ?_
  show G (s₁.setTop (mkF me_ 4 #[.val (.int c)] [(.int (255 : Int32)), (.int c)]))
  by_cases hc233 : (255 : Int32) < c
  · refine gv (fun tQ kQ => XS.icmpYes X0.here hx rfl (pc0 := 4) (pc' := 11) rfl (hb hby d6_4) rfl (tlt hc233).2.2.1 (by decide) (by decide) kQ) ?_
    show G (s₁.setTop (mkF me_ 11 #[.val (.int c)] []))
    refine gv (fun tQ kQ => XS.iconst X0.here hx rfl (hb hby d6_11) kQ) ?_
    show G (s₁.setTop (mkF me_ 12 #[.val (.int c)] [(.int (0 : Int32))]))
    refine gf _ (own_ret X0 Bd.notSynchronized (v := some (.int (0 : Int32))) (fun h => by rw [Bd.returns] at h; cases h) ?_ (by decide) (by decide) (fun fs hr => retN X0 hx (t := .boolean) Bd.returns (by simp) (hb hby d6_12) hr))
    show Q_canC Z c h0 n0 _ s₁.heap _
    rw [e0]
    exact ⟨(by rw [if_pos hc233]), N0, rfl⟩
  · refine gv (fun tQ kQ => XS.icmpNo X0.here hx rfl (hb hby d6_4) rfl (flt hc233).2.2.1 kQ) ?_
    show G (s₁.setTop (mkF me_ 7 #[.val (.int c)] []))
    refine gv (fun tQ kQ => XS.iconst X0.here hx rfl (hb hby d6_7) kQ) ?_
    show G (s₁.setTop (mkF me_ 8 #[.val (.int c)] [(.int (1 : Int32))]))
    refine gv (fun tQ kQ => XS.goto X0.here hx rfl (pc0 := 8) (pc' := 12) rfl (hb hby d6_8) (by decide) (by decide) kQ) ?_
    show G (s₁.setTop (mkF me_ 12 #[.val (.int c)] [(.int (1 : Int32))]))
    refine gf _ (own_ret X0 Bd.notSynchronized (v := some (.int (1 : Int32))) (fun h => by rw [Bd.returns] at h; cases h) ?_ (by decide) (by decide) (fun fs hr => retN X0 hx (t := .boolean) Bd.returns (by simp) (hb hby d6_12) hr))
    show Q_canC Z c h0 n0 _ s₁.heap _
    rw [e0]
    exact ⟨(by rw [if_neg hc233]), N0, rfl⟩
theorem d7_0 : decode jdk_43_method_46_code 0 = .ok (.iconst 1, 1) := by decide +kernel
theorem d7_1 : decode jdk_43_method_46_code 1 = .ok (.newarray .byte, 2) := by decide +kernel
theorem d7_3 : decode jdk_43_method_46_code 3 = .ok (.dup, 1) := by decide +kernel
theorem d7_4 : decode jdk_43_method_46_code 4 = .ok (.iconst 0, 1) := by decide +kernel
theorem d7_5 : decode jdk_43_method_46_code 5 = .ok (.iload_n 0, 1) := by decide +kernel
theorem d7_6 : decode jdk_43_method_46_code 6 = .ok (.i2b, 1) := by decide +kernel
theorem d7_7 : decode jdk_43_method_46_code 7 = .ok (.bastore, 1) := by decide +kernel
theorem d7_8 : decode jdk_43_method_46_code 8 = .ok (.areturn, 1) := by decide +kernel
def Q_toB (Z : State) (c : Int32) (h0 : Heap) (n0 : Nat) (v : Option Value) (h : Heap) (L : List Loc) : Prop := ∃ (b : Addr), ∃ (k : ClassId), v = some (.ref b) ∧ Fr n0 L ∧ Keep h0 h [] ∧ h0.size ≤ b ∧ (Arv Z h b k .byte (1 : Int32) [(.int (c.toInt8.toInt32))] (.int (0 : Int32)))
set_option maxRecDepth 65536 in
set_option maxHeartbeats 40000000 in
theorem rm_toB (l : Launch) (Z : State) (a0 : Array Value) (hw : ∀ d ∈ tables_1, d.before a0 Z = true) (ws : List Jvm.Cond) (c : Int32) (h0 : Heap) (n0 : Nat) (O0 : Old Z n0 h0)  :
    MetFree l (⟨"java/lang/StringLatin1", "toBytes", "(C)[B"⟩ : MethodName) (head1 (Jvm.Cond.code (⟨"java/lang/StringLatin1", "toBytes", "(C)[B"⟩ : MethodName) jdk_43_method_46_code 1 (some (.array .byte)) :: ws) ({ frames := 0, cells := 1, slots := 1, locals := 0 } : Room)) (fun aV U => aV = #[(.int c)] ∧ Z.Warmed39 U.vm ∧ U.heap = h0) (fun _ _ _ _ _ => True) (fun _ U o U' => ∃ v L, o = .returned v ∧ Q_toB Z c h0 n0 v U'.heap L ∧ FrameEnd U o U' L ({ frames := 0, cells := 1, slots := 1, locals := 0 } : Room).cells ({ frames := 0, cells := 1, slots := 1, locals := 0 } : Room).slots) := by
  refine MetFree.of_bodySF (plainFor_of_name pn_5) hisR ?_
  intro pr_ en_ st_ me_ args below meth_ co_ s₁ Bd hml0 hP hK
  obtain ⟨rfl, hZ, hh⟩ := hP
  have hx := Bd.exec
  have hby := Bd.bytes
  have hml : co_.maxLocals = 1 := hml0
  have hown : st_.vm.findClass "java/lang/StringLatin1" = some me_.cls := findClass_of_methodNamed Bd.named
  have hnm := (name_of_methodNamed Bd.named Bd.method).1
  have X0 : Stand pr_ l en_ ({ frames := 0, cells := 1, slots := 1, locals := 0 } : Room) st_ me_ #[(.int c)] below meth_ co_ s₁ [] 0 0 := Stand.of_body Bd
  have e0 : s₁.heap = h0 := by rw [← hh, Bd.state]; rfl
  have N0 := Fr.nil n0
  have K0 := Keep.refl h0 []
  obtain ⟨G, gv, gf, gb⟩ := own_G pr_.tables en_ below st_ (Q_toB Z c h0 n0) ({ frames := 0, cells := 1, slots := 1, locals := 0 } : Room).cells ({ frames := 0, cells := 1, slots := 1, locals := 0 } : Room).slots
  show own_Fin pr_.tables en_ below st_ (Q_toB Z c h0 n0) ({ frames := 0, cells := 1, slots := 1, locals := 0 } : Room).cells ({ frames := 0, cells := 1, slots := 1, locals := 0 } : Room).slots (s₁.setTop (entryFrame me_ #[(.int c)] 1))
  refine gb _ (gv (fun tQ kQ => castTop (ef_2 me_ c) kQ) ?_)
  show G (s₁.setTop (mkF me_ 0 #[.val (.int c)] []))
  refine gv (fun tQ kQ => XS.iconst X0.here hx rfl (hb hby d7_0) kQ) ?_
  show G (s₁.setTop (mkF me_ 1 #[.val (.int c)] [(.int (1 : Int32))]))
  obtain ⟨T234, h234, k234, X234, e234, E234, A234, st234⟩ := newP X0 hx hZ (hw _ (List.mem_of_getElem? (i := 41) rfl)) e0 (g := (mkF me_ 1 #[.val (.int c)] [(.int (1 : Int32))])) rfl (hb hby d7_1) rfl (by decide) (cap := 1) (by decide) (by decide) (by decide) (by decide)
  obtain ⟨b234, g234⟩ : ∃ z, z = h0.size := ⟨_, rfl⟩
  rw [← g234] at A234 st234
  refine gv st234 ?_
  have g235 : n0 ≤ b234 := Nat.le_trans (own_old O0) (Nat.le_of_eq g234.symm)
  have z236 : h0.size ≤ b234 := Nat.le_trans K0.1 (Nat.le_of_eq g234.symm)
  have O237 := O0.ext E234
  have K238 := K0.ext E234
  have V234 : Arv Z h234 b234 k234 .byte (1 : Int32) [(.int (0 : Int32))] (.int (0 : Int32)) := (Arv.new A234 (by decide)).pad (pad_rep [] (.int (0 : Int32)) 1)
  show G (T234.setTop (mkF me_ 3 #[.val (.int c)] [(.ref b234)]))
  refine gv (fun tQ kQ => XS.dup X234.here hx rfl (hb hby d7_3) rfl rfl kQ) ?_
  show G (T234.setTop (mkF me_ 4 #[.val (.int c)] [(.ref b234), (.ref b234)]))
  refine gv (fun tQ kQ => XS.iconst X234.here hx rfl (hb hby d7_4) kQ) ?_
  show G (T234.setTop (mkF me_ 5 #[.val (.int c)] [(.int (0 : Int32)), (.ref b234), (.ref b234)]))
  refine gv (fun tQ kQ => XS.iloadN X234.here hx rfl (hb hby d7_5) rfl kQ) ?_
  show G (T234.setTop (mkF me_ 6 #[.val (.int c)] [(.int c), (.int (0 : Int32)), (.ref b234), (.ref b234)]))
  refine gv (fun tQ kQ => XS.i2b X234.here hx rfl (hb hby d7_6) rfl kQ) ?_
  show G (T234.setTop (mkF me_ 7 #[.val (.int c)] [(.int (c.toInt8.toInt32)), (.int (0 : Int32)), (.ref b234), (.ref b234)]))
  obtain ⟨cl239, Ar239, q239, S239, n239, H239, G239⟩ := (id V234)
  have in239 : ¬ ((0 : Int32) < 0 ∨ cl239.slots.size ≤ ((0 : Int32)).toNatClampNeg) := inb_of S239 ⟨by decide, by decide⟩
  obtain ⟨T239, h239, X239, e239, W239, st239⟩ := stB X234 hx hZ e234 Ar239 (j := (0 : Int32)) in239 (g := (mkF me_ 7 #[.val (.int c)] [(.int (c.toInt8.toInt32)), (.int (0 : Int32)), (.ref b234), (.ref b234)])) rfl rfl (hb hby d7_7)
  have W239 : Wr h234 h239 b234 ((0 : Int32)).toNatClampNeg (.int (c.toInt8.toInt32)) := by have z := W239; rw [(own_narB _)] at z; exact z
  refine gv st239 ?_
  have O241 := O237.wr W239 g235
  have K242 := K238.wr W239 (Or.inr z236)
  have N243 := Fr.snoc X239 N0 g235
  have f240 : Arv Z h239 b234 k234 .byte (1 : Int32) [(.int (c.toInt8.toInt32))] (.int (0 : Int32)) := Arv.set Ar239 q239 S239 n239 H239 G239 (fits_nar_byte _) W239 0 rfl (Nat.le_of_ble_eq_true rfl)
  show G (T239.setTop (mkF me_ 8 #[.val (.int c)] [(.ref b234)]))
  refine gf _ (own_ret X239 Bd.notSynchronized (v := some (.ref b234)) (fun h => by rw [Bd.returns] at h; cases h) ?_ (by decide) (by decide) (fun fs hr => retOut X239 hx (t := (.array .byte)) Bd.returns rfl (Or.inr (Or.inr (Or.inr (Or.inr ⟨rfl, rfl, rfl⟩)))) (hb hby d7_8) hr))
  show Q_toB Z c h0 n0 _ T239.heap _
  rw [e239]
  exact ⟨b234, k234, rfl, N243, K242, z236, f240⟩
theorem ef_7 (m : MethodId) (x0 : Addr) (x1 : Addr) (x2 : Int32)  : entryFrame m #[(.ref x0), (.ref x1), (.int x2)] 3 = mkF m 0 #[.val (.ref x0), .val (.ref x1), .val (.int x2)] [] := by first | (simp [entryFrame, mkF, argsToLocals, Value.category]; done) | rfl
theorem pn_6 : plainName "java/lang/String" = true := by first | (simp [plainName, overriddenIn]; done) | decide +kernel
theorem d8_0 : decode jdk_42_method_151_code 0 = .ok (.aload_n 0, 1) := by decide +kernel
theorem d8_1 : decode jdk_42_method_151_code 1 = .ok (.invokespecial 1, 3) := by decide +kernel
theorem d8_4 : decode jdk_42_method_151_code 4 = .ok (.aload_n 0, 1) := by decide +kernel
theorem d8_5 : decode jdk_42_method_151_code 5 = .ok (.aload_n 1, 1) := by decide +kernel
theorem d8_6 : decode jdk_42_method_151_code 6 = .ok (.putfield 9, 3) := by decide +kernel
theorem d8_9 : decode jdk_42_method_151_code 9 = .ok (.aload_n 0, 1) := by decide +kernel
theorem d8_10 : decode jdk_42_method_151_code 10 = .ok (.iload_n 2, 1) := by decide +kernel
theorem d8_11 : decode jdk_42_method_151_code 11 = .ok (.putfield 15, 3) := by decide +kernel
theorem d8_14 : decode jdk_42_method_151_code 14 = .ok (.return_, 1) := by decide +kernel
def Q_sbb0 (Z : State) (a : Addr) (b : Addr) (h0 : Heap) (n0 : Nat) (v : Option Value) (h : Heap) (L : List Loc) : Prop := v = none ∧ Fr n0 L ∧ Keep h0 h [a] ∧ (Exa Z h a "java/lang/String") ∧ (Fld Z h a "java/lang/String" "value" "[B" (.ref b)) ∧ (Fld Z h a "java/lang/String" "coder" "B" (.int (0 : Int32)))
set_option maxRecDepth 65536 in
set_option maxHeartbeats 40000000 in
theorem rm_sbb0 (l : Launch) (Z : State) (a0 : Array Value) (hw : ∀ d ∈ tables_1, d.before a0 Z = true) (ws : List Jvm.Cond) (a : Addr) (b : Addr) (h0 : Heap) (n0 : Nat) (O0 : Old Z n0 h0) (u0 : Exa Z h0 a "java/lang/String") (u1 : Fld Z h0 a "java/lang/String" "value" "[B" .null) (u2 : Fld Z h0 a "java/lang/String" "coder" "B" (.int (0 : Int32))) (u3 : n0 ≤ a) :
    MetFree l (⟨"java/lang/String", "<init>", "([BB)V"⟩ : MethodName) (head1 (Jvm.Cond.code (⟨"java/lang/String", "<init>", "([BB)V"⟩ : MethodName) jdk_42_method_151_code 3 none :: ws) ({ frames := 1, cells := 0, slots := 0, locals := 12 } : Room)) (fun aV U => aV = #[(.ref a), (.ref b), (.int (0 : Int32))] ∧ Z.Warmed39 U.vm ∧ U.heap = h0) (fun _ _ _ _ _ => True) (fun _ U o U' => ∃ v L, o = .returned v ∧ Q_sbb0 Z a b h0 n0 v U'.heap L ∧ FrameEnd U o U' L ({ frames := 1, cells := 0, slots := 0, locals := 12 } : Room).cells ({ frames := 1, cells := 0, slots := 0, locals := 12 } : Room).slots) := by
  refine MetFree.of_bodySF (plainFor_of_name pn_6) hisR ?_
  intro pr_ en_ st_ me_ args below meth_ co_ s₁ Bd hml0 hP hK
  obtain ⟨rfl, hZ, hh⟩ := hP
  have hx := Bd.exec
  have hby := Bd.bytes
  have hml : co_.maxLocals = 3 := hml0
  have hown : st_.vm.findClass "java/lang/String" = some me_.cls := findClass_of_methodNamed Bd.named
  have hnm := (name_of_methodNamed Bd.named Bd.method).1
  have X0 : Stand pr_ l en_ ({ frames := 1, cells := 0, slots := 0, locals := 12 } : Room) st_ me_ #[(.ref a), (.ref b), (.int (0 : Int32))] below meth_ co_ s₁ [] 0 0 := Stand.of_body Bd
  have e0 : s₁.heap = h0 := by rw [← hh, Bd.state]; rfl
  have N0 := Fr.nil n0
  have K0 := Keep.refl h0 [a]
  obtain ⟨G, gv, gf, gb⟩ := own_G pr_.tables en_ below st_ (Q_sbb0 Z a b h0 n0) ({ frames := 1, cells := 0, slots := 0, locals := 12 } : Room).cells ({ frames := 1, cells := 0, slots := 0, locals := 12 } : Room).slots
  show own_Fin pr_.tables en_ below st_ (Q_sbb0 Z a b h0 n0) ({ frames := 1, cells := 0, slots := 0, locals := 12 } : Room).cells ({ frames := 1, cells := 0, slots := 0, locals := 12 } : Room).slots (s₁.setTop (entryFrame me_ #[(.ref a), (.ref b), (.int (0 : Int32))] 3))
  refine gb _ (gv (fun tQ kQ => castTop (ef_7 me_ a b (0 : Int32)) kQ) ?_)
  show G (s₁.setTop (mkF me_ 0 #[.val (.ref a), .val (.ref b), .val (.int (0 : Int32))] []))
  refine gv (fun tQ kQ => XS.aloadN X0.here hx rfl (hb hby d8_0) rfl rfl kQ) ?_
  show G (s₁.setTop (mkF me_ 1 #[.val (.ref a), .val (.ref b), .val (.int (0 : Int32))] [(.ref a)]))
  obtain ⟨T244, X244, e244, st244⟩ := initO X0 hx hZ hown (hw _ (List.mem_of_getElem? (i := 46) rfl)) (hw _ (List.mem_of_getElem? (i := 19) rfl)) (hw _ (List.mem_of_getElem? (i := 20) rfl)) e0 (g := (mkF me_ 1 #[.val (.ref a), .val (.ref b), .val (.int (0 : Int32))] [(.ref a)])) rfl (by rw [hml]; rfl) rfl (hb hby d8_1) (by decide) (W := 0) (by show 2 * 0 + _ ≤ _; exact Nat.le_of_eq rfl) (by decide)
  refine gv st244 ?_
  show G (T244.setTop (mkF me_ 4 #[.val (.ref a), .val (.ref b), .val (.int (0 : Int32))] []))
  refine gv (fun tQ kQ => XS.aloadN X244.here hx rfl (hb hby d8_4) rfl rfl kQ) ?_
  show G (T244.setTop (mkF me_ 5 #[.val (.ref a), .val (.ref b), .val (.int (0 : Int32))] [(.ref a)]))
  refine gv (fun tQ kQ => XS.aloadN X244.here hx rfl (hb hby d8_5) rfl rfl kQ) ?_
  show G (T244.setTop (mkF me_ 6 #[.val (.ref a), .val (.ref b), .val (.int (0 : Int32))] [(.ref b), (.ref a)]))
  obtain ⟨T245, h245, X245, e245, W245, st245⟩ := putF X244 hx hZ hown (host := "") (Or.inl (hw _ (List.mem_of_getElem? (i := 47) rfl))) Via.refl e244 u1 u0 (Or.inr ⟨(hw _ (List.mem_of_getElem? (i := 48) rfl)), rfl, hnm⟩) (hw _ (List.mem_of_getElem? (i := 37) rfl)) (ty := (.array .byte)) (by decide) rfl rfl (g := (mkF me_ 6 #[.val (.ref a), .val (.ref b), .val (.int (0 : Int32))] [(.ref b), (.ref a)])) rfl rfl (hb hby d8_6)
  refine gv st245 ?_
  have f247 : Exa Z h245 a "java/lang/String" := u0.wr W245
  have f248 : Fld Z h245 a "java/lang/String" "coder" "B" (.int (0 : Int32)) := u2.other W245 (Or.inr (slot_ne (Or.inr (hw _ (List.mem_of_getElem? (i := 50) rfl))) (Or.inr (hw _ (List.mem_of_getElem? (i := 48) rfl))) (by decide) (t := .byte) (t' := (.array .byte)) (by decide) (by decide)))
  have O249 := O0.wr W245 u3
  have K250 := K0.wr W245 (Or.inl (List.mem_of_getElem? (i := 0) rfl))
  have N251 := Fr.snoc X245 N0 u3
  have f246 : Fld Z h245 a "java/lang/String" "value" "[B" (.ref b) := u1.same W245
  show G (T245.setTop (mkF me_ 9 #[.val (.ref a), .val (.ref b), .val (.int (0 : Int32))] []))
  refine gv (fun tQ kQ => XS.aloadN X245.here hx rfl (hb hby d8_9) rfl rfl kQ) ?_
  show G (T245.setTop (mkF me_ 10 #[.val (.ref a), .val (.ref b), .val (.int (0 : Int32))] [(.ref a)]))
  refine gv (fun tQ kQ => XS.iloadN X245.here hx rfl (hb hby d8_10) rfl kQ) ?_
  show G (T245.setTop (mkF me_ 11 #[.val (.ref a), .val (.ref b), .val (.int (0 : Int32))] [(.int (0 : Int32)), (.ref a)]))
  obtain ⟨T252, h252, X252, e252, W252, st252⟩ := putFN X245 hx hZ hown (hw _ (List.mem_of_getElem? (i := 49) rfl)) Via.refl e245 f248 f247 (Or.inr ⟨(hw _ (List.mem_of_getElem? (i := 50) rfl)), rfl, hnm⟩) (hw _ (List.mem_of_getElem? (i := 37) rfl)) (ty := .byte) (v' := (.int (0 : Int32))) (by decide) rfl rfl (g := (mkF me_ 11 #[.val (.ref a), .val (.ref b), .val (.int (0 : Int32))] [(.int (0 : Int32)), (.ref a)])) rfl rfl (hb hby d8_11)
  refine gv st252 ?_
  have f254 : Exa Z h252 a "java/lang/String" := f247.wr W252
  have f255 : Fld Z h252 a "java/lang/String" "value" "[B" (.ref b) := f246.other W252 (Or.inr (slot_ne (Or.inr (hw _ (List.mem_of_getElem? (i := 48) rfl))) (Or.inr (hw _ (List.mem_of_getElem? (i := 50) rfl))) (by decide) (t := (.array .byte)) (t' := .byte) (by decide) (by decide)))
  have O256 := O249.wr W252 u3
  have K257 := K250.wr W252 (Or.inl (List.mem_of_getElem? (i := 0) rfl))
  have N258 := Fr.snoc X252 N251 u3
  have f253 : Fld Z h252 a "java/lang/String" "coder" "B" (.int (0 : Int32)) := f248.same W252
  show G (T252.setTop (mkF me_ 14 #[.val (.ref a), .val (.ref b), .val (.int (0 : Int32))] []))
  refine gf _ (own_ret X252 Bd.notSynchronized (v := none) (fun _ => rfl) ?_ (by decide) (by decide) (fun fs hr => X252.returnOut hx Bd.returns (hb hby d8_14) hr))
  show Q_sbb0 Z a b h0 n0 _ T252.heap _
  rw [e252]
  exact ⟨rfl, N258, K257, f254, f255, f253⟩
theorem d5_0 : decode jdk_42_method_139_code 0 = .ok (.getstatic 38, 3) := by decide +kernel
theorem d5_3 : decode jdk_42_method_139_code 3 = .ok (.ifCond .eq 23, 3) := by decide +kernel
theorem d5_6 : decode jdk_42_method_139_code 6 = .ok (.iload_n 0, 1) := by decide +kernel
theorem d5_7 : decode jdk_42_method_139_code 7 = .ok (.invokestatic 1015, 3) := by decide +kernel
theorem pd_6 : parseMethodDescriptor "(C)Z" = some ⟨[.char], some .boolean⟩ := by decide +kernel
theorem d5_10 : decode jdk_42_method_139_code 10 = .ok (.ifCond .eq 16, 3) := by decide +kernel
theorem d5_13 : decode jdk_42_method_139_code 13 = .ok (.new 10, 3) := by decide +kernel
theorem d5_16 : decode jdk_42_method_139_code 16 = .ok (.dup, 1) := by decide +kernel
theorem d5_17 : decode jdk_42_method_139_code 17 = .ok (.iload_n 0, 1) := by decide +kernel
theorem d5_18 : decode jdk_42_method_139_code 18 = .ok (.invokestatic 1018, 3) := by decide +kernel
theorem pd_7 : parseMethodDescriptor "(C)[B" = some ⟨[.char], some (.array .byte)⟩ := by decide +kernel
theorem d5_21 : decode jdk_42_method_139_code 21 = .ok (.iconst 0, 1) := by decide +kernel
theorem d5_22 : decode jdk_42_method_139_code 22 = .ok (.invokespecial 209, 3) := by decide +kernel
theorem pd_8 : parseMethodDescriptor "([BB)V" = some ⟨[(.array .byte), .byte], none⟩ := by decide +kernel
theorem d5_25 : decode jdk_42_method_139_code 25 = .ok (.areturn, 1) := by decide +kernel
def Q_voL (Z : State) (c : Int32) (cs : Int32) (h0 : Heap) (n0 : Nat) (v : Option Value) (h : Heap) (L : List Loc) : Prop := ∃ (s : Addr), ∃ (b : Addr), ∃ (k : ClassId), v = some (.ref s) ∧ Fr n0 L ∧ Keep h0 h [] ∧ h0.size ≤ s ∧ h0.size ≤ b ∧ s ≠ b ∧ (Exa Z h s "java/lang/String") ∧ (Fld Z h s "java/lang/String" "coder" "B" (.int (0 : Int32))) ∧ (Fld Z h s "java/lang/String" "value" "[B" (.ref b)) ∧ (Arv Z h b k .byte (1 : Int32) [(.int (c.toInt8.toInt32))] (.int (0 : Int32)))
set_option maxRecDepth 65536 in
set_option maxHeartbeats 40000000 in
theorem rm_voL (l : Launch) (Z : State) (a0 : Array Value) (hw : ∀ d ∈ tables_1, d.before a0 Z = true) (ws : List Jvm.Cond) (c : Int32) (cs : Int32) (h0 : Heap) (n0 : Nat) (O0 : Old Z n0 h0) (u0 : Sta Z Z.heap "java/lang/String" "COMPACT_STRINGS" "Z" (.int cs)) (u1 : ¬ (cs = (0 : Int32))) (u2 : ¬ ((255 : Int32) < c)) :
    MetFree l (⟨"java/lang/String", "valueOf", "(C)Ljava/lang/String;"⟩ : MethodName) (head1 (Jvm.Cond.code (⟨"java/lang/String", "valueOf", "(C)Ljava/lang/String;"⟩ : MethodName) jdk_42_method_139_code 1 (some (.object "java/lang/String")) :: ws) ({ frames := 2, cells := 2, slots := 5, locals := 27 } : Room)) (fun aV U => aV = #[(.int c)] ∧ Z.Warmed39 U.vm ∧ U.heap = h0) (fun _ _ _ _ _ => True) (fun _ U o U' => ∃ v L, o = .returned v ∧ Q_voL Z c cs h0 n0 v U'.heap L ∧ FrameEnd U o U' L ({ frames := 2, cells := 2, slots := 5, locals := 27 } : Room).cells ({ frames := 2, cells := 2, slots := 5, locals := 27 } : Room).slots) := by
  refine MetFree.of_bodySF (plainFor_of_name pn_6) hisR ?_
  intro pr_ en_ st_ me_ args below meth_ co_ s₁ Bd hml0 hP hK
  obtain ⟨rfl, hZ, hh⟩ := hP
  have hx := Bd.exec
  have hby := Bd.bytes
  have hml : co_.maxLocals = 1 := hml0
  have hown : st_.vm.findClass "java/lang/String" = some me_.cls := findClass_of_methodNamed Bd.named
  have hnm := (name_of_methodNamed Bd.named Bd.method).1
  have X0 : Stand pr_ l en_ ({ frames := 2, cells := 2, slots := 5, locals := 27 } : Room) st_ me_ #[(.int c)] below meth_ co_ s₁ [] 0 0 := Stand.of_body Bd
  have e0 : s₁.heap = h0 := by rw [← hh, Bd.state]; rfl
  have N0 := Fr.nil n0
  have K0 := Keep.refl h0 []
  obtain ⟨G, gv, gf, gb⟩ := own_G pr_.tables en_ below st_ (Q_voL Z c cs h0 n0) ({ frames := 2, cells := 2, slots := 5, locals := 27 } : Room).cells ({ frames := 2, cells := 2, slots := 5, locals := 27 } : Room).slots
  show own_Fin pr_.tables en_ below st_ (Q_voL Z c cs h0 n0) ({ frames := 2, cells := 2, slots := 5, locals := 27 } : Room).cells ({ frames := 2, cells := 2, slots := 5, locals := 27 } : Room).slots (s₁.setTop (entryFrame me_ #[(.int c)] 1))
  refine gb _ (gv (fun tQ kQ => castTop (ef_2 me_ c) kQ) ?_)
  show G (s₁.setTop (mkF me_ 0 #[.val (.int c)] []))
  obtain ⟨T259, X259, e259, st259⟩ := getS2 X0 hx hZ hown (host := "") (Or.inl (hw _ (List.mem_of_getElem? (i := 31) rfl))) Via.refl e0 (u0.ext O0.2) (g := (mkF me_ 0 #[.val (.int c)] [])) rfl (hb hby d5_0)
  refine gv st259 ?_
  show G (T259.setTop (mkF me_ 3 #[.val (.int c)] [(.int cs)]))
  refine gv (fun tQ kQ => XS.ifNo X259.here hx rfl (hb hby d5_3) rfl ((if0 _ _).trans (feq u1).1) kQ) ?_
  show G (T259.setTop (mkF me_ 6 #[.val (.int c)] []))
  refine gv (fun tQ kQ => XS.iloadN X259.here hx rfl (hb hby d5_6) rfl kQ) ?_
  show G (T259.setTop (mkF me_ 7 #[.val (.int c)] [(.int c)]))
  obtain ⟨_, _, ⟨T260, L260, k260, n260⟩, -, X260, ⟨Lc260, hQ260, l260, y260, z260⟩, st260⟩ := Jvm.LawKit.callS X259 hx (y := (⟨"java/lang/StringLatin1", "canEncode", "(C)Z"⟩ : MethodName)) hown (mvT hZ (hw _ (List.mem_of_getElem? (i := 32) rfl))) (mvT hZ (hw _ (List.mem_of_getElem? (i := 33) rfl))) (mvT hZ (hw _ (List.mem_of_getElem? (i := 34) rfl))) (mvT hZ (hw _ (List.mem_of_getElem? (i := 35) rfl))) (by decide) (backOf (W := 0) (rm_canC l Z a0 hw [] c h0 n0 O0 ) hZ (hw _ (List.mem_of_getElem? (i := 35) rfl)) (hw _ (List.mem_of_getElem? (i := 34) rfl)) (by decide) (by decide)) (g := (mkF me_ 7 #[.val (.int c)] [(.int c)])) rfl (by rw [hml]; rfl) (argsL := [(.int c)]) (rest := []) (lenOf pd_6 rfl) rfl (by show 2 * 0 + _ ≤ _; exact Nat.le_of_eq rfl) (hb hby d5_7) (fun _ _ => ⟨rfl, e259, (by decide : 0 + 0 ≤ _), (by decide : 0 + 0 ≤ _)⟩)
  dsimp only [Pt.U, Pt.locs, Pt.cells, Pt.slots] at X260 l260 y260 z260 st260 hQ260
  subst l260 y260 z260
  obtain ⟨rfl, Nq260, eq260⟩ := hQ260
  have N261 := Fr.app N0 Nq260
  rw [if_neg u2] at st260
  refine gv st260 ?_
  show G (T260.setTop (mkF me_ 10 #[.val (.int c)] [(.int (1 : Int32))]))
  refine gv (fun tQ kQ => XS.ifNo X260.here hx rfl (hb hby d5_10) rfl ((if0 _ _).trans (feq (by decide : ¬ ((1 : Int32) = (0 : Int32)))).1) kQ) ?_
  show G (T260.setTop (mkF me_ 13 #[.val (.int c)] []))
  obtain ⟨T262, h262, X262, e262, E262, A262, D262, -, st262⟩ := newO X260 hx hZ hown (hw _ (List.mem_of_getElem? (i := 36) rfl)) (hw _ (List.mem_of_getElem? (i := 37) rfl)) (hw _ (List.mem_of_getElem? (i := 29) rfl)) eq260 (g := (mkF me_ 13 #[.val (.int c)] [])) rfl (hb hby d5_13) (by decide) (by decide)
  obtain ⟨b262, g262⟩ : ∃ z, z = h0.size := ⟨_, rfl⟩
  rw [← g262] at A262 D262 st262
  refine gv st262 ?_
  have g263 : n0 ≤ b262 := Nat.le_trans (own_old O0) (Nat.le_of_eq g262.symm)
  have z264 : h0.size ≤ b262 := Nat.le_trans K0.1 (Nat.le_of_eq g262.symm)
  have O265 := O0.ext E262
  have K266 := K0.ext E262
  have f267 : Fld Z h262 b262 "java/lang/String" "value" "[B" .null := D262 (Or.inr (hw _ (List.mem_of_getElem? (i := 48) rfl))) (ty := (.array .byte)) (by decide)
  have f268 : Fld Z h262 b262 "java/lang/String" "coder" "B" (.int (0 : Int32)) := D262 (Or.inr (hw _ (List.mem_of_getElem? (i := 50) rfl))) (ty := .byte) (by decide)
  show G (T262.setTop (mkF me_ 16 #[.val (.int c)] [(.ref b262)]))
  refine gv (fun tQ kQ => XS.dup X262.here hx rfl (hb hby d5_16) rfl rfl kQ) ?_
  show G (T262.setTop (mkF me_ 17 #[.val (.int c)] [(.ref b262), (.ref b262)]))
  refine gv (fun tQ kQ => XS.iloadN X262.here hx rfl (hb hby d5_17) rfl kQ) ?_
  show G (T262.setTop (mkF me_ 18 #[.val (.int c)] [(.int c), (.ref b262), (.ref b262)]))
  obtain ⟨_, _, ⟨T269, L269, k269, n269⟩, -, X269, ⟨Lc269, hQ269, l269, y269, z269⟩, st269⟩ := Jvm.LawKit.callS X262 hx (y := (⟨"java/lang/StringLatin1", "toBytes", "(C)[B"⟩ : MethodName)) hown (mvT hZ (hw _ (List.mem_of_getElem? (i := 38) rfl))) (mvT hZ (hw _ (List.mem_of_getElem? (i := 39) rfl))) (mvT hZ (hw _ (List.mem_of_getElem? (i := 34) rfl))) (mvT hZ (hw _ (List.mem_of_getElem? (i := 40) rfl))) (by decide) (backOf (W := 2) (rm_toB l Z a0 hw [] c h262 n0 O265 ) hZ (hw _ (List.mem_of_getElem? (i := 40) rfl)) (hw _ (List.mem_of_getElem? (i := 34) rfl)) (by decide) (by decide)) (g := (mkF me_ 18 #[.val (.int c)] [(.int c), (.ref b262), (.ref b262)])) rfl (by rw [hml]; rfl) (argsL := [(.int c)]) (rest := [(.ref b262), (.ref b262)]) (lenOf pd_7 rfl) rfl (by show 2 * 0 + _ ≤ _; exact Nat.le_of_eq rfl) (hb hby d5_18) (fun _ _ => ⟨rfl, e262, (by decide : 1 + 1 ≤ _), (by decide : 4 + 1 ≤ _)⟩)
  dsimp only [Pt.U, Pt.locs, Pt.cells, Pt.slots] at X269 l269 y269 z269 st269 hQ269
  subst l269 y269 z269
  obtain ⟨b_269, k_269, rfl, Nq269, Kq269, w269_0, w269_1⟩ := hQ269
  have N270 := Fr.app N261 Nq269
  obtain ⟨h269, e269⟩ : ∃ z, T269.heap = z := ⟨_, rfl⟩
  rw [e269] at Kq269 w269_1
  have ne271 : b262 ≠ b_269 := Nat.ne_of_lt (Nat.lt_of_lt_of_le A262.lt w269_0)
  have g272 : n0 ≤ b_269 := Nat.le_trans (own_old O265) w269_0
  have z273 : h0.size ≤ b_269 := Nat.le_trans K266.1 w269_0
  have f274 : Exa Z h269 b262 "java/lang/String" := A262.keep Kq269
  have f275 : Fld Z h269 b262 "java/lang/String" "value" "[B" .null := f267.keep Kq269 nin0
  have f276 : Fld Z h269 b262 "java/lang/String" "coder" "B" (.int (0 : Int32)) := f268.keep Kq269 nin0
  have O277 := O265.keep Kq269 all0
  have K278 := K266.trans Kq269 all0
  refine gv st269 ?_
  show G (T269.setTop (mkF me_ 21 #[.val (.int c)] [(.ref b_269), (.ref b262), (.ref b262)]))
  refine gv (fun tQ kQ => XS.iconst X269.here hx rfl (hb hby d5_21) kQ) ?_
  show G (T269.setTop (mkF me_ 22 #[.val (.int c)] [(.int (0 : Int32)), (.ref b_269), (.ref b262), (.ref b262)]))
  obtain ⟨_, _, ⟨T279, L279, k279, n279⟩, -, X279, ⟨Lc279, hQ279, l279, y279, z279⟩, st279⟩ := X269.specialBack hx (y := (⟨"java/lang/String", "<init>", "([BB)V"⟩ : MethodName)) rfl hown (mvT hZ (hw _ (List.mem_of_getElem? (i := 42) rfl))) (mvT hZ (hw _ (List.mem_of_getElem? (i := 43) rfl))) (mvT hZ (hw _ (List.mem_of_getElem? (i := 45) rfl))) (by decide) (backOf (W := 1) (rm_sbb0 l Z a0 hw [] b262 b_269 h269 n0 O277 f274 f275 f276 g263) hZ (hw _ (List.mem_of_getElem? (i := 45) rfl)) (hw _ (List.mem_of_getElem? (i := 29) rfl)) (by decide) (by decide)) (g := (mkF me_ 22 #[.val (.int c)] [(.int (0 : Int32)), (.ref b_269), (.ref b262), (.ref b262)])) rfl (by rw [hml]; rfl) (Steps.refl _) (a := b262) (argsL := [(.ref b_269), (.int (0 : Int32))]) (rest := [(.ref b262)]) (lenOf pd_8 rfl) rfl (by show 2 * 0 + _ ≤ _; exact Nat.le_of_eq rfl) (hb hby d5_22) (fun _ _ => ⟨rfl, e269, (by decide : 2 + 0 ≤ _), (by decide : 5 + 0 ≤ _)⟩)
  dsimp only [Pt.U, Pt.locs, Pt.cells, Pt.slots] at X279 l279 y279 z279 st279 hQ279
  subst l279 y279 z279
  obtain ⟨rfl, Nq279, Kq279, w279_0, w279_1, w279_2⟩ := hQ279
  have N280 := Fr.app N270 Nq279
  obtain ⟨h279, e279⟩ : ∃ z, T279.heap = z := ⟨_, rfl⟩
  rw [e279] at Kq279 w279_0 w279_1 w279_2
  have f281 : Exa Z h279 b262 "java/lang/String" := f274.keep Kq279
  have f282 : Arv Z h279 b_269 k_269 .byte (1 : Int32) [(.int (c.toInt8.toInt32))] (.int (0 : Int32)) := w269_1.keep Kq279 (ninS (Ne.symm ne271) nin0)
  have O283 := O277.keep Kq279 (allS g263 all0)
  have K284 := K278.trans Kq279 (allS (Or.inr z264) all0)
  refine gv (fun tQ kQ => st279.trans kQ) ?_
  show G (T279.setTop (mkF me_ 25 #[.val (.int c)] [(.ref b262)]))
  refine gf _ (own_ret X279 Bd.notSynchronized (v := some (.ref b262)) (fun h => by rw [Bd.returns] at h; cases h) ?_ (by decide) (by decide) (fun fs hr => retOut X279 hx (t := (.object "java/lang/String")) Bd.returns rfl (Or.inr (Or.inr (Or.inr (Or.inr ⟨rfl, rfl, rfl⟩)))) (hb hby d5_25) hr))
  show Q_voL Z c cs h0 n0 _ T279.heap _
  rw [e279]
  exact ⟨b262, b_269, k_269, rfl, N280, K284, z264, z273, ne271, w279_0, w279_2, w279_1, f282⟩
theorem ef_8 (m : MethodId) (x0 : Addr) (x1 : Int32) (x2 : Addr) (x3 : Int32) (x4 : Int32)  : entryFrame m #[(.ref x0), (.int x1), (.ref x2), (.int x3), (.int x4)] 7 = mkF m 0 #[.val (.ref x0), .val (.int x1), .val (.ref x2), .val (.int x3), .val (.int x4), .unset, .unset] [] := by first | (simp [entryFrame, mkF, argsToLocals, Value.category]; done) | rfl
theorem pn_7 : plainName "java/lang/StringUTF16" = true := by first | (simp [plainName, overriddenIn]; done) | decide +kernel
theorem d14_0 : decode jdk_52_method_21_code 0 = .ok (.iconst 0, 1) := by decide +kernel
theorem d14_1 : decode jdk_52_method_21_code 1 = .ok (.istore 5, 2) := by decide +kernel
theorem d14_3 : decode jdk_52_method_21_code 3 = .ok (.iload 5, 2) := by decide +kernel
theorem d14_5 : decode jdk_52_method_21_code 5 = .ok (.iload 4, 2) := by decide +kernel
theorem d14_7 : decode jdk_52_method_21_code 7 = .ok (.if_icmp .ge 37, 3) := by decide +kernel
theorem d14_10 : decode jdk_52_method_21_code 10 = .ok (.aload_n 0, 1) := by decide +kernel
theorem d14_11 : decode jdk_52_method_21_code 11 = .ok (.iload_n 1, 1) := by decide +kernel
theorem d14_12 : decode jdk_52_method_21_code 12 = .ok (.caload, 1) := by decide +kernel
theorem d14_13 : decode jdk_52_method_21_code 13 = .ok (.istore 6, 2) := by decide +kernel
theorem d14_15 : decode jdk_52_method_21_code 15 = .ok (.iload 6, 2) := by decide +kernel
theorem d14_17 : decode jdk_52_method_21_code 17 = .ok (.sipush 255, 3) := by decide +kernel
theorem d14_20 : decode jdk_52_method_21_code 20 = .ok (.if_icmp .le 6, 3) := by decide +kernel
theorem d14_26 : decode jdk_52_method_21_code 26 = .ok (.aload_n 2, 1) := by decide +kernel
theorem d14_27 : decode jdk_52_method_21_code 27 = .ok (.iload_n 3, 1) := by decide +kernel
theorem d14_28 : decode jdk_52_method_21_code 28 = .ok (.iload 6, 2) := by decide +kernel
theorem d14_30 : decode jdk_52_method_21_code 30 = .ok (.i2b, 1) := by decide +kernel
theorem d14_31 : decode jdk_52_method_21_code 31 = .ok (.bastore, 1) := by decide +kernel
theorem d14_32 : decode jdk_52_method_21_code 32 = .ok (.iinc 1 1, 3) := by decide +kernel
theorem d14_35 : decode jdk_52_method_21_code 35 = .ok (.iinc 3 1, 3) := by decide +kernel
theorem d14_38 : decode jdk_52_method_21_code 38 = .ok (.iinc 5 1, 3) := by decide +kernel
theorem d14_41 : decode jdk_52_method_21_code 41 = .ok (.goto (-38), 3) := by decide +kernel
theorem d14_44 : decode jdk_52_method_21_code 44 = .ok (.iload 4, 2) := by decide +kernel
theorem d14_46 : decode jdk_52_method_21_code 46 = .ok (.ireturn, 1) := by decide +kernel
def Q_cmp (Z : State) (d : Addr) (kd : ClassId) (b : Addr) (k : ClassId) (c0 : Int32) (c1 : Int32) (h0 : Heap) (n0 : Nat) (v : Option Value) (h : Heap) (L : List Loc) : Prop := v = some (.int (2 : Int32)) ∧ Fr n0 L ∧ Keep h0 h [b] ∧ (Arv Z h b k .byte (2 : Int32) [(.int (c0.toInt8.toInt32)), (.int (c1.toInt8.toInt32))] (.int (0 : Int32)))
set_option maxRecDepth 65536 in
set_option maxHeartbeats 40000000 in
theorem rm_cmp (l : Launch) (Z : State) (a0 : Array Value) (hw : ∀ d ∈ tables_1, d.before a0 Z = true) (ws : List Jvm.Cond) (d : Addr) (kd : ClassId) (b : Addr) (k : ClassId) (c0 : Int32) (c1 : Int32) (h0 : Heap) (n0 : Nat) (O0 : Old Z n0 h0) (u0 : ¬ ((255 : Int32) < c0)) (u1 : ¬ ((255 : Int32) < c1)) (u2 : Arv Z h0 d kd .char (2 : Int32) [(.int c0), (.int c1)] (.int (0 : Int32))) (u3 : Arv Z h0 b k .byte (2 : Int32) [(.int (0 : Int32)), (.int (0 : Int32))] (.int (0 : Int32))) (u4 : n0 ≤ b) (u5 : d ≠ b) :
    MetFree l (⟨"java/lang/StringUTF16", "compress", "([CI[BII)I"⟩ : MethodName) (head1 (Jvm.Cond.code (⟨"java/lang/StringUTF16", "compress", "([CI[BII)I"⟩ : MethodName) jdk_52_method_21_code 7 (some .int) :: ws) ({ frames := 0, cells := 0, slots := 0, locals := 0 } : Room)) (fun aV U => aV = #[(.ref d), (.int (0 : Int32)), (.ref b), (.int (0 : Int32)), (.int (2 : Int32))] ∧ Z.Warmed39 U.vm ∧ U.heap = h0) (fun _ _ _ _ _ => True) (fun _ U o U' => ∃ v L, o = .returned v ∧ Q_cmp Z d kd b k c0 c1 h0 n0 v U'.heap L ∧ FrameEnd U o U' L ({ frames := 0, cells := 0, slots := 0, locals := 0 } : Room).cells ({ frames := 0, cells := 0, slots := 0, locals := 0 } : Room).slots) := by
  refine MetFree.of_bodySF (plainFor_of_name pn_7) hisR ?_
  intro pr_ en_ st_ me_ args below meth_ co_ s₁ Bd hml0 hP hK
  obtain ⟨rfl, hZ, hh⟩ := hP
  have hx := Bd.exec
  have hby := Bd.bytes
  have hml : co_.maxLocals = 7 := hml0
  have hown : st_.vm.findClass "java/lang/StringUTF16" = some me_.cls := findClass_of_methodNamed Bd.named
  have hnm := (name_of_methodNamed Bd.named Bd.method).1
  have X0 : Stand pr_ l en_ ({ frames := 0, cells := 0, slots := 0, locals := 0 } : Room) st_ me_ #[(.ref d), (.int (0 : Int32)), (.ref b), (.int (0 : Int32)), (.int (2 : Int32))] below meth_ co_ s₁ [] 0 0 := Stand.of_body Bd
  have e0 : s₁.heap = h0 := by rw [← hh, Bd.state]; rfl
  have N0 := Fr.nil n0
  have K0 := Keep.refl h0 [b]
  obtain ⟨G, gv, gf, gb⟩ := own_G pr_.tables en_ below st_ (Q_cmp Z d kd b k c0 c1 h0 n0) ({ frames := 0, cells := 0, slots := 0, locals := 0 } : Room).cells ({ frames := 0, cells := 0, slots := 0, locals := 0 } : Room).slots
  show own_Fin pr_.tables en_ below st_ (Q_cmp Z d kd b k c0 c1 h0 n0) ({ frames := 0, cells := 0, slots := 0, locals := 0 } : Room).cells ({ frames := 0, cells := 0, slots := 0, locals := 0 } : Room).slots (s₁.setTop (entryFrame me_ #[(.ref d), (.int (0 : Int32)), (.ref b), (.int (0 : Int32)), (.int (2 : Int32))] 7))
  refine gb _ (gv (fun tQ kQ => castTop (ef_8 me_ d (0 : Int32) b (0 : Int32) (2 : Int32)) kQ) ?_)
  show G (s₁.setTop (mkF me_ 0 #[.val (.ref d), .val (.int (0 : Int32)), .val (.ref b), .val (.int (0 : Int32)), .val (.int (2 : Int32)), .unset, .unset] []))
  refine gv (fun tQ kQ => XS.iconst X0.here hx rfl (hb hby d14_0) kQ) ?_
  show G (s₁.setTop (mkF me_ 1 #[.val (.ref d), .val (.int (0 : Int32)), .val (.ref b), .val (.int (0 : Int32)), .val (.int (2 : Int32)), .unset, .unset] [(.int (0 : Int32))]))
  refine gv (fun tQ kQ => XS.istore X0.here hx rfl (hb hby d14_1) rfl (l' := #[.val (.ref d), .val (.int (0 : Int32)), .val (.ref b), .val (.int (0 : Int32)), .val (.int (2 : Int32)), .val (.int (0 : Int32)), .unset]) rfl kQ) ?_
  show G (s₁.setTop (mkF me_ 3 #[.val (.ref d), .val (.int (0 : Int32)), .val (.ref b), .val (.int (0 : Int32)), .val (.int (2 : Int32)), .val (.int (0 : Int32)), .unset] []))
  refine gv (fun tQ kQ => XS.iload X0.here hx rfl (hb hby d14_3) rfl kQ) ?_
  show G (s₁.setTop (mkF me_ 5 #[.val (.ref d), .val (.int (0 : Int32)), .val (.ref b), .val (.int (0 : Int32)), .val (.int (2 : Int32)), .val (.int (0 : Int32)), .unset] [(.int (0 : Int32))]))
  refine gv (fun tQ kQ => XS.iload X0.here hx rfl (hb hby d14_5) rfl kQ) ?_
  show G (s₁.setTop (mkF me_ 7 #[.val (.ref d), .val (.int (0 : Int32)), .val (.ref b), .val (.int (0 : Int32)), .val (.int (2 : Int32)), .val (.int (0 : Int32)), .unset] [(.int (2 : Int32)), (.int (0 : Int32))]))
  refine gv (fun tQ kQ => XS.icmpNo X0.here hx rfl (hb hby d14_7) rfl (tlt (by decide : (0 : Int32) < (2 : Int32))).2.1 kQ) ?_
  show G (s₁.setTop (mkF me_ 10 #[.val (.ref d), .val (.int (0 : Int32)), .val (.ref b), .val (.int (0 : Int32)), .val (.int (2 : Int32)), .val (.int (0 : Int32)), .unset] []))
  refine gv (fun tQ kQ => XS.aloadN X0.here hx rfl (hb hby d14_10) rfl rfl kQ) ?_
  show G (s₁.setTop (mkF me_ 11 #[.val (.ref d), .val (.int (0 : Int32)), .val (.ref b), .val (.int (0 : Int32)), .val (.int (2 : Int32)), .val (.int (0 : Int32)), .unset] [(.ref d)]))
  refine gv (fun tQ kQ => XS.iloadN X0.here hx rfl (hb hby d14_11) rfl kQ) ?_
  show G (s₁.setTop (mkF me_ 12 #[.val (.ref d), .val (.int (0 : Int32)), .val (.ref b), .val (.int (0 : Int32)), .val (.int (2 : Int32)), .val (.int (0 : Int32)), .unset] [(.int (0 : Int32)), (.ref d)]))
  obtain ⟨cl285, Ar285, q285, S285, n285, H285, G285⟩ := (id u2)
  have in285 : ¬ ((0 : Int32) < 0 ∨ cl285.slots.size ≤ ((0 : Int32)).toNatClampNeg) := inb_of S285 ⟨by decide, by decide⟩
  refine gv (X0.caload hx (j := (0 : Int32)) (v := (.int c0)) (by rw [e0]; exact Ar285.1) (State.isArrayOf_alike hZ.alike Ar285.2.1) Ar285.2.2 in285 (Has.at H285 in285 rfl) (g := (mkF me_ 12 #[.val (.ref d), .val (.int (0 : Int32)), .val (.ref b), .val (.int (0 : Int32)), .val (.int (2 : Int32)), .val (.int (0 : Int32)), .unset] [(.int (0 : Int32)), (.ref d)])) rfl rfl (hb hby d14_12)) ?_
  show G (s₁.setTop (mkF me_ 13 #[.val (.ref d), .val (.int (0 : Int32)), .val (.ref b), .val (.int (0 : Int32)), .val (.int (2 : Int32)), .val (.int (0 : Int32)), .unset] [(.int c0)]))
  refine gv (fun tQ kQ => XS.istore X0.here hx rfl (hb hby d14_13) rfl (l' := #[.val (.ref d), .val (.int (0 : Int32)), .val (.ref b), .val (.int (0 : Int32)), .val (.int (2 : Int32)), .val (.int (0 : Int32)), .val (.int c0)]) rfl kQ) ?_
  show G (s₁.setTop (mkF me_ 15 #[.val (.ref d), .val (.int (0 : Int32)), .val (.ref b), .val (.int (0 : Int32)), .val (.int (2 : Int32)), .val (.int (0 : Int32)), .val (.int c0)] []))
  refine gv (fun tQ kQ => XS.iload X0.here hx rfl (hb hby d14_15) rfl kQ) ?_
  show G (s₁.setTop (mkF me_ 17 #[.val (.ref d), .val (.int (0 : Int32)), .val (.ref b), .val (.int (0 : Int32)), .val (.int (2 : Int32)), .val (.int (0 : Int32)), .val (.int c0)] [(.int c0)]))
  refine gv (fun tQ kQ => XS.sipush X0.here hx rfl (hb hby d14_17) kQ) ?_
  show G (s₁.setTop (mkF me_ 20 #[.val (.ref d), .val (.int (0 : Int32)), .val (.ref b), .val (.int (0 : Int32)), .val (.int (2 : Int32)), .val (.int (0 : Int32)), .val (.int c0)] [(.int (255 : Int32)), (.int c0)]))
  refine gv (fun tQ kQ => XS.icmpYes X0.here hx rfl (pc0 := 20) (pc' := 26) rfl (hb hby d14_20) rfl (flt u0).2.2.2 (by decide) (by decide) kQ) ?_
  show G (s₁.setTop (mkF me_ 26 #[.val (.ref d), .val (.int (0 : Int32)), .val (.ref b), .val (.int (0 : Int32)), .val (.int (2 : Int32)), .val (.int (0 : Int32)), .val (.int c0)] []))
  refine gv (fun tQ kQ => XS.aloadN X0.here hx rfl (hb hby d14_26) rfl rfl kQ) ?_
  show G (s₁.setTop (mkF me_ 27 #[.val (.ref d), .val (.int (0 : Int32)), .val (.ref b), .val (.int (0 : Int32)), .val (.int (2 : Int32)), .val (.int (0 : Int32)), .val (.int c0)] [(.ref b)]))
  refine gv (fun tQ kQ => XS.iloadN X0.here hx rfl (hb hby d14_27) rfl kQ) ?_
  show G (s₁.setTop (mkF me_ 28 #[.val (.ref d), .val (.int (0 : Int32)), .val (.ref b), .val (.int (0 : Int32)), .val (.int (2 : Int32)), .val (.int (0 : Int32)), .val (.int c0)] [(.int (0 : Int32)), (.ref b)]))
  refine gv (fun tQ kQ => XS.iload X0.here hx rfl (hb hby d14_28) rfl kQ) ?_
  show G (s₁.setTop (mkF me_ 30 #[.val (.ref d), .val (.int (0 : Int32)), .val (.ref b), .val (.int (0 : Int32)), .val (.int (2 : Int32)), .val (.int (0 : Int32)), .val (.int c0)] [(.int c0), (.int (0 : Int32)), (.ref b)]))
  refine gv (fun tQ kQ => XS.i2b X0.here hx rfl (hb hby d14_30) rfl kQ) ?_
  show G (s₁.setTop (mkF me_ 31 #[.val (.ref d), .val (.int (0 : Int32)), .val (.ref b), .val (.int (0 : Int32)), .val (.int (2 : Int32)), .val (.int (0 : Int32)), .val (.int c0)] [(.int (c0.toInt8.toInt32)), (.int (0 : Int32)), (.ref b)]))
  obtain ⟨cl286, Ar286, q286, S286, n286, H286, G286⟩ := (id u3)
  have in286 : ¬ ((0 : Int32) < 0 ∨ cl286.slots.size ≤ ((0 : Int32)).toNatClampNeg) := inb_of S286 ⟨by decide, by decide⟩
  obtain ⟨T286, h286, X286, e286, W286, st286⟩ := stB X0 hx hZ e0 Ar286 (j := (0 : Int32)) in286 (g := (mkF me_ 31 #[.val (.ref d), .val (.int (0 : Int32)), .val (.ref b), .val (.int (0 : Int32)), .val (.int (2 : Int32)), .val (.int (0 : Int32)), .val (.int c0)] [(.int (c0.toInt8.toInt32)), (.int (0 : Int32)), (.ref b)])) rfl rfl (hb hby d14_31)
  have W286 : Wr h0 h286 b ((0 : Int32)).toNatClampNeg (.int (c0.toInt8.toInt32)) := by have z := W286; rw [(own_narB _)] at z; exact z
  refine gv st286 ?_
  have f288 : Arv Z h286 d kd .char (2 : Int32) [(.int c0), (.int c1)] (.int (0 : Int32)) := u2.other W286 u5
  have O289 := O0.wr W286 u4
  have K290 := K0.wr W286 (Or.inl (List.mem_of_getElem? (i := 0) rfl))
  have N291 := Fr.snoc X286 N0 u4
  have f287 : Arv Z h286 b k .byte (2 : Int32) [(.int (c0.toInt8.toInt32)), (.int (0 : Int32))] (.int (0 : Int32)) := Arv.set Ar286 q286 S286 n286 H286 G286 (fits_nar_byte _) W286 0 rfl (Nat.le_of_ble_eq_true rfl)
  show G (T286.setTop (mkF me_ 32 #[.val (.ref d), .val (.int (0 : Int32)), .val (.ref b), .val (.int (0 : Int32)), .val (.int (2 : Int32)), .val (.int (0 : Int32)), .val (.int c0)] []))
  refine gv (fun tQ kQ => XS.iinc X286.here hx rfl (hb hby d14_32) rfl (l' := #[.val (.ref d), .val (.int ((0 : Int32) + (1 : Int32))), .val (.ref b), .val (.int (0 : Int32)), .val (.int (2 : Int32)), .val (.int (0 : Int32)), .val (.int c0)]) rfl kQ) ?_
  show G (T286.setTop (mkF me_ 35 #[.val (.ref d), .val (.int ((0 : Int32) + (1 : Int32))), .val (.ref b), .val (.int (0 : Int32)), .val (.int (2 : Int32)), .val (.int (0 : Int32)), .val (.int c0)] []))
  rw [(by decide : ((0 : Int32) + (1 : Int32)) = (1 : Int32))]
  show G (T286.setTop (mkF me_ 35 #[.val (.ref d), .val (.int (1 : Int32)), .val (.ref b), .val (.int (0 : Int32)), .val (.int (2 : Int32)), .val (.int (0 : Int32)), .val (.int c0)] []))
  refine gv (fun tQ kQ => XS.iinc X286.here hx rfl (hb hby d14_35) rfl (l' := #[.val (.ref d), .val (.int (1 : Int32)), .val (.ref b), .val (.int ((0 : Int32) + (1 : Int32))), .val (.int (2 : Int32)), .val (.int (0 : Int32)), .val (.int c0)]) rfl kQ) ?_
  show G (T286.setTop (mkF me_ 38 #[.val (.ref d), .val (.int (1 : Int32)), .val (.ref b), .val (.int ((0 : Int32) + (1 : Int32))), .val (.int (2 : Int32)), .val (.int (0 : Int32)), .val (.int c0)] []))
  rw [(by decide : ((0 : Int32) + (1 : Int32)) = (1 : Int32))]
  show G (T286.setTop (mkF me_ 38 #[.val (.ref d), .val (.int (1 : Int32)), .val (.ref b), .val (.int (1 : Int32)), .val (.int (2 : Int32)), .val (.int (0 : Int32)), .val (.int c0)] []))
  refine gv (fun tQ kQ => XS.iinc X286.here hx rfl (hb hby d14_38) rfl (l' := #[.val (.ref d), .val (.int (1 : Int32)), .val (.ref b), .val (.int (1 : Int32)), .val (.int (2 : Int32)), .val (.int ((0 : Int32) + (1 : Int32))), .val (.int c0)]) rfl kQ) ?_
  show G (T286.setTop (mkF me_ 41 #[.val (.ref d), .val (.int (1 : Int32)), .val (.ref b), .val (.int (1 : Int32)), .val (.int (2 : Int32)), .val (.int ((0 : Int32) + (1 : Int32))), .val (.int c0)] []))
  rw [(by decide : ((0 : Int32) + (1 : Int32)) = (1 : Int32))]
  show G (T286.setTop (mkF me_ 41 #[.val (.ref d), .val (.int (1 : Int32)), .val (.ref b), .val (.int (1 : Int32)), .val (.int (2 : Int32)), .val (.int (1 : Int32)), .val (.int c0)] []))
  refine gv (fun tQ kQ => XS.goto X286.here hx rfl (pc0 := 41) (pc' := 3) rfl (hb hby d14_41) (by decide) (by decide) kQ) ?_
  show G (T286.setTop (mkF me_ 3 #[.val (.ref d), .val (.int (1 : Int32)), .val (.ref b), .val (.int (1 : Int32)), .val (.int (2 : Int32)), .val (.int (1 : Int32)), .val (.int c0)] []))
  refine gv (fun tQ kQ => XS.iload X286.here hx rfl (hb hby d14_3) rfl kQ) ?_
  show G (T286.setTop (mkF me_ 5 #[.val (.ref d), .val (.int (1 : Int32)), .val (.ref b), .val (.int (1 : Int32)), .val (.int (2 : Int32)), .val (.int (1 : Int32)), .val (.int c0)] [(.int (1 : Int32))]))
  refine gv (fun tQ kQ => XS.iload X286.here hx rfl (hb hby d14_5) rfl kQ) ?_
  show G (T286.setTop (mkF me_ 7 #[.val (.ref d), .val (.int (1 : Int32)), .val (.ref b), .val (.int (1 : Int32)), .val (.int (2 : Int32)), .val (.int (1 : Int32)), .val (.int c0)] [(.int (2 : Int32)), (.int (1 : Int32))]))
  refine gv (fun tQ kQ => XS.icmpNo X286.here hx rfl (hb hby d14_7) rfl (tlt (by decide : (1 : Int32) < (2 : Int32))).2.1 kQ) ?_
  show G (T286.setTop (mkF me_ 10 #[.val (.ref d), .val (.int (1 : Int32)), .val (.ref b), .val (.int (1 : Int32)), .val (.int (2 : Int32)), .val (.int (1 : Int32)), .val (.int c0)] []))
  refine gv (fun tQ kQ => XS.aloadN X286.here hx rfl (hb hby d14_10) rfl rfl kQ) ?_
  show G (T286.setTop (mkF me_ 11 #[.val (.ref d), .val (.int (1 : Int32)), .val (.ref b), .val (.int (1 : Int32)), .val (.int (2 : Int32)), .val (.int (1 : Int32)), .val (.int c0)] [(.ref d)]))
  refine gv (fun tQ kQ => XS.iloadN X286.here hx rfl (hb hby d14_11) rfl kQ) ?_
  show G (T286.setTop (mkF me_ 12 #[.val (.ref d), .val (.int (1 : Int32)), .val (.ref b), .val (.int (1 : Int32)), .val (.int (2 : Int32)), .val (.int (1 : Int32)), .val (.int c0)] [(.int (1 : Int32)), (.ref d)]))
  obtain ⟨cl292, Ar292, q292, S292, n292, H292, G292⟩ := (id f288)
  have in292 : ¬ ((1 : Int32) < 0 ∨ cl292.slots.size ≤ ((1 : Int32)).toNatClampNeg) := inb_of S292 ⟨by decide, by decide⟩
  refine gv (X286.caload hx (j := (1 : Int32)) (v := (.int c1)) (by rw [e286]; exact Ar292.1) (State.isArrayOf_alike hZ.alike Ar292.2.1) Ar292.2.2 in292 (Has.at H292 in292 rfl) (g := (mkF me_ 12 #[.val (.ref d), .val (.int (1 : Int32)), .val (.ref b), .val (.int (1 : Int32)), .val (.int (2 : Int32)), .val (.int (1 : Int32)), .val (.int c0)] [(.int (1 : Int32)), (.ref d)])) rfl rfl (hb hby d14_12)) ?_
  show G (T286.setTop (mkF me_ 13 #[.val (.ref d), .val (.int (1 : Int32)), .val (.ref b), .val (.int (1 : Int32)), .val (.int (2 : Int32)), .val (.int (1 : Int32)), .val (.int c0)] [(.int c1)]))
  refine gv (fun tQ kQ => XS.istore X286.here hx rfl (hb hby d14_13) rfl (l' := #[.val (.ref d), .val (.int (1 : Int32)), .val (.ref b), .val (.int (1 : Int32)), .val (.int (2 : Int32)), .val (.int (1 : Int32)), .val (.int c1)]) rfl kQ) ?_
  show G (T286.setTop (mkF me_ 15 #[.val (.ref d), .val (.int (1 : Int32)), .val (.ref b), .val (.int (1 : Int32)), .val (.int (2 : Int32)), .val (.int (1 : Int32)), .val (.int c1)] []))
  refine gv (fun tQ kQ => XS.iload X286.here hx rfl (hb hby d14_15) rfl kQ) ?_
  show G (T286.setTop (mkF me_ 17 #[.val (.ref d), .val (.int (1 : Int32)), .val (.ref b), .val (.int (1 : Int32)), .val (.int (2 : Int32)), .val (.int (1 : Int32)), .val (.int c1)] [(.int c1)]))
  refine gv (fun tQ kQ => XS.sipush X286.here hx rfl (hb hby d14_17) kQ) ?_
  show G (T286.setTop (mkF me_ 20 #[.val (.ref d), .val (.int (1 : Int32)), .val (.ref b), .val (.int (1 : Int32)), .val (.int (2 : Int32)), .val (.int (1 : Int32)), .val (.int c1)] [(.int (255 : Int32)), (.int c1)]))
  refine gv (fun tQ kQ => XS.icmpYes X286.here hx rfl (pc0 := 20) (pc' := 26) rfl (hb hby d14_20) rfl (flt u1).2.2.2 (by decide) (by decide) kQ) ?_
  show G (T286.setTop (mkF me_ 26 #[.val (.ref d), .val (.int (1 : Int32)), .val (.ref b), .val (.int (1 : Int32)), .val (.int (2 : Int32)), .val (.int (1 : Int32)), .val (.int c1)] []))
  refine gv (fun tQ kQ => XS.aloadN X286.here hx rfl (hb hby d14_26) rfl rfl kQ) ?_
  show G (T286.setTop (mkF me_ 27 #[.val (.ref d), .val (.int (1 : Int32)), .val (.ref b), .val (.int (1 : Int32)), .val (.int (2 : Int32)), .val (.int (1 : Int32)), .val (.int c1)] [(.ref b)]))
  refine gv (fun tQ kQ => XS.iloadN X286.here hx rfl (hb hby d14_27) rfl kQ) ?_
  show G (T286.setTop (mkF me_ 28 #[.val (.ref d), .val (.int (1 : Int32)), .val (.ref b), .val (.int (1 : Int32)), .val (.int (2 : Int32)), .val (.int (1 : Int32)), .val (.int c1)] [(.int (1 : Int32)), (.ref b)]))
  refine gv (fun tQ kQ => XS.iload X286.here hx rfl (hb hby d14_28) rfl kQ) ?_
  show G (T286.setTop (mkF me_ 30 #[.val (.ref d), .val (.int (1 : Int32)), .val (.ref b), .val (.int (1 : Int32)), .val (.int (2 : Int32)), .val (.int (1 : Int32)), .val (.int c1)] [(.int c1), (.int (1 : Int32)), (.ref b)]))
  refine gv (fun tQ kQ => XS.i2b X286.here hx rfl (hb hby d14_30) rfl kQ) ?_
  show G (T286.setTop (mkF me_ 31 #[.val (.ref d), .val (.int (1 : Int32)), .val (.ref b), .val (.int (1 : Int32)), .val (.int (2 : Int32)), .val (.int (1 : Int32)), .val (.int c1)] [(.int (c1.toInt8.toInt32)), (.int (1 : Int32)), (.ref b)]))
  obtain ⟨cl293, Ar293, q293, S293, n293, H293, G293⟩ := (id f287)
  have in293 : ¬ ((1 : Int32) < 0 ∨ cl293.slots.size ≤ ((1 : Int32)).toNatClampNeg) := inb_of S293 ⟨by decide, by decide⟩
  obtain ⟨T293, h293, X293, e293, W293, st293⟩ := stB X286 hx hZ e286 Ar293 (j := (1 : Int32)) in293 (g := (mkF me_ 31 #[.val (.ref d), .val (.int (1 : Int32)), .val (.ref b), .val (.int (1 : Int32)), .val (.int (2 : Int32)), .val (.int (1 : Int32)), .val (.int c1)] [(.int (c1.toInt8.toInt32)), (.int (1 : Int32)), (.ref b)])) rfl rfl (hb hby d14_31)
  have W293 : Wr h286 h293 b ((1 : Int32)).toNatClampNeg (.int (c1.toInt8.toInt32)) := by have z := W293; rw [(own_narB _)] at z; exact z
  refine gv st293 ?_
  have f295 : Arv Z h293 d kd .char (2 : Int32) [(.int c0), (.int c1)] (.int (0 : Int32)) := f288.other W293 u5
  have O296 := O289.wr W293 u4
  have K297 := K290.wr W293 (Or.inl (List.mem_of_getElem? (i := 0) rfl))
  have N298 := Fr.snoc X293 N291 u4
  have f294 : Arv Z h293 b k .byte (2 : Int32) [(.int (c0.toInt8.toInt32)), (.int (c1.toInt8.toInt32))] (.int (0 : Int32)) := Arv.set Ar293 q293 S293 n293 H293 G293 (fits_nar_byte _) W293 1 rfl (Nat.le_of_ble_eq_true rfl)
  show G (T293.setTop (mkF me_ 32 #[.val (.ref d), .val (.int (1 : Int32)), .val (.ref b), .val (.int (1 : Int32)), .val (.int (2 : Int32)), .val (.int (1 : Int32)), .val (.int c1)] []))
  refine gv (fun tQ kQ => XS.iinc X293.here hx rfl (hb hby d14_32) rfl (l' := #[.val (.ref d), .val (.int ((1 : Int32) + (1 : Int32))), .val (.ref b), .val (.int (1 : Int32)), .val (.int (2 : Int32)), .val (.int (1 : Int32)), .val (.int c1)]) rfl kQ) ?_
  show G (T293.setTop (mkF me_ 35 #[.val (.ref d), .val (.int ((1 : Int32) + (1 : Int32))), .val (.ref b), .val (.int (1 : Int32)), .val (.int (2 : Int32)), .val (.int (1 : Int32)), .val (.int c1)] []))
  rw [(by decide : ((1 : Int32) + (1 : Int32)) = (2 : Int32))]
  show G (T293.setTop (mkF me_ 35 #[.val (.ref d), .val (.int (2 : Int32)), .val (.ref b), .val (.int (1 : Int32)), .val (.int (2 : Int32)), .val (.int (1 : Int32)), .val (.int c1)] []))
  refine gv (fun tQ kQ => XS.iinc X293.here hx rfl (hb hby d14_35) rfl (l' := #[.val (.ref d), .val (.int (2 : Int32)), .val (.ref b), .val (.int ((1 : Int32) + (1 : Int32))), .val (.int (2 : Int32)), .val (.int (1 : Int32)), .val (.int c1)]) rfl kQ) ?_
  show G (T293.setTop (mkF me_ 38 #[.val (.ref d), .val (.int (2 : Int32)), .val (.ref b), .val (.int ((1 : Int32) + (1 : Int32))), .val (.int (2 : Int32)), .val (.int (1 : Int32)), .val (.int c1)] []))
  rw [(by decide : ((1 : Int32) + (1 : Int32)) = (2 : Int32))]
  show G (T293.setTop (mkF me_ 38 #[.val (.ref d), .val (.int (2 : Int32)), .val (.ref b), .val (.int (2 : Int32)), .val (.int (2 : Int32)), .val (.int (1 : Int32)), .val (.int c1)] []))
  refine gv (fun tQ kQ => XS.iinc X293.here hx rfl (hb hby d14_38) rfl (l' := #[.val (.ref d), .val (.int (2 : Int32)), .val (.ref b), .val (.int (2 : Int32)), .val (.int (2 : Int32)), .val (.int ((1 : Int32) + (1 : Int32))), .val (.int c1)]) rfl kQ) ?_
  show G (T293.setTop (mkF me_ 41 #[.val (.ref d), .val (.int (2 : Int32)), .val (.ref b), .val (.int (2 : Int32)), .val (.int (2 : Int32)), .val (.int ((1 : Int32) + (1 : Int32))), .val (.int c1)] []))
  rw [(by decide : ((1 : Int32) + (1 : Int32)) = (2 : Int32))]
  show G (T293.setTop (mkF me_ 41 #[.val (.ref d), .val (.int (2 : Int32)), .val (.ref b), .val (.int (2 : Int32)), .val (.int (2 : Int32)), .val (.int (2 : Int32)), .val (.int c1)] []))
  refine gv (fun tQ kQ => XS.goto X293.here hx rfl (pc0 := 41) (pc' := 3) rfl (hb hby d14_41) (by decide) (by decide) kQ) ?_
  show G (T293.setTop (mkF me_ 3 #[.val (.ref d), .val (.int (2 : Int32)), .val (.ref b), .val (.int (2 : Int32)), .val (.int (2 : Int32)), .val (.int (2 : Int32)), .val (.int c1)] []))
  refine gv (fun tQ kQ => XS.iload X293.here hx rfl (hb hby d14_3) rfl kQ) ?_
  show G (T293.setTop (mkF me_ 5 #[.val (.ref d), .val (.int (2 : Int32)), .val (.ref b), .val (.int (2 : Int32)), .val (.int (2 : Int32)), .val (.int (2 : Int32)), .val (.int c1)] [(.int (2 : Int32))]))
  refine gv (fun tQ kQ => XS.iload X293.here hx rfl (hb hby d14_5) rfl kQ) ?_
  show G (T293.setTop (mkF me_ 7 #[.val (.ref d), .val (.int (2 : Int32)), .val (.ref b), .val (.int (2 : Int32)), .val (.int (2 : Int32)), .val (.int (2 : Int32)), .val (.int c1)] [(.int (2 : Int32)), (.int (2 : Int32))]))
  refine gv (fun tQ kQ => XS.icmpYes X293.here hx rfl (pc0 := 7) (pc' := 44) rfl (hb hby d14_7) rfl (flt (by decide : ¬ ((2 : Int32) < (2 : Int32)))).2.1 (by decide) (by decide) kQ) ?_
  show G (T293.setTop (mkF me_ 44 #[.val (.ref d), .val (.int (2 : Int32)), .val (.ref b), .val (.int (2 : Int32)), .val (.int (2 : Int32)), .val (.int (2 : Int32)), .val (.int c1)] []))
  refine gv (fun tQ kQ => XS.iload X293.here hx rfl (hb hby d14_44) rfl kQ) ?_
  show G (T293.setTop (mkF me_ 46 #[.val (.ref d), .val (.int (2 : Int32)), .val (.ref b), .val (.int (2 : Int32)), .val (.int (2 : Int32)), .val (.int (2 : Int32)), .val (.int c1)] [(.int (2 : Int32))]))
  refine gf _ (own_ret X293 Bd.notSynchronized (v := some (.int (2 : Int32))) (fun h => by rw [Bd.returns] at h; cases h) ?_ (by decide) (by decide) (fun fs hr => retOut X293 hx (t := .int) Bd.returns rfl (Or.inl ⟨rfl, Or.inl rfl, _, rfl⟩) (hb hby d14_46) hr))
  show Q_cmp Z d kd b k c0 c1 h0 n0 _ T293.heap _
  rw [e293]
  exact ⟨rfl, N298, K297, f294⟩
theorem ef_9 (m : MethodId) (x0 : Addr) (x1 : Int32) (x2 : Int32)  : entryFrame m #[(.ref x0), (.int x1), (.int x2)] 6 = mkF m 0 #[.val (.ref x0), .val (.int x1), .val (.int x2), .unset, .unset, .unset] [] := by first | (simp [entryFrame, mkF, argsToLocals, Value.category]; done) | rfl
theorem d13_0 : decode jdk_52_method_16_code 0 = .ok (.iload_n 2, 1) := by decide +kernel
theorem d13_1 : decode jdk_52_method_16_code 1 = .ok (.newarray .byte, 2) := by decide +kernel
theorem d13_3 : decode jdk_52_method_16_code 3 = .ok (.astore_n 3, 1) := by decide +kernel
theorem d13_4 : decode jdk_52_method_16_code 4 = .ok (.aload_n 0, 1) := by decide +kernel
theorem d13_5 : decode jdk_52_method_16_code 5 = .ok (.iload_n 1, 1) := by decide +kernel
theorem d13_6 : decode jdk_52_method_16_code 6 = .ok (.aload_n 3, 1) := by decide +kernel
theorem d13_7 : decode jdk_52_method_16_code 7 = .ok (.iconst 0, 1) := by decide +kernel
theorem d13_8 : decode jdk_52_method_16_code 8 = .ok (.iload_n 2, 1) := by decide +kernel
theorem d13_9 : decode jdk_52_method_16_code 9 = .ok (.invokestatic 115, 3) := by decide +kernel
theorem pd_9 : parseMethodDescriptor "([CI[BII)I" = some ⟨[(.array .char), .int, (.array .byte), .int, .int], some .int⟩ := by decide +kernel
theorem d13_12 : decode jdk_52_method_16_code 12 = .ok (.istore 4, 2) := by decide +kernel
theorem d13_14 : decode jdk_52_method_16_code 14 = .ok (.iload 4, 2) := by decide +kernel
theorem d13_16 : decode jdk_52_method_16_code 16 = .ok (.iload_n 2, 1) := by decide +kernel
theorem d13_17 : decode jdk_52_method_16_code 17 = .ok (.if_icmp .eq 40, 3) := by decide +kernel
theorem d13_57 : decode jdk_52_method_16_code 57 = .ok (.aload_n 3, 1) := by decide +kernel
theorem d13_58 : decode jdk_52_method_16_code 58 = .ok (.areturn, 1) := by decide +kernel
def Q_cmpr (Z : State) (d : Addr) (kd : ClassId) (c0 : Int32) (c1 : Int32) (h0 : Heap) (n0 : Nat) (v : Option Value) (h : Heap) (L : List Loc) : Prop := ∃ (b : Addr), ∃ (k : ClassId), v = some (.ref b) ∧ Fr n0 L ∧ Keep h0 h [] ∧ h0.size ≤ b ∧ (Arv Z h b k .byte (2 : Int32) [(.int (c0.toInt8.toInt32)), (.int (c1.toInt8.toInt32))] (.int (0 : Int32)))
set_option maxRecDepth 65536 in
set_option maxHeartbeats 40000000 in
theorem rm_cmpr (l : Launch) (Z : State) (a0 : Array Value) (hw : ∀ d ∈ tables_1, d.before a0 Z = true) (ws : List Jvm.Cond) (d : Addr) (kd : ClassId) (c0 : Int32) (c1 : Int32) (h0 : Heap) (n0 : Nat) (O0 : Old Z n0 h0) (u0 : ¬ ((255 : Int32) < c0)) (u1 : ¬ ((255 : Int32) < c1)) (u2 : Arv Z h0 d kd .char (2 : Int32) [(.int c0), (.int c1)] (.int (0 : Int32))) :
    MetFree l (⟨"java/lang/StringUTF16", "compress", "([CII)[B"⟩ : MethodName) (head1 (Jvm.Cond.code (⟨"java/lang/StringUTF16", "compress", "([CII)[B"⟩ : MethodName) jdk_52_method_16_code 6 (some (.array .byte)) :: ws) ({ frames := 1, cells := 1, slots := 2, locals := 18 } : Room)) (fun aV U => aV = #[(.ref d), (.int (0 : Int32)), (.int (2 : Int32))] ∧ Z.Warmed39 U.vm ∧ U.heap = h0) (fun _ _ _ _ _ => True) (fun _ U o U' => ∃ v L, o = .returned v ∧ Q_cmpr Z d kd c0 c1 h0 n0 v U'.heap L ∧ FrameEnd U o U' L ({ frames := 1, cells := 1, slots := 2, locals := 18 } : Room).cells ({ frames := 1, cells := 1, slots := 2, locals := 18 } : Room).slots) := by
  refine MetFree.of_bodySF (plainFor_of_name pn_7) hisR ?_
  intro pr_ en_ st_ me_ args below meth_ co_ s₁ Bd hml0 hP hK
  obtain ⟨rfl, hZ, hh⟩ := hP
  have hx := Bd.exec
  have hby := Bd.bytes
  have hml : co_.maxLocals = 6 := hml0
  have hown : st_.vm.findClass "java/lang/StringUTF16" = some me_.cls := findClass_of_methodNamed Bd.named
  have hnm := (name_of_methodNamed Bd.named Bd.method).1
  have X0 : Stand pr_ l en_ ({ frames := 1, cells := 1, slots := 2, locals := 18 } : Room) st_ me_ #[(.ref d), (.int (0 : Int32)), (.int (2 : Int32))] below meth_ co_ s₁ [] 0 0 := Stand.of_body Bd
  have e0 : s₁.heap = h0 := by rw [← hh, Bd.state]; rfl
  have N0 := Fr.nil n0
  have K0 := Keep.refl h0 []
  obtain ⟨G, gv, gf, gb⟩ := own_G pr_.tables en_ below st_ (Q_cmpr Z d kd c0 c1 h0 n0) ({ frames := 1, cells := 1, slots := 2, locals := 18 } : Room).cells ({ frames := 1, cells := 1, slots := 2, locals := 18 } : Room).slots
  show own_Fin pr_.tables en_ below st_ (Q_cmpr Z d kd c0 c1 h0 n0) ({ frames := 1, cells := 1, slots := 2, locals := 18 } : Room).cells ({ frames := 1, cells := 1, slots := 2, locals := 18 } : Room).slots (s₁.setTop (entryFrame me_ #[(.ref d), (.int (0 : Int32)), (.int (2 : Int32))] 6))
  refine gb _ (gv (fun tQ kQ => castTop (ef_9 me_ d (0 : Int32) (2 : Int32)) kQ) ?_)
  show G (s₁.setTop (mkF me_ 0 #[.val (.ref d), .val (.int (0 : Int32)), .val (.int (2 : Int32)), .unset, .unset, .unset] []))
  refine gv (fun tQ kQ => XS.iloadN X0.here hx rfl (hb hby d13_0) rfl kQ) ?_
  show G (s₁.setTop (mkF me_ 1 #[.val (.ref d), .val (.int (0 : Int32)), .val (.int (2 : Int32)), .unset, .unset, .unset] [(.int (2 : Int32))]))
  obtain ⟨T299, h299, k299, X299, e299, E299, A299, st299⟩ := newP X0 hx hZ (hw _ (List.mem_of_getElem? (i := 41) rfl)) e0 (g := (mkF me_ 1 #[.val (.ref d), .val (.int (0 : Int32)), .val (.int (2 : Int32)), .unset, .unset, .unset] [(.int (2 : Int32))])) rfl (hb hby d13_1) rfl (by decide) (cap := 2) (by decide) (by decide) (by decide) (by decide)
  obtain ⟨b299, g299⟩ : ∃ z, z = h0.size := ⟨_, rfl⟩
  rw [← g299] at A299 st299
  refine gv st299 ?_
  have ne300 : d ≠ b299 := Nat.ne_of_lt (Nat.lt_of_lt_of_le u2.lt (Nat.le_of_eq g299.symm))
  have g301 : n0 ≤ b299 := Nat.le_trans (own_old O0) (Nat.le_of_eq g299.symm)
  have z302 : h0.size ≤ b299 := Nat.le_trans K0.1 (Nat.le_of_eq g299.symm)
  have f303 : Arv Z h299 d kd .char (2 : Int32) [(.int c0), (.int c1)] (.int (0 : Int32)) := u2.ext E299
  have O304 := O0.ext E299
  have K305 := K0.ext E299
  have V299 : Arv Z h299 b299 k299 .byte (2 : Int32) [(.int (0 : Int32)), (.int (0 : Int32))] (.int (0 : Int32)) := (Arv.new A299 (by decide)).pad (pad_rep [] (.int (0 : Int32)) 2)
  show G (T299.setTop (mkF me_ 3 #[.val (.ref d), .val (.int (0 : Int32)), .val (.int (2 : Int32)), .unset, .unset, .unset] [(.ref b299)]))
  refine gv (fun tQ kQ => XS.astoreN X299.here hx rfl (hb hby d13_3) rfl rfl (l' := #[.val (.ref d), .val (.int (0 : Int32)), .val (.int (2 : Int32)), .val (.ref b299), .unset, .unset]) rfl kQ) ?_
  show G (T299.setTop (mkF me_ 4 #[.val (.ref d), .val (.int (0 : Int32)), .val (.int (2 : Int32)), .val (.ref b299), .unset, .unset] []))
  refine gv (fun tQ kQ => XS.aloadN X299.here hx rfl (hb hby d13_4) rfl rfl kQ) ?_
  show G (T299.setTop (mkF me_ 5 #[.val (.ref d), .val (.int (0 : Int32)), .val (.int (2 : Int32)), .val (.ref b299), .unset, .unset] [(.ref d)]))
  refine gv (fun tQ kQ => XS.iloadN X299.here hx rfl (hb hby d13_5) rfl kQ) ?_
  show G (T299.setTop (mkF me_ 6 #[.val (.ref d), .val (.int (0 : Int32)), .val (.int (2 : Int32)), .val (.ref b299), .unset, .unset] [(.int (0 : Int32)), (.ref d)]))
  refine gv (fun tQ kQ => XS.aloadN X299.here hx rfl (hb hby d13_6) rfl rfl kQ) ?_
  show G (T299.setTop (mkF me_ 7 #[.val (.ref d), .val (.int (0 : Int32)), .val (.int (2 : Int32)), .val (.ref b299), .unset, .unset] [(.ref b299), (.int (0 : Int32)), (.ref d)]))
  refine gv (fun tQ kQ => XS.iconst X299.here hx rfl (hb hby d13_7) kQ) ?_
  show G (T299.setTop (mkF me_ 8 #[.val (.ref d), .val (.int (0 : Int32)), .val (.int (2 : Int32)), .val (.ref b299), .unset, .unset] [(.int (0 : Int32)), (.ref b299), (.int (0 : Int32)), (.ref d)]))
  refine gv (fun tQ kQ => XS.iloadN X299.here hx rfl (hb hby d13_8) rfl kQ) ?_
  show G (T299.setTop (mkF me_ 9 #[.val (.ref d), .val (.int (0 : Int32)), .val (.int (2 : Int32)), .val (.ref b299), .unset, .unset] [(.int (2 : Int32)), (.int (0 : Int32)), (.ref b299), (.int (0 : Int32)), (.ref d)]))
  obtain ⟨_, _, ⟨T306, L306, k306, n306⟩, -, X306, ⟨Lc306, hQ306, l306, y306, z306⟩, st306⟩ := Jvm.LawKit.callS X299 hx (y := (⟨"java/lang/StringUTF16", "compress", "([CI[BII)I"⟩ : MethodName)) hown (mvT hZ (hw _ (List.mem_of_getElem? (i := 78) rfl))) (mvT hZ (hw _ (List.mem_of_getElem? (i := 79) rfl))) (mvT hZ (hw _ (List.mem_of_getElem? (i := 76) rfl))) (mvT hZ (hw _ (List.mem_of_getElem? (i := 80) rfl))) (by decide) (backOf (W := 0) (rm_cmp l Z a0 hw [] d kd b299 k299 c0 c1 h299 n0 O304 u0 u1 f303 V299 g301 ne300) hZ (hw _ (List.mem_of_getElem? (i := 80) rfl)) (hw _ (List.mem_of_getElem? (i := 76) rfl)) (by decide) (by decide)) (g := (mkF me_ 9 #[.val (.ref d), .val (.int (0 : Int32)), .val (.int (2 : Int32)), .val (.ref b299), .unset, .unset] [(.int (2 : Int32)), (.int (0 : Int32)), (.ref b299), (.int (0 : Int32)), (.ref d)])) rfl (by rw [hml]; rfl) (argsL := [(.ref d), (.int (0 : Int32)), (.ref b299), (.int (0 : Int32)), (.int (2 : Int32))]) (rest := []) (lenOf pd_9 rfl) rfl (by show 2 * 0 + _ ≤ _; exact Nat.le_of_eq rfl) (hb hby d13_9) (fun _ _ => ⟨rfl, e299, (by decide : 1 + 0 ≤ _), (by decide : 2 + 0 ≤ _)⟩)
  dsimp only [Pt.U, Pt.locs, Pt.cells, Pt.slots] at X306 l306 y306 z306 st306 hQ306
  subst l306 y306 z306
  obtain ⟨rfl, Nq306, Kq306, w306_0⟩ := hQ306
  have N307 := Fr.app N0 Nq306
  obtain ⟨h306, e306⟩ : ∃ z, T306.heap = z := ⟨_, rfl⟩
  rw [e306] at Kq306 w306_0
  have f308 : Arv Z h306 d kd .char (2 : Int32) [(.int c0), (.int c1)] (.int (0 : Int32)) := f303.keep Kq306 (ninS ne300 nin0)
  have O309 := O304.keep Kq306 (allS g301 all0)
  have K310 := K305.trans Kq306 (allS (Or.inr z302) all0)
  refine gv st306 ?_
  show G (T306.setTop (mkF me_ 12 #[.val (.ref d), .val (.int (0 : Int32)), .val (.int (2 : Int32)), .val (.ref b299), .unset, .unset] [(.int (2 : Int32))]))
  refine gv (fun tQ kQ => XS.istore X306.here hx rfl (hb hby d13_12) rfl (l' := #[.val (.ref d), .val (.int (0 : Int32)), .val (.int (2 : Int32)), .val (.ref b299), .val (.int (2 : Int32)), .unset]) rfl kQ) ?_
  show G (T306.setTop (mkF me_ 14 #[.val (.ref d), .val (.int (0 : Int32)), .val (.int (2 : Int32)), .val (.ref b299), .val (.int (2 : Int32)), .unset] []))
  refine gv (fun tQ kQ => XS.iload X306.here hx rfl (hb hby d13_14) rfl kQ) ?_
  show G (T306.setTop (mkF me_ 16 #[.val (.ref d), .val (.int (0 : Int32)), .val (.int (2 : Int32)), .val (.ref b299), .val (.int (2 : Int32)), .unset] [(.int (2 : Int32))]))
  refine gv (fun tQ kQ => XS.iloadN X306.here hx rfl (hb hby d13_16) rfl kQ) ?_
  show G (T306.setTop (mkF me_ 17 #[.val (.ref d), .val (.int (0 : Int32)), .val (.int (2 : Int32)), .val (.ref b299), .val (.int (2 : Int32)), .unset] [(.int (2 : Int32)), (.int (2 : Int32))]))
  refine gv (fun tQ kQ => XS.icmpYes X306.here hx rfl (pc0 := 17) (pc' := 57) rfl (hb hby d13_17) rfl (teq (by decide : (2 : Int32) = (2 : Int32))).1 (by decide) (by decide) kQ) ?_
  show G (T306.setTop (mkF me_ 57 #[.val (.ref d), .val (.int (0 : Int32)), .val (.int (2 : Int32)), .val (.ref b299), .val (.int (2 : Int32)), .unset] []))
  refine gv (fun tQ kQ => XS.aloadN X306.here hx rfl (hb hby d13_57) rfl rfl kQ) ?_
  show G (T306.setTop (mkF me_ 58 #[.val (.ref d), .val (.int (0 : Int32)), .val (.int (2 : Int32)), .val (.ref b299), .val (.int (2 : Int32)), .unset] [(.ref b299)]))
  refine gf _ (own_ret X306 Bd.notSynchronized (v := some (.ref b299)) (fun h => by rw [Bd.returns] at h; cases h) ?_ (by decide) (by decide) (fun fs hr => retOut X306 hx (t := (.array .byte)) Bd.returns rfl (Or.inr (Or.inr (Or.inr (Or.inr ⟨rfl, rfl, rfl⟩)))) (hb hby d13_58) hr))
  show Q_cmpr Z d kd c0 c1 h0 n0 _ T306.heap _
  rw [e306]
  exact ⟨b299, k299, rfl, N307, K310, z302, w306_0⟩
theorem d15_0 : decode jdk_52_method_15_code 0 = .ok (.iload_n 1, 1) := by decide +kernel
theorem d15_1 : decode jdk_52_method_15_code 1 = .ok (.aload_n 0, 1) := by decide +kernel
theorem d15_2 : decode jdk_52_method_15_code 2 = .ok (.arraylength, 1) := by decide +kernel
theorem d15_3 : decode jdk_52_method_15_code 3 = .ok (.isub, 1) := by decide +kernel
theorem d15_4 : decode jdk_52_method_15_code 4 = .ok (.bipush 31, 2) := by decide +kernel
theorem d15_6 : decode jdk_52_method_15_code 6 = .ok (.iushr, 1) := by decide +kernel
theorem d15_7 : decode jdk_52_method_15_code 7 = .ok (.i2b, 1) := by decide +kernel
theorem d15_8 : decode jdk_52_method_15_code 8 = .ok (.ireturn, 1) := by decide +kernel
def Q_cfal (Z : State) (b : Addr) (k : ClassId) (x0 : Int32) (x1 : Int32) (h0 : Heap) (n0 : Nat) (v : Option Value) (h : Heap) (L : List Loc) : Prop := v = some (.int (0 : Int32)) ∧ Fr n0 L ∧ h = h0
set_option maxRecDepth 65536 in
set_option maxHeartbeats 40000000 in
theorem rm_cfal (l : Launch) (Z : State) (a0 : Array Value) (hw : ∀ d ∈ tables_1, d.before a0 Z = true) (ws : List Jvm.Cond) (b : Addr) (k : ClassId) (x0 : Int32) (x1 : Int32) (h0 : Heap) (n0 : Nat) (O0 : Old Z n0 h0) (u0 : Arv Z h0 b k .byte (2 : Int32) [(.int x0), (.int x1)] (.int (0 : Int32))) :
    MetFree l (⟨"java/lang/StringUTF16", "coderFromArrayLen", "([BI)B"⟩ : MethodName) (head1 (Jvm.Cond.code (⟨"java/lang/StringUTF16", "coderFromArrayLen", "([BI)B"⟩ : MethodName) jdk_52_method_15_code 2 (some .byte) :: ws) ({ frames := 0, cells := 0, slots := 0, locals := 0 } : Room)) (fun aV U => aV = #[(.ref b), (.int (2 : Int32))] ∧ Z.Warmed39 U.vm ∧ U.heap = h0) (fun _ _ _ _ _ => True) (fun _ U o U' => ∃ v L, o = .returned v ∧ Q_cfal Z b k x0 x1 h0 n0 v U'.heap L ∧ FrameEnd U o U' L ({ frames := 0, cells := 0, slots := 0, locals := 0 } : Room).cells ({ frames := 0, cells := 0, slots := 0, locals := 0 } : Room).slots) := by
  refine MetFree.of_bodySF (plainFor_of_name pn_7) hisR ?_
  intro pr_ en_ st_ me_ args below meth_ co_ s₁ Bd hml0 hP hK
  obtain ⟨rfl, hZ, hh⟩ := hP
  have hx := Bd.exec
  have hby := Bd.bytes
  have hml : co_.maxLocals = 2 := hml0
  have hown : st_.vm.findClass "java/lang/StringUTF16" = some me_.cls := findClass_of_methodNamed Bd.named
  have hnm := (name_of_methodNamed Bd.named Bd.method).1
  have X0 : Stand pr_ l en_ ({ frames := 0, cells := 0, slots := 0, locals := 0 } : Room) st_ me_ #[(.ref b), (.int (2 : Int32))] below meth_ co_ s₁ [] 0 0 := Stand.of_body Bd
  have e0 : s₁.heap = h0 := by rw [← hh, Bd.state]; rfl
  have N0 := Fr.nil n0
  have K0 := Keep.refl h0 []
  obtain ⟨G, gv, gf, gb⟩ := own_G pr_.tables en_ below st_ (Q_cfal Z b k x0 x1 h0 n0) ({ frames := 0, cells := 0, slots := 0, locals := 0 } : Room).cells ({ frames := 0, cells := 0, slots := 0, locals := 0 } : Room).slots
  show own_Fin pr_.tables en_ below st_ (Q_cfal Z b k x0 x1 h0 n0) ({ frames := 0, cells := 0, slots := 0, locals := 0 } : Room).cells ({ frames := 0, cells := 0, slots := 0, locals := 0 } : Room).slots (s₁.setTop (entryFrame me_ #[(.ref b), (.int (2 : Int32))] 2))
  refine gb _ (gv (fun tQ kQ => castTop (ef_1 me_ b (2 : Int32)) kQ) ?_)
  show G (s₁.setTop (mkF me_ 0 #[.val (.ref b), .val (.int (2 : Int32))] []))
  refine gv (fun tQ kQ => XS.iloadN X0.here hx rfl (hb hby d15_0) rfl kQ) ?_
  show G (s₁.setTop (mkF me_ 1 #[.val (.ref b), .val (.int (2 : Int32))] [(.int (2 : Int32))]))
  refine gv (fun tQ kQ => XS.aloadN X0.here hx rfl (hb hby d15_1) rfl rfl kQ) ?_
  show G (s₁.setTop (mkF me_ 2 #[.val (.ref b), .val (.int (2 : Int32))] [(.ref b), (.int (2 : Int32))]))
  obtain ⟨cl311, Ar311, -, S311, n311, -, -⟩ := (id u0)
  refine gv (X0.arraylength hx (by rw [e0]; exact Ar311.1) (State.isArrayOf_alike hZ.alike Ar311.2.1) (g := (mkF me_ 2 #[.val (.ref b), .val (.int (2 : Int32))] [(.ref b), (.int (2 : Int32))])) rfl rfl (hb hby d15_2)) ?_
  rw [len_of S311 n311]
  show G (s₁.setTop (mkF me_ 3 #[.val (.ref b), .val (.int (2 : Int32))] [(.int (2 : Int32)), (.int (2 : Int32))]))
  refine gv (fun tQ kQ => XS.isub X0.here hx rfl (hb hby d15_3) rfl kQ) ?_
  show G (s₁.setTop (mkF me_ 4 #[.val (.ref b), .val (.int (2 : Int32))] [(.int ((2 : Int32) - (2 : Int32)))]))
  rw [(by decide : ((2 : Int32) - (2 : Int32)) = (0 : Int32))]
  show G (s₁.setTop (mkF me_ 4 #[.val (.ref b), .val (.int (2 : Int32))] [(.int (0 : Int32))]))
  refine gv (fun tQ kQ => XS.bipush X0.here hx rfl (hb hby d15_4) kQ) ?_
  show G (s₁.setTop (mkF me_ 6 #[.val (.ref b), .val (.int (2 : Int32))] [(.int (31 : Int32)), (.int (0 : Int32))]))
  refine gv (fun tQ kQ => XS.iushr X0.here hx rfl (hb hby d15_6) rfl kQ) ?_
  show G (s₁.setTop (mkF me_ 7 #[.val (.ref b), .val (.int (2 : Int32))] [(.int (((0 : Int32).toUInt32 >>> ((31 : Int32) &&& 31).toUInt32).toInt32))]))
  rw [(by decide : (((0 : Int32).toUInt32 >>> ((31 : Int32) &&& 31).toUInt32).toInt32) = (0 : Int32))]
  show G (s₁.setTop (mkF me_ 7 #[.val (.ref b), .val (.int (2 : Int32))] [(.int (0 : Int32))]))
  refine gv (fun tQ kQ => XS.i2b X0.here hx rfl (hb hby d15_7) rfl kQ) ?_
  show G (s₁.setTop (mkF me_ 8 #[.val (.ref b), .val (.int (2 : Int32))] [(.int ((0 : Int32).toInt8.toInt32))]))
  rw [(by decide : ((0 : Int32).toInt8.toInt32) = (0 : Int32))]
  show G (s₁.setTop (mkF me_ 8 #[.val (.ref b), .val (.int (2 : Int32))] [(.int (0 : Int32))]))
  refine gf _ (own_ret X0 Bd.notSynchronized (v := some (.int (0 : Int32))) (fun h => by rw [Bd.returns] at h; cases h) ?_ (by decide) (by decide) (fun fs hr => retN X0 hx (t := .byte) Bd.returns (by simp) (hb hby d15_8) hr))
  show Q_cfal Z b k x0 x1 h0 n0 _ s₁.heap _
  rw [e0]
  exact ⟨rfl, N0, rfl⟩
theorem ef_10 (m : MethodId) (x0 : Addr) (x1 : Addr) (x2 : Int32) (x3 : Int32)  : entryFrame m #[(.ref x0), (.ref x1), (.int x2), (.int x3), .null] 6 = mkF m 0 #[.val (.ref x0), .val (.ref x1), .val (.int x2), .val (.int x3), .val .null, .unset] [] := by first | (simp [entryFrame, mkF, argsToLocals, Value.category]; done) | rfl
theorem d12_0 : decode jdk_42_method_149_code 0 = .ok (.aload_n 0, 1) := by decide +kernel
theorem d12_1 : decode jdk_42_method_149_code 1 = .ok (.invokespecial 1, 3) := by decide +kernel
theorem d12_4 : decode jdk_42_method_149_code 4 = .ok (.iload_n 3, 1) := by decide +kernel
theorem d12_5 : decode jdk_42_method_149_code 5 = .ok (.ifCond .ne 22, 3) := by decide +kernel
theorem d12_27 : decode jdk_42_method_149_code 27 = .ok (.getstatic 38, 3) := by decide +kernel
theorem d12_30 : decode jdk_42_method_149_code 30 = .ok (.ifCond .eq 28, 3) := by decide +kernel
theorem d12_33 : decode jdk_42_method_149_code 33 = .ok (.aload_n 1, 1) := by decide +kernel
theorem d12_34 : decode jdk_42_method_149_code 34 = .ok (.iload_n 2, 1) := by decide +kernel
theorem d12_35 : decode jdk_42_method_149_code 35 = .ok (.iload_n 3, 1) := by decide +kernel
theorem d12_36 : decode jdk_42_method_149_code 36 = .ok (.invokestatic 177, 3) := by decide +kernel
theorem pd_10 : parseMethodDescriptor "([CII)[B" = some ⟨[(.array .char), .int, .int], some (.array .byte)⟩ := by decide +kernel
theorem d12_39 : decode jdk_42_method_149_code 39 = .ok (.astore 5, 2) := by decide +kernel
theorem d12_41 : decode jdk_42_method_149_code 41 = .ok (.aload_n 0, 1) := by decide +kernel
theorem d12_42 : decode jdk_42_method_149_code 42 = .ok (.aload 5, 2) := by decide +kernel
theorem d12_44 : decode jdk_42_method_149_code 44 = .ok (.iload_n 3, 1) := by decide +kernel
theorem d12_45 : decode jdk_42_method_149_code 45 = .ok (.invokestatic 47, 3) := by decide +kernel
theorem pd_11 : parseMethodDescriptor "([BI)B" = some ⟨[(.array .byte), .int], some .byte⟩ := by decide +kernel
theorem d12_48 : decode jdk_42_method_149_code 48 = .ok (.putfield 15, 3) := by decide +kernel
theorem d12_51 : decode jdk_42_method_149_code 51 = .ok (.aload_n 0, 1) := by decide +kernel
theorem d12_52 : decode jdk_42_method_149_code 52 = .ok (.aload 5, 2) := by decide +kernel
theorem d12_54 : decode jdk_42_method_149_code 54 = .ok (.putfield 9, 3) := by decide +kernel
theorem d12_57 : decode jdk_42_method_149_code 57 = .ok (.return_, 1) := by decide +kernel
def Q_sci (Z : State) (a : Addr) (d : Addr) (kd : ClassId) (c0 : Int32) (c1 : Int32) (cs : Int32) (h0 : Heap) (n0 : Nat) (v : Option Value) (h : Heap) (L : List Loc) : Prop := ∃ (b : Addr), ∃ (k : ClassId), v = none ∧ Fr n0 L ∧ Keep h0 h [a] ∧ h0.size ≤ b ∧ (Exa Z h a "java/lang/String") ∧ (Fld Z h a "java/lang/String" "coder" "B" (.int (0 : Int32))) ∧ (Fld Z h a "java/lang/String" "value" "[B" (.ref b)) ∧ (Arv Z h b k .byte (2 : Int32) [(.int (c0.toInt8.toInt32)), (.int (c1.toInt8.toInt32))] (.int (0 : Int32)))
set_option maxRecDepth 65536 in
set_option maxHeartbeats 40000000 in
theorem rm_sci (l : Launch) (Z : State) (a0 : Array Value) (hw : ∀ d ∈ tables_1, d.before a0 Z = true) (ws : List Jvm.Cond) (a : Addr) (d : Addr) (kd : ClassId) (c0 : Int32) (c1 : Int32) (cs : Int32) (h0 : Heap) (n0 : Nat) (O0 : Old Z n0 h0) (u0 : Sta Z Z.heap "java/lang/String" "COMPACT_STRINGS" "Z" (.int cs)) (u1 : ¬ (cs = (0 : Int32))) (u2 : ¬ ((255 : Int32) < c0)) (u3 : ¬ ((255 : Int32) < c1)) (u4 : Exa Z h0 a "java/lang/String") (u5 : Fld Z h0 a "java/lang/String" "value" "[B" .null) (u6 : Fld Z h0 a "java/lang/String" "coder" "B" (.int (0 : Int32))) (u7 : n0 ≤ a) (u8 : Arv Z h0 d kd .char (2 : Int32) [(.int c0), (.int c1)] (.int (0 : Int32))) (u9 : a ≠ d) :
    MetFree l (⟨"java/lang/String", "<init>", "([CIILjava/lang/Void;)V"⟩ : MethodName) (head1 (Jvm.Cond.code (⟨"java/lang/String", "<init>", "([CIILjava/lang/Void;)V"⟩ : MethodName) jdk_42_method_149_code 6 none :: ws) ({ frames := 2, cells := 1, slots := 2, locals := 35 } : Room)) (fun aV U => aV = #[(.ref a), (.ref d), (.int (0 : Int32)), (.int (2 : Int32)), .null] ∧ Z.Warmed39 U.vm ∧ U.heap = h0) (fun _ _ _ _ _ => True) (fun _ U o U' => ∃ v L, o = .returned v ∧ Q_sci Z a d kd c0 c1 cs h0 n0 v U'.heap L ∧ FrameEnd U o U' L ({ frames := 2, cells := 1, slots := 2, locals := 35 } : Room).cells ({ frames := 2, cells := 1, slots := 2, locals := 35 } : Room).slots) := by
  refine MetFree.of_bodySF (plainFor_of_name pn_6) hisR ?_
  intro pr_ en_ st_ me_ args below meth_ co_ s₁ Bd hml0 hP hK
  obtain ⟨rfl, hZ, hh⟩ := hP
  have hx := Bd.exec
  have hby := Bd.bytes
  have hml : co_.maxLocals = 6 := hml0
  have hown : st_.vm.findClass "java/lang/String" = some me_.cls := findClass_of_methodNamed Bd.named
  have hnm := (name_of_methodNamed Bd.named Bd.method).1
  have X0 : Stand pr_ l en_ ({ frames := 2, cells := 1, slots := 2, locals := 35 } : Room) st_ me_ #[(.ref a), (.ref d), (.int (0 : Int32)), (.int (2 : Int32)), .null] below meth_ co_ s₁ [] 0 0 := Stand.of_body Bd
  have e0 : s₁.heap = h0 := by rw [← hh, Bd.state]; rfl
  have N0 := Fr.nil n0
  have K0 := Keep.refl h0 [a]
  obtain ⟨G, gv, gf, gb⟩ := own_G pr_.tables en_ below st_ (Q_sci Z a d kd c0 c1 cs h0 n0) ({ frames := 2, cells := 1, slots := 2, locals := 35 } : Room).cells ({ frames := 2, cells := 1, slots := 2, locals := 35 } : Room).slots
  show own_Fin pr_.tables en_ below st_ (Q_sci Z a d kd c0 c1 cs h0 n0) ({ frames := 2, cells := 1, slots := 2, locals := 35 } : Room).cells ({ frames := 2, cells := 1, slots := 2, locals := 35 } : Room).slots (s₁.setTop (entryFrame me_ #[(.ref a), (.ref d), (.int (0 : Int32)), (.int (2 : Int32)), .null] 6))
  refine gb _ (gv (fun tQ kQ => castTop (ef_10 me_ a d (0 : Int32) (2 : Int32)) kQ) ?_)
  show G (s₁.setTop (mkF me_ 0 #[.val (.ref a), .val (.ref d), .val (.int (0 : Int32)), .val (.int (2 : Int32)), .val .null, .unset] []))
  refine gv (fun tQ kQ => XS.aloadN X0.here hx rfl (hb hby d12_0) rfl rfl kQ) ?_
  show G (s₁.setTop (mkF me_ 1 #[.val (.ref a), .val (.ref d), .val (.int (0 : Int32)), .val (.int (2 : Int32)), .val .null, .unset] [(.ref a)]))
  obtain ⟨T312, X312, e312, st312⟩ := initO X0 hx hZ hown (hw _ (List.mem_of_getElem? (i := 46) rfl)) (hw _ (List.mem_of_getElem? (i := 19) rfl)) (hw _ (List.mem_of_getElem? (i := 20) rfl)) e0 (g := (mkF me_ 1 #[.val (.ref a), .val (.ref d), .val (.int (0 : Int32)), .val (.int (2 : Int32)), .val .null, .unset] [(.ref a)])) rfl (by rw [hml]; rfl) rfl (hb hby d12_1) (by decide) (W := 0) (by show 2 * 0 + _ ≤ _; exact Nat.le_of_eq rfl) (by decide)
  refine gv st312 ?_
  show G (T312.setTop (mkF me_ 4 #[.val (.ref a), .val (.ref d), .val (.int (0 : Int32)), .val (.int (2 : Int32)), .val .null, .unset] []))
  refine gv (fun tQ kQ => XS.iloadN X312.here hx rfl (hb hby d12_4) rfl kQ) ?_
  show G (T312.setTop (mkF me_ 5 #[.val (.ref a), .val (.ref d), .val (.int (0 : Int32)), .val (.int (2 : Int32)), .val .null, .unset] [(.int (2 : Int32))]))
  refine gv (fun tQ kQ => XS.ifYes X312.here hx rfl (pc0 := 5) (pc' := 27) rfl (hb hby d12_5) rfl ((if0 _ _).trans (feq (by decide : ¬ ((2 : Int32) = (0 : Int32)))).2) (by decide) (by decide) kQ) ?_
  show G (T312.setTop (mkF me_ 27 #[.val (.ref a), .val (.ref d), .val (.int (0 : Int32)), .val (.int (2 : Int32)), .val .null, .unset] []))
  obtain ⟨T313, X313, e313, st313⟩ := getS2 X312 hx hZ hown (host := "") (Or.inl (hw _ (List.mem_of_getElem? (i := 31) rfl))) Via.refl e312 (u0.ext O0.2) (g := (mkF me_ 27 #[.val (.ref a), .val (.ref d), .val (.int (0 : Int32)), .val (.int (2 : Int32)), .val .null, .unset] [])) rfl (hb hby d12_27)
  refine gv st313 ?_
  show G (T313.setTop (mkF me_ 30 #[.val (.ref a), .val (.ref d), .val (.int (0 : Int32)), .val (.int (2 : Int32)), .val .null, .unset] [(.int cs)]))
  refine gv (fun tQ kQ => XS.ifNo X313.here hx rfl (hb hby d12_30) rfl ((if0 _ _).trans (feq u1).1) kQ) ?_
  show G (T313.setTop (mkF me_ 33 #[.val (.ref a), .val (.ref d), .val (.int (0 : Int32)), .val (.int (2 : Int32)), .val .null, .unset] []))
  refine gv (fun tQ kQ => XS.aloadN X313.here hx rfl (hb hby d12_33) rfl rfl kQ) ?_
  show G (T313.setTop (mkF me_ 34 #[.val (.ref a), .val (.ref d), .val (.int (0 : Int32)), .val (.int (2 : Int32)), .val .null, .unset] [(.ref d)]))
  refine gv (fun tQ kQ => XS.iloadN X313.here hx rfl (hb hby d12_34) rfl kQ) ?_
  show G (T313.setTop (mkF me_ 35 #[.val (.ref a), .val (.ref d), .val (.int (0 : Int32)), .val (.int (2 : Int32)), .val .null, .unset] [(.int (0 : Int32)), (.ref d)]))
  refine gv (fun tQ kQ => XS.iloadN X313.here hx rfl (hb hby d12_35) rfl kQ) ?_
  show G (T313.setTop (mkF me_ 36 #[.val (.ref a), .val (.ref d), .val (.int (0 : Int32)), .val (.int (2 : Int32)), .val .null, .unset] [(.int (2 : Int32)), (.int (0 : Int32)), (.ref d)]))
  obtain ⟨_, _, ⟨T314, L314, k314, n314⟩, -, X314, ⟨Lc314, hQ314, l314, y314, z314⟩, st314⟩ := Jvm.LawKit.callS X313 hx (y := (⟨"java/lang/StringUTF16", "compress", "([CII)[B"⟩ : MethodName)) hown (mvT hZ (hw _ (List.mem_of_getElem? (i := 74) rfl))) (mvT hZ (hw _ (List.mem_of_getElem? (i := 75) rfl))) (mvT hZ (hw _ (List.mem_of_getElem? (i := 76) rfl))) (mvT hZ (hw _ (List.mem_of_getElem? (i := 77) rfl))) (by decide) (backOf (W := 0) (rm_cmpr l Z a0 hw [] d kd c0 c1 h0 n0 O0 u2 u3 u8) hZ (hw _ (List.mem_of_getElem? (i := 77) rfl)) (hw _ (List.mem_of_getElem? (i := 76) rfl)) (by decide) (by decide)) (g := (mkF me_ 36 #[.val (.ref a), .val (.ref d), .val (.int (0 : Int32)), .val (.int (2 : Int32)), .val .null, .unset] [(.int (2 : Int32)), (.int (0 : Int32)), (.ref d)])) rfl (by rw [hml]; rfl) (argsL := [(.ref d), (.int (0 : Int32)), (.int (2 : Int32))]) (rest := []) (lenOf pd_10 rfl) rfl (by show 2 * 0 + _ ≤ _; exact Nat.le_of_eq rfl) (hb hby d12_36) (fun _ _ => ⟨rfl, e313, (by decide : 0 + 1 ≤ _), (by decide : 0 + 2 ≤ _)⟩)
  dsimp only [Pt.U, Pt.locs, Pt.cells, Pt.slots] at X314 l314 y314 z314 st314 hQ314
  subst l314 y314 z314
  obtain ⟨b_314, k_314, rfl, Nq314, Kq314, w314_0, w314_1⟩ := hQ314
  have N315 := Fr.app N0 Nq314
  obtain ⟨h314, e314⟩ : ∃ z, T314.heap = z := ⟨_, rfl⟩
  rw [e314] at Kq314 w314_1
  have ne316 : a ≠ b_314 := Nat.ne_of_lt (Nat.lt_of_lt_of_le u4.lt w314_0)
  have ne317 : d ≠ b_314 := Nat.ne_of_lt (Nat.lt_of_lt_of_le u8.lt w314_0)
  have g318 : n0 ≤ b_314 := Nat.le_trans (own_old O0) w314_0
  have z319 : h0.size ≤ b_314 := Nat.le_trans K0.1 w314_0
  have f320 : Exa Z h314 a "java/lang/String" := u4.keep Kq314
  have f321 : Fld Z h314 a "java/lang/String" "value" "[B" .null := u5.keep Kq314 nin0
  have f322 : Fld Z h314 a "java/lang/String" "coder" "B" (.int (0 : Int32)) := u6.keep Kq314 nin0
  have f323 : Arv Z h314 d kd .char (2 : Int32) [(.int c0), (.int c1)] (.int (0 : Int32)) := u8.keep Kq314 nin0
  have O324 := O0.keep Kq314 all0
  have K325 := K0.trans Kq314 all0
  refine gv st314 ?_
  show G (T314.setTop (mkF me_ 39 #[.val (.ref a), .val (.ref d), .val (.int (0 : Int32)), .val (.int (2 : Int32)), .val .null, .unset] [(.ref b_314)]))
  refine gv (fun tQ kQ => XS.astore X314.here hx rfl (hb hby d12_39) rfl rfl (l' := #[.val (.ref a), .val (.ref d), .val (.int (0 : Int32)), .val (.int (2 : Int32)), .val .null, .val (.ref b_314)]) rfl kQ) ?_
  show G (T314.setTop (mkF me_ 41 #[.val (.ref a), .val (.ref d), .val (.int (0 : Int32)), .val (.int (2 : Int32)), .val .null, .val (.ref b_314)] []))
  refine gv (fun tQ kQ => XS.aloadN X314.here hx rfl (hb hby d12_41) rfl rfl kQ) ?_
  show G (T314.setTop (mkF me_ 42 #[.val (.ref a), .val (.ref d), .val (.int (0 : Int32)), .val (.int (2 : Int32)), .val .null, .val (.ref b_314)] [(.ref a)]))
  refine gv (fun tQ kQ => XS.aload X314.here hx rfl (hb hby d12_42) rfl rfl kQ) ?_
  show G (T314.setTop (mkF me_ 44 #[.val (.ref a), .val (.ref d), .val (.int (0 : Int32)), .val (.int (2 : Int32)), .val .null, .val (.ref b_314)] [(.ref b_314), (.ref a)]))
  refine gv (fun tQ kQ => XS.iloadN X314.here hx rfl (hb hby d12_44) rfl kQ) ?_
  show G (T314.setTop (mkF me_ 45 #[.val (.ref a), .val (.ref d), .val (.int (0 : Int32)), .val (.int (2 : Int32)), .val .null, .val (.ref b_314)] [(.int (2 : Int32)), (.ref b_314), (.ref a)]))
  obtain ⟨_, _, ⟨T326, L326, k326, n326⟩, -, X326, ⟨Lc326, hQ326, l326, y326, z326⟩, st326⟩ := Jvm.LawKit.callS X314 hx (y := (⟨"java/lang/StringUTF16", "coderFromArrayLen", "([BI)B"⟩ : MethodName)) hown (mvT hZ (hw _ (List.mem_of_getElem? (i := 81) rfl))) (mvT hZ (hw _ (List.mem_of_getElem? (i := 82) rfl))) (mvT hZ (hw _ (List.mem_of_getElem? (i := 76) rfl))) (mvT hZ (hw _ (List.mem_of_getElem? (i := 83) rfl))) (by decide) (backOf (W := 1) (rm_cfal l Z a0 hw [] b_314 k_314 (c0.toInt8.toInt32) (c1.toInt8.toInt32) h314 n0 O324 w314_1) hZ (hw _ (List.mem_of_getElem? (i := 83) rfl)) (hw _ (List.mem_of_getElem? (i := 76) rfl)) (by decide) (by decide)) (g := (mkF me_ 45 #[.val (.ref a), .val (.ref d), .val (.int (0 : Int32)), .val (.int (2 : Int32)), .val .null, .val (.ref b_314)] [(.int (2 : Int32)), (.ref b_314), (.ref a)])) rfl (by rw [hml]; rfl) (argsL := [(.ref b_314), (.int (2 : Int32))]) (rest := [(.ref a)]) (lenOf pd_11 rfl) rfl (by show 2 * 0 + _ ≤ _; exact Nat.le_of_eq rfl) (hb hby d12_45) (fun _ _ => ⟨rfl, e314, (by decide : 1 + 0 ≤ _), (by decide : 2 + 0 ≤ _)⟩)
  dsimp only [Pt.U, Pt.locs, Pt.cells, Pt.slots] at X326 l326 y326 z326 st326 hQ326
  subst l326 y326 z326
  obtain ⟨rfl, Nq326, eq326⟩ := hQ326
  have N327 := Fr.app N315 Nq326
  refine gv st326 ?_
  show G (T326.setTop (mkF me_ 48 #[.val (.ref a), .val (.ref d), .val (.int (0 : Int32)), .val (.int (2 : Int32)), .val .null, .val (.ref b_314)] [(.int (0 : Int32)), (.ref a)]))
  obtain ⟨T328, h328, X328, e328, W328, st328⟩ := putFN X326 hx hZ hown (hw _ (List.mem_of_getElem? (i := 49) rfl)) Via.refl eq326 f322 f320 (Or.inr ⟨(hw _ (List.mem_of_getElem? (i := 50) rfl)), rfl, hnm⟩) (hw _ (List.mem_of_getElem? (i := 37) rfl)) (ty := .byte) (v' := (.int (0 : Int32))) (by decide) rfl rfl (g := (mkF me_ 48 #[.val (.ref a), .val (.ref d), .val (.int (0 : Int32)), .val (.int (2 : Int32)), .val .null, .val (.ref b_314)] [(.int (0 : Int32)), (.ref a)])) rfl rfl (hb hby d12_48)
  refine gv st328 ?_
  have f330 : Exa Z h328 a "java/lang/String" := f320.wr W328
  have f331 : Fld Z h328 a "java/lang/String" "value" "[B" .null := f321.other W328 (Or.inr (slot_ne (Or.inr (hw _ (List.mem_of_getElem? (i := 48) rfl))) (Or.inr (hw _ (List.mem_of_getElem? (i := 50) rfl))) (by decide) (t := (.array .byte)) (t' := .byte) (by decide) (by decide)))
  have f332 : Arv Z h328 d kd .char (2 : Int32) [(.int c0), (.int c1)] (.int (0 : Int32)) := f323.other W328 (Ne.symm u9)
  have f333 : Arv Z h328 b_314 k_314 .byte (2 : Int32) [(.int (c0.toInt8.toInt32)), (.int (c1.toInt8.toInt32))] (.int (0 : Int32)) := w314_1.other W328 (Ne.symm ne316)
  have O334 := O324.wr W328 u7
  have K335 := K325.wr W328 (Or.inl (List.mem_of_getElem? (i := 0) rfl))
  have N336 := Fr.snoc X328 N327 u7
  have f329 : Fld Z h328 a "java/lang/String" "coder" "B" (.int (0 : Int32)) := f322.same W328
  show G (T328.setTop (mkF me_ 51 #[.val (.ref a), .val (.ref d), .val (.int (0 : Int32)), .val (.int (2 : Int32)), .val .null, .val (.ref b_314)] []))
  refine gv (fun tQ kQ => XS.aloadN X328.here hx rfl (hb hby d12_51) rfl rfl kQ) ?_
  show G (T328.setTop (mkF me_ 52 #[.val (.ref a), .val (.ref d), .val (.int (0 : Int32)), .val (.int (2 : Int32)), .val .null, .val (.ref b_314)] [(.ref a)]))
  refine gv (fun tQ kQ => XS.aload X328.here hx rfl (hb hby d12_52) rfl rfl kQ) ?_
  show G (T328.setTop (mkF me_ 54 #[.val (.ref a), .val (.ref d), .val (.int (0 : Int32)), .val (.int (2 : Int32)), .val .null, .val (.ref b_314)] [(.ref b_314), (.ref a)]))
  obtain ⟨T337, h337, X337, e337, W337, st337⟩ := putF X328 hx hZ hown (host := "") (Or.inl (hw _ (List.mem_of_getElem? (i := 47) rfl))) Via.refl e328 f331 f330 (Or.inr ⟨(hw _ (List.mem_of_getElem? (i := 48) rfl)), rfl, hnm⟩) (hw _ (List.mem_of_getElem? (i := 37) rfl)) (ty := (.array .byte)) (by decide) rfl rfl (g := (mkF me_ 54 #[.val (.ref a), .val (.ref d), .val (.int (0 : Int32)), .val (.int (2 : Int32)), .val .null, .val (.ref b_314)] [(.ref b_314), (.ref a)])) rfl rfl (hb hby d12_54)
  refine gv st337 ?_
  have f339 : Exa Z h337 a "java/lang/String" := f330.wr W337
  have f340 : Fld Z h337 a "java/lang/String" "coder" "B" (.int (0 : Int32)) := f329.other W337 (Or.inr (slot_ne (Or.inr (hw _ (List.mem_of_getElem? (i := 50) rfl))) (Or.inr (hw _ (List.mem_of_getElem? (i := 48) rfl))) (by decide) (t := .byte) (t' := (.array .byte)) (by decide) (by decide)))
  have f341 : Arv Z h337 d kd .char (2 : Int32) [(.int c0), (.int c1)] (.int (0 : Int32)) := f332.other W337 (Ne.symm u9)
  have f342 : Arv Z h337 b_314 k_314 .byte (2 : Int32) [(.int (c0.toInt8.toInt32)), (.int (c1.toInt8.toInt32))] (.int (0 : Int32)) := f333.other W337 (Ne.symm ne316)
  have O343 := O334.wr W337 u7
  have K344 := K335.wr W337 (Or.inl (List.mem_of_getElem? (i := 0) rfl))
  have N345 := Fr.snoc X337 N336 u7
  have f338 : Fld Z h337 a "java/lang/String" "value" "[B" (.ref b_314) := f331.same W337
  show G (T337.setTop (mkF me_ 57 #[.val (.ref a), .val (.ref d), .val (.int (0 : Int32)), .val (.int (2 : Int32)), .val .null, .val (.ref b_314)] []))
  refine gf _ (own_ret X337 Bd.notSynchronized (v := none) (fun _ => rfl) ?_ (by decide) (by decide) (fun fs hr => X337.returnOut hx Bd.returns (hb hby d12_57) hr))
  show Q_sci Z a d kd c0 c1 cs h0 n0 _ T337.heap _
  rw [e337]
  exact ⟨b_314, k_314, rfl, N345, K344, z319, f339, f340, f338, f342⟩
theorem d11_0 : decode jdk_42_method_3_code 0 = .ok (.aload_n 0, 1) := by decide +kernel
theorem d11_1 : decode jdk_42_method_3_code 1 = .ok (.aload_n 1, 1) := by decide +kernel
theorem d11_2 : decode jdk_42_method_3_code 2 = .ok (.iconst 0, 1) := by decide +kernel
theorem d11_3 : decode jdk_42_method_3_code 3 = .ok (.aload_n 1, 1) := by decide +kernel
theorem d11_4 : decode jdk_42_method_3_code 4 = .ok (.arraylength, 1) := by decide +kernel
theorem d11_5 : decode jdk_42_method_3_code 5 = .ok (.aconst_null, 1) := by decide +kernel
theorem d11_6 : decode jdk_42_method_3_code 6 = .ok (.invokespecial 27, 3) := by decide +kernel
theorem pd_12 : parseMethodDescriptor "([CIILjava/lang/Void;)V" = some ⟨[(.array .char), .int, .int, (.object "java/lang/Void")], none⟩ := by decide +kernel
theorem d11_9 : decode jdk_42_method_3_code 9 = .ok (.return_, 1) := by decide +kernel
def Q_sc (Z : State) (a : Addr) (d : Addr) (kd : ClassId) (c0 : Int32) (c1 : Int32) (cs : Int32) (h0 : Heap) (n0 : Nat) (v : Option Value) (h : Heap) (L : List Loc) : Prop := ∃ (b : Addr), ∃ (k : ClassId), v = none ∧ Fr n0 L ∧ Keep h0 h [a] ∧ h0.size ≤ b ∧ (Exa Z h a "java/lang/String") ∧ (Fld Z h a "java/lang/String" "coder" "B" (.int (0 : Int32))) ∧ (Fld Z h a "java/lang/String" "value" "[B" (.ref b)) ∧ (Arv Z h b k .byte (2 : Int32) [(.int (c0.toInt8.toInt32)), (.int (c1.toInt8.toInt32))] (.int (0 : Int32)))
set_option maxRecDepth 65536 in
set_option maxHeartbeats 40000000 in
theorem rm_sc (l : Launch) (Z : State) (a0 : Array Value) (hw : ∀ d ∈ tables_1, d.before a0 Z = true) (ws : List Jvm.Cond) (a : Addr) (d : Addr) (kd : ClassId) (c0 : Int32) (c1 : Int32) (cs : Int32) (h0 : Heap) (n0 : Nat) (O0 : Old Z n0 h0) (u0 : Sta Z Z.heap "java/lang/String" "COMPACT_STRINGS" "Z" (.int cs)) (u1 : ¬ (cs = (0 : Int32))) (u2 : ¬ ((255 : Int32) < c0)) (u3 : ¬ ((255 : Int32) < c1)) (u4 : Exa Z h0 a "java/lang/String") (u5 : Fld Z h0 a "java/lang/String" "value" "[B" .null) (u6 : Fld Z h0 a "java/lang/String" "coder" "B" (.int (0 : Int32))) (u7 : n0 ≤ a) (u8 : Arv Z h0 d kd .char (2 : Int32) [(.int c0), (.int c1)] (.int (0 : Int32))) (u9 : a ≠ d) :
    MetFree l (⟨"java/lang/String", "<init>", "([C)V"⟩ : MethodName) (head1 (Jvm.Cond.code (⟨"java/lang/String", "<init>", "([C)V"⟩ : MethodName) jdk_42_method_3_code 2 none :: ws) ({ frames := 3, cells := 1, slots := 2, locals := 52 } : Room)) (fun aV U => aV = #[(.ref a), (.ref d)] ∧ Z.Warmed39 U.vm ∧ U.heap = h0) (fun _ _ _ _ _ => True) (fun _ U o U' => ∃ v L, o = .returned v ∧ Q_sc Z a d kd c0 c1 cs h0 n0 v U'.heap L ∧ FrameEnd U o U' L ({ frames := 3, cells := 1, slots := 2, locals := 52 } : Room).cells ({ frames := 3, cells := 1, slots := 2, locals := 52 } : Room).slots) := by
  refine MetFree.of_bodySF (plainFor_of_name pn_6) hisR ?_
  intro pr_ en_ st_ me_ args below meth_ co_ s₁ Bd hml0 hP hK
  obtain ⟨rfl, hZ, hh⟩ := hP
  have hx := Bd.exec
  have hby := Bd.bytes
  have hml : co_.maxLocals = 2 := hml0
  have hown : st_.vm.findClass "java/lang/String" = some me_.cls := findClass_of_methodNamed Bd.named
  have hnm := (name_of_methodNamed Bd.named Bd.method).1
  have X0 : Stand pr_ l en_ ({ frames := 3, cells := 1, slots := 2, locals := 52 } : Room) st_ me_ #[(.ref a), (.ref d)] below meth_ co_ s₁ [] 0 0 := Stand.of_body Bd
  have e0 : s₁.heap = h0 := by rw [← hh, Bd.state]; rfl
  have N0 := Fr.nil n0
  have K0 := Keep.refl h0 [a]
  obtain ⟨G, gv, gf, gb⟩ := own_G pr_.tables en_ below st_ (Q_sc Z a d kd c0 c1 cs h0 n0) ({ frames := 3, cells := 1, slots := 2, locals := 52 } : Room).cells ({ frames := 3, cells := 1, slots := 2, locals := 52 } : Room).slots
  show own_Fin pr_.tables en_ below st_ (Q_sc Z a d kd c0 c1 cs h0 n0) ({ frames := 3, cells := 1, slots := 2, locals := 52 } : Room).cells ({ frames := 3, cells := 1, slots := 2, locals := 52 } : Room).slots (s₁.setTop (entryFrame me_ #[(.ref a), (.ref d)] 2))
  refine gb _ (gv (fun tQ kQ => castTop (ef_6 me_ a d) kQ) ?_)
  show G (s₁.setTop (mkF me_ 0 #[.val (.ref a), .val (.ref d)] []))
  refine gv (fun tQ kQ => XS.aloadN X0.here hx rfl (hb hby d11_0) rfl rfl kQ) ?_
  show G (s₁.setTop (mkF me_ 1 #[.val (.ref a), .val (.ref d)] [(.ref a)]))
  refine gv (fun tQ kQ => XS.aloadN X0.here hx rfl (hb hby d11_1) rfl rfl kQ) ?_
  show G (s₁.setTop (mkF me_ 2 #[.val (.ref a), .val (.ref d)] [(.ref d), (.ref a)]))
  refine gv (fun tQ kQ => XS.iconst X0.here hx rfl (hb hby d11_2) kQ) ?_
  show G (s₁.setTop (mkF me_ 3 #[.val (.ref a), .val (.ref d)] [(.int (0 : Int32)), (.ref d), (.ref a)]))
  refine gv (fun tQ kQ => XS.aloadN X0.here hx rfl (hb hby d11_3) rfl rfl kQ) ?_
  show G (s₁.setTop (mkF me_ 4 #[.val (.ref a), .val (.ref d)] [(.ref d), (.int (0 : Int32)), (.ref d), (.ref a)]))
  obtain ⟨cl346, Ar346, -, S346, n346, -, -⟩ := (id u8)
  refine gv (X0.arraylength hx (by rw [e0]; exact Ar346.1) (State.isArrayOf_alike hZ.alike Ar346.2.1) (g := (mkF me_ 4 #[.val (.ref a), .val (.ref d)] [(.ref d), (.int (0 : Int32)), (.ref d), (.ref a)])) rfl rfl (hb hby d11_4)) ?_
  rw [len_of S346 n346]
  show G (s₁.setTop (mkF me_ 5 #[.val (.ref a), .val (.ref d)] [(.int (2 : Int32)), (.int (0 : Int32)), (.ref d), (.ref a)]))
  refine gv (fun tQ kQ => XS.aconstNull X0.here hx rfl (hb hby d11_5) kQ) ?_
  show G (s₁.setTop (mkF me_ 6 #[.val (.ref a), .val (.ref d)] [.null, (.int (2 : Int32)), (.int (0 : Int32)), (.ref d), (.ref a)]))
  obtain ⟨_, _, ⟨T347, L347, k347, n347⟩, -, X347, ⟨Lc347, hQ347, l347, y347, z347⟩, st347⟩ := X0.specialBack hx (y := (⟨"java/lang/String", "<init>", "([CIILjava/lang/Void;)V"⟩ : MethodName)) rfl hown (mvT hZ (hw _ (List.mem_of_getElem? (i := 71) rfl))) (mvT hZ (hw _ (List.mem_of_getElem? (i := 72) rfl))) (mvT hZ (hw _ (List.mem_of_getElem? (i := 73) rfl))) (by decide) (backOf (W := 0) (rm_sci l Z a0 hw [] a d kd c0 c1 cs h0 n0 O0 u0 u1 u2 u3 u4 u5 u6 u7 u8 u9) hZ (hw _ (List.mem_of_getElem? (i := 73) rfl)) (hw _ (List.mem_of_getElem? (i := 29) rfl)) (by decide) (by decide)) (g := (mkF me_ 6 #[.val (.ref a), .val (.ref d)] [.null, (.int (2 : Int32)), (.int (0 : Int32)), (.ref d), (.ref a)])) rfl (by rw [hml]; rfl) (Steps.refl _) (a := a) (argsL := [(.ref d), (.int (0 : Int32)), (.int (2 : Int32)), .null]) (rest := []) (lenOf pd_12 rfl) rfl (by show 2 * 0 + _ ≤ _; exact Nat.le_of_eq rfl) (hb hby d11_6) (fun _ _ => ⟨rfl, e0, (by decide : 0 + 1 ≤ _), (by decide : 0 + 2 ≤ _)⟩)
  dsimp only [Pt.U, Pt.locs, Pt.cells, Pt.slots] at X347 l347 y347 z347 st347 hQ347
  subst l347 y347 z347
  obtain ⟨b_347, k_347, rfl, Nq347, Kq347, w347_0, w347_1, w347_2, w347_3, w347_4⟩ := hQ347
  have N348 := Fr.app N0 Nq347
  obtain ⟨h347, e347⟩ : ∃ z, T347.heap = z := ⟨_, rfl⟩
  rw [e347] at Kq347 w347_1 w347_2 w347_3 w347_4
  have ne349 : a ≠ b_347 := Nat.ne_of_lt (Nat.lt_of_lt_of_le u4.lt w347_0)
  have ne350 : d ≠ b_347 := Nat.ne_of_lt (Nat.lt_of_lt_of_le u8.lt w347_0)
  have g351 : n0 ≤ b_347 := Nat.le_trans (own_old O0) w347_0
  have z352 : h0.size ≤ b_347 := Nat.le_trans K0.1 w347_0
  have f353 : Exa Z h347 a "java/lang/String" := u4.keep Kq347
  have f354 : Arv Z h347 d kd .char (2 : Int32) [(.int c0), (.int c1)] (.int (0 : Int32)) := u8.keep Kq347 (ninS (Ne.symm u9) nin0)
  have O355 := O0.keep Kq347 (allS u7 all0)
  have K356 := K0.trans Kq347 (allS (Or.inl (List.mem_of_getElem? (i := 0) rfl)) all0)
  refine gv (fun tQ kQ => st347.trans kQ) ?_
  show G (T347.setTop (mkF me_ 9 #[.val (.ref a), .val (.ref d)] []))
  refine gf _ (own_ret X347 Bd.notSynchronized (v := none) (fun _ => rfl) ?_ (by decide) (by decide) (fun fs hr => X347.returnOut hx Bd.returns (hb hby d11_9) hr))
  show Q_sc Z a d kd c0 c1 cs h0 n0 _ T347.heap _
  rw [e347]
  exact ⟨b_347, k_347, rfl, N348, K356, z352, w347_1, w347_2, w347_3, w347_4⟩
theorem ef_11 (m : MethodId) (x0 : Addr) (x1 : Addr)  : entryFrame m #[(.ref x0), (.ref x1)] 3 = mkF m 0 #[.val (.ref x0), .val (.ref x1), .unset] [] := by first | (simp [entryFrame, mkF, argsToLocals, Value.category]; done) | rfl
theorem pn_8 : plainName "com/example/slot1/slot1/balance/Options" = true := by first | (simp [plainName, overriddenIn]; done) | decide +kernel
theorem d9_0 : decode prog_9_method_5_code 0 = .ok (.aload_n 0, 1) := by decide +kernel
theorem d9_1 : decode prog_9_method_5_code 1 = .ok (.instanceof 28, 3) := by decide +kernel
theorem d9_4 : decode prog_9_method_5_code 4 = .ok (.ifCond .eq 11, 3) := by decide +kernel
theorem d9_7 : decode prog_9_method_5_code 7 = .ok (.aload_n 0, 1) := by decide +kernel
theorem d9_8 : decode prog_9_method_5_code 8 = .ok (.checkcast 28, 3) := by decide +kernel
theorem d9_11 : decode prog_9_method_5_code 11 = .ok (.astore_n 2, 1) := by decide +kernel
theorem d9_12 : decode prog_9_method_5_code 12 = .ok (.goto 10, 3) := by decide +kernel
theorem d9_22 : decode prog_9_method_5_code 22 = .ok (.aload_n 2, 1) := by decide +kernel
theorem d9_23 : decode prog_9_method_5_code 23 = .ok (.areturn, 1) := by decide +kernel
def Q_arr (Z : State) (a : Addr) (s : Addr) (h0 : Heap) (n0 : Nat) (v : Option Value) (h : Heap) (L : List Loc) : Prop := v = some (.ref a) ∧ Fr n0 L ∧ h = h0
set_option maxRecDepth 65536 in
set_option maxHeartbeats 40000000 in
theorem rm_arr (l : Launch) (Z : State) (a0 : Array Value) (hw : ∀ d ∈ tables_1, d.before a0 Z = true) (ws : List Jvm.Cond) (a : Addr) (s : Addr) (h0 : Heap) (n0 : Nat) (O0 : Old Z n0 h0) (u0 : Exa Z h0 a "java/util/ArrayList") :
    MetFree l (⟨"com/example/slot1/slot1/balance/Options", "array", "(Ljava/lang/Object;Ljava/lang/String;)Ljava/util/List;"⟩ : MethodName) (head1 (Jvm.Cond.code (⟨"com/example/slot1/slot1/balance/Options", "array", "(Ljava/lang/Object;Ljava/lang/String;)Ljava/util/List;"⟩ : MethodName) prog_9_method_5_code 3 (some (.object "java/util/List")) :: ws) ({ frames := 0, cells := 0, slots := 0, locals := 0 } : Room)) (fun aV U => aV = #[(.ref a), (.ref s)] ∧ Z.Warmed39 U.vm ∧ U.heap = h0) (fun _ _ _ _ _ => True) (fun _ U o U' => ∃ v L, o = .returned v ∧ Q_arr Z a s h0 n0 v U'.heap L ∧ FrameEnd U o U' L ({ frames := 0, cells := 0, slots := 0, locals := 0 } : Room).cells ({ frames := 0, cells := 0, slots := 0, locals := 0 } : Room).slots) := by
  refine MetFree.of_bodySF (plainFor_of_name pn_8) hisR ?_
  intro pr_ en_ st_ me_ args below meth_ co_ s₁ Bd hml0 hP hK
  obtain ⟨rfl, hZ, hh⟩ := hP
  have hx := Bd.exec
  have hby := Bd.bytes
  have hml : co_.maxLocals = 3 := hml0
  have hown : st_.vm.findClass "com/example/slot1/slot1/balance/Options" = some me_.cls := findClass_of_methodNamed Bd.named
  have hnm := (name_of_methodNamed Bd.named Bd.method).1
  have X0 : Stand pr_ l en_ ({ frames := 0, cells := 0, slots := 0, locals := 0 } : Room) st_ me_ #[(.ref a), (.ref s)] below meth_ co_ s₁ [] 0 0 := Stand.of_body Bd
  have e0 : s₁.heap = h0 := by rw [← hh, Bd.state]; rfl
  have N0 := Fr.nil n0
  have K0 := Keep.refl h0 []
  obtain ⟨G, gv, gf, gb⟩ := own_G pr_.tables en_ below st_ (Q_arr Z a s h0 n0) ({ frames := 0, cells := 0, slots := 0, locals := 0 } : Room).cells ({ frames := 0, cells := 0, slots := 0, locals := 0 } : Room).slots
  show own_Fin pr_.tables en_ below st_ (Q_arr Z a s h0 n0) ({ frames := 0, cells := 0, slots := 0, locals := 0 } : Room).cells ({ frames := 0, cells := 0, slots := 0, locals := 0 } : Room).slots (s₁.setTop (entryFrame me_ #[(.ref a), (.ref s)] 3))
  refine gb _ (gv (fun tQ kQ => castTop (ef_11 me_ a s) kQ) ?_)
  show G (s₁.setTop (mkF me_ 0 #[.val (.ref a), .val (.ref s), .unset] []))
  refine gv (fun tQ kQ => XS.aloadN X0.here hx rfl (hb hby d9_0) rfl rfl kQ) ?_
  show G (s₁.setTop (mkF me_ 1 #[.val (.ref a), .val (.ref s), .unset] [(.ref a)]))
  obtain ⟨T357, X357, e357, st357⟩ := instY X0 hx hZ hown (hw _ (List.mem_of_getElem? (i := 55) rfl)) e0 (Ins.of_exa u0 (hw _ (List.mem_of_getElem? (i := 56) rfl))) (g := (mkF me_ 1 #[.val (.ref a), .val (.ref s), .unset] [(.ref a)])) rfl rfl (hb hby d9_1)
  refine gv st357 ?_
  show G (T357.setTop (mkF me_ 4 #[.val (.ref a), .val (.ref s), .unset] [(.int (1 : Int32))]))
  refine gv (fun tQ kQ => XS.ifNo X357.here hx rfl (hb hby d9_4) rfl ((if0 _ _).trans (feq (by decide : ¬ ((1 : Int32) = (0 : Int32)))).1) kQ) ?_
  show G (T357.setTop (mkF me_ 7 #[.val (.ref a), .val (.ref s), .unset] []))
  refine gv (fun tQ kQ => XS.aloadN X357.here hx rfl (hb hby d9_7) rfl rfl kQ) ?_
  show G (T357.setTop (mkF me_ 8 #[.val (.ref a), .val (.ref s), .unset] [(.ref a)]))
  obtain ⟨T358, X358, e358, st358⟩ := castY X357 hx hZ hown (hw _ (List.mem_of_getElem? (i := 55) rfl)) e357 (Ins.of_exa u0 (hw _ (List.mem_of_getElem? (i := 56) rfl))) (g := (mkF me_ 8 #[.val (.ref a), .val (.ref s), .unset] [(.ref a)])) rfl rfl (hb hby d9_8)
  refine gv st358 ?_
  show G (T358.setTop (mkF me_ 11 #[.val (.ref a), .val (.ref s), .unset] [(.ref a)]))
  refine gv (fun tQ kQ => XS.astoreN X358.here hx rfl (hb hby d9_11) rfl rfl (l' := #[.val (.ref a), .val (.ref s), .val (.ref a)]) rfl kQ) ?_
  show G (T358.setTop (mkF me_ 12 #[.val (.ref a), .val (.ref s), .val (.ref a)] []))
  refine gv (fun tQ kQ => XS.goto X358.here hx rfl (pc0 := 12) (pc' := 22) rfl (hb hby d9_12) (by decide) (by decide) kQ) ?_
  show G (T358.setTop (mkF me_ 22 #[.val (.ref a), .val (.ref s), .val (.ref a)] []))
  refine gv (fun tQ kQ => XS.aloadN X358.here hx rfl (hb hby d9_22) rfl rfl kQ) ?_
  show G (T358.setTop (mkF me_ 23 #[.val (.ref a), .val (.ref s), .val (.ref a)] [(.ref a)]))
  refine gf _ (own_ret X358 Bd.notSynchronized (v := some (.ref a)) (fun h => by rw [Bd.returns] at h; cases h) ?_ (by decide) (by decide) (fun fs hr => retOut X358 hx (t := (.object "java/util/List")) Bd.returns rfl (Or.inr (Or.inr (Or.inr (Or.inr ⟨rfl, rfl, rfl⟩)))) (hb hby d9_23) hr))
  show Q_arr Z a s h0 n0 _ T358.heap _
  rw [e358]
  exact ⟨rfl, N0, rfl⟩
theorem d26_0 : decode jdk_33_method_27_code 0 = .ok (.aload_n 0, 1) := by decide +kernel
theorem d26_1 : decode jdk_33_method_27_code 1 = .ok (.getfield 205, 3) := by decide +kernel
theorem d26_4 : decode jdk_33_method_27_code 4 = .ok (.ireturn, 1) := by decide +kernel
def Q_iv (Z : State) (a : Addr) (n : Int32) (h0 : Heap) (n0 : Nat) (v : Option Value) (h : Heap) (L : List Loc) : Prop := v = some (.int n) ∧ Fr n0 L ∧ h = h0
set_option maxRecDepth 65536 in
set_option maxHeartbeats 40000000 in
theorem rm_iv (l : Launch) (Z : State) (a0 : Array Value) (hw : ∀ d ∈ tables_1, d.before a0 Z = true) (ws : List Jvm.Cond) (a : Addr) (n : Int32) (h0 : Heap) (n0 : Nat) (O0 : Old Z n0 h0) (u0 : Fld Z h0 a "java/lang/Integer" "value" "I" (.int n)) :
    MetFree l (⟨"java/lang/Integer", "intValue", "()I"⟩ : MethodName) (head1 (Jvm.Cond.code (⟨"java/lang/Integer", "intValue", "()I"⟩ : MethodName) jdk_33_method_27_code 1 (some .int) :: ws) ({ frames := 0, cells := 0, slots := 0, locals := 0 } : Room)) (fun aV U => aV = #[(.ref a)] ∧ Z.Warmed39 U.vm ∧ U.heap = h0) (fun _ _ _ _ _ => True) (fun _ U o U' => ∃ v L, o = .returned v ∧ Q_iv Z a n h0 n0 v U'.heap L ∧ FrameEnd U o U' L ({ frames := 0, cells := 0, slots := 0, locals := 0 } : Room).cells ({ frames := 0, cells := 0, slots := 0, locals := 0 } : Room).slots) := by
  refine MetFree.of_bodySF (plainFor_of_name pn_1) hisR ?_
  intro pr_ en_ st_ me_ args below meth_ co_ s₁ Bd hml0 hP hK
  obtain ⟨rfl, hZ, hh⟩ := hP
  have hx := Bd.exec
  have hby := Bd.bytes
  have hml : co_.maxLocals = 1 := hml0
  have hown : st_.vm.findClass "java/lang/Integer" = some me_.cls := findClass_of_methodNamed Bd.named
  have hnm := (name_of_methodNamed Bd.named Bd.method).1
  have X0 : Stand pr_ l en_ ({ frames := 0, cells := 0, slots := 0, locals := 0 } : Room) st_ me_ #[(.ref a)] below meth_ co_ s₁ [] 0 0 := Stand.of_body Bd
  have e0 : s₁.heap = h0 := by rw [← hh, Bd.state]; rfl
  have N0 := Fr.nil n0
  have K0 := Keep.refl h0 []
  obtain ⟨G, gv, gf, gb⟩ := own_G pr_.tables en_ below st_ (Q_iv Z a n h0 n0) ({ frames := 0, cells := 0, slots := 0, locals := 0 } : Room).cells ({ frames := 0, cells := 0, slots := 0, locals := 0 } : Room).slots
  show own_Fin pr_.tables en_ below st_ (Q_iv Z a n h0 n0) ({ frames := 0, cells := 0, slots := 0, locals := 0 } : Room).cells ({ frames := 0, cells := 0, slots := 0, locals := 0 } : Room).slots (s₁.setTop (entryFrame me_ #[(.ref a)] 1))
  refine gb _ (gv (fun tQ kQ => castTop (ef_0 me_ a) kQ) ?_)
  show G (s₁.setTop (mkF me_ 0 #[.val (.ref a)] []))
  refine gv (fun tQ kQ => XS.aloadN X0.here hx rfl (hb hby d26_0) rfl rfl kQ) ?_
  show G (s₁.setTop (mkF me_ 1 #[.val (.ref a)] [(.ref a)]))
  obtain ⟨T359, X359, e359, st359⟩ := getF X0 hx hZ hown (host := "") (Or.inl (hw _ (List.mem_of_getElem? (i := 148) rfl))) Via.refl e0 u0 (g := (mkF me_ 1 #[.val (.ref a)] [(.ref a)])) rfl rfl (hb hby d26_1)
  refine gv st359 ?_
  show G (T359.setTop (mkF me_ 4 #[.val (.ref a)] [(.int n)]))
  refine gf _ (own_ret X359 Bd.notSynchronized (v := some (.int n)) (fun h => by rw [Bd.returns] at h; cases h) ?_ (by decide) (by decide) (fun fs hr => retOut X359 hx (t := .int) Bd.returns rfl (Or.inl ⟨rfl, Or.inl rfl, _, rfl⟩) (hb hby d26_4) hr))
  show Q_iv Z a n h0 n0 _ T359.heap _
  rw [e359]
  exact ⟨rfl, N0, rfl⟩
theorem d10_0 : decode jdk_38_method_8_code 0 = .ok (.aload_n 0, 1) := by decide +kernel
theorem d10_1 : decode jdk_38_method_8_code 1 = .ok (.getfield 48, 3) := by decide +kernel
theorem d10_4 : decode jdk_38_method_8_code 4 = .ok (.ireturn, 1) := by decide +kernel
def Q_size0 (Z : State) (a : Addr) (h0 : Heap) (n0 : Nat) (v : Option Value) (h : Heap) (L : List Loc) : Prop := v = some (.int (0 : Int32)) ∧ Fr n0 L ∧ h = h0
set_option maxRecDepth 65536 in
set_option maxHeartbeats 40000000 in
theorem rm_size0 (l : Launch) (Z : State) (a0 : Array Value) (hw : ∀ d ∈ tables_1, d.before a0 Z = true) (ws : List Jvm.Cond) (a : Addr) (h0 : Heap) (n0 : Nat) (O0 : Old Z n0 h0) (u0 : Fld Z h0 a "java/util/ArrayList" "size" "I" (.int (0 : Int32))) :
    MetFree l (⟨"java/util/ArrayList", "size", "()I"⟩ : MethodName) (head1 (Jvm.Cond.code (⟨"java/util/ArrayList", "size", "()I"⟩ : MethodName) jdk_38_method_8_code 1 (some .int) :: ws) ({ frames := 0, cells := 0, slots := 0, locals := 0 } : Room)) (fun aV U => aV = #[(.ref a)] ∧ Z.Warmed39 U.vm ∧ U.heap = h0) (fun _ _ _ _ _ => True) (fun _ U o U' => ∃ v L, o = .returned v ∧ Q_size0 Z a h0 n0 v U'.heap L ∧ FrameEnd U o U' L ({ frames := 0, cells := 0, slots := 0, locals := 0 } : Room).cells ({ frames := 0, cells := 0, slots := 0, locals := 0 } : Room).slots) := by
  refine MetFree.of_bodySF (plainFor_of_name pn_4) hisR ?_
  intro pr_ en_ st_ me_ args below meth_ co_ s₁ Bd hml0 hP hK
  obtain ⟨rfl, hZ, hh⟩ := hP
  have hx := Bd.exec
  have hby := Bd.bytes
  have hml : co_.maxLocals = 1 := hml0
  have hown : st_.vm.findClass "java/util/ArrayList" = some me_.cls := findClass_of_methodNamed Bd.named
  have hnm := (name_of_methodNamed Bd.named Bd.method).1
  have X0 : Stand pr_ l en_ ({ frames := 0, cells := 0, slots := 0, locals := 0 } : Room) st_ me_ #[(.ref a)] below meth_ co_ s₁ [] 0 0 := Stand.of_body Bd
  have e0 : s₁.heap = h0 := by rw [← hh, Bd.state]; rfl
  have N0 := Fr.nil n0
  have K0 := Keep.refl h0 []
  obtain ⟨G, gv, gf, gb⟩ := own_G pr_.tables en_ below st_ (Q_size0 Z a h0 n0) ({ frames := 0, cells := 0, slots := 0, locals := 0 } : Room).cells ({ frames := 0, cells := 0, slots := 0, locals := 0 } : Room).slots
  show own_Fin pr_.tables en_ below st_ (Q_size0 Z a h0 n0) ({ frames := 0, cells := 0, slots := 0, locals := 0 } : Room).cells ({ frames := 0, cells := 0, slots := 0, locals := 0 } : Room).slots (s₁.setTop (entryFrame me_ #[(.ref a)] 1))
  refine gb _ (gv (fun tQ kQ => castTop (ef_0 me_ a) kQ) ?_)
  show G (s₁.setTop (mkF me_ 0 #[.val (.ref a)] []))
  refine gv (fun tQ kQ => XS.aloadN X0.here hx rfl (hb hby d10_0) rfl rfl kQ) ?_
  show G (s₁.setTop (mkF me_ 1 #[.val (.ref a)] [(.ref a)]))
  obtain ⟨T360, X360, e360, st360⟩ := getF X0 hx hZ hown (host := "") (Or.inl (hw _ (List.mem_of_getElem? (i := 65) rfl))) Via.refl e0 u0 (g := (mkF me_ 1 #[.val (.ref a)] [(.ref a)])) rfl rfl (hb hby d10_1)
  refine gv st360 ?_
  show G (T360.setTop (mkF me_ 4 #[.val (.ref a)] [(.int (0 : Int32))]))
  refine gf _ (own_ret X360 Bd.notSynchronized (v := some (.int (0 : Int32))) (fun h => by rw [Bd.returns] at h; cases h) ?_ (by decide) (by decide) (fun fs hr => retOut X360 hx (t := .int) Bd.returns rfl (Or.inl ⟨rfl, Or.inl rfl, _, rfl⟩) (hb hby d10_4) hr))
  show Q_size0 Z a h0 n0 _ T360.heap _
  rw [e360]
  exact ⟨rfl, N0, rfl⟩
def Q_size1 (Z : State) (a : Addr) (h0 : Heap) (n0 : Nat) (v : Option Value) (h : Heap) (L : List Loc) : Prop := v = some (.int (1 : Int32)) ∧ Fr n0 L ∧ h = h0
set_option maxRecDepth 65536 in
set_option maxHeartbeats 40000000 in
theorem rm_size1 (l : Launch) (Z : State) (a0 : Array Value) (hw : ∀ d ∈ tables_1, d.before a0 Z = true) (ws : List Jvm.Cond) (a : Addr) (h0 : Heap) (n0 : Nat) (O0 : Old Z n0 h0) (u0 : Fld Z h0 a "java/util/ArrayList" "size" "I" (.int (1 : Int32))) :
    MetFree l (⟨"java/util/ArrayList", "size", "()I"⟩ : MethodName) (head1 (Jvm.Cond.code (⟨"java/util/ArrayList", "size", "()I"⟩ : MethodName) jdk_38_method_8_code 1 (some .int) :: ws) ({ frames := 0, cells := 0, slots := 0, locals := 0 } : Room)) (fun aV U => aV = #[(.ref a)] ∧ Z.Warmed39 U.vm ∧ U.heap = h0) (fun _ _ _ _ _ => True) (fun _ U o U' => ∃ v L, o = .returned v ∧ Q_size1 Z a h0 n0 v U'.heap L ∧ FrameEnd U o U' L ({ frames := 0, cells := 0, slots := 0, locals := 0 } : Room).cells ({ frames := 0, cells := 0, slots := 0, locals := 0 } : Room).slots) := by
  refine MetFree.of_bodySF (plainFor_of_name pn_4) hisR ?_
  intro pr_ en_ st_ me_ args below meth_ co_ s₁ Bd hml0 hP hK
  obtain ⟨rfl, hZ, hh⟩ := hP
  have hx := Bd.exec
  have hby := Bd.bytes
  have hml : co_.maxLocals = 1 := hml0
  have hown : st_.vm.findClass "java/util/ArrayList" = some me_.cls := findClass_of_methodNamed Bd.named
  have hnm := (name_of_methodNamed Bd.named Bd.method).1
  have X0 : Stand pr_ l en_ ({ frames := 0, cells := 0, slots := 0, locals := 0 } : Room) st_ me_ #[(.ref a)] below meth_ co_ s₁ [] 0 0 := Stand.of_body Bd
  have e0 : s₁.heap = h0 := by rw [← hh, Bd.state]; rfl
  have N0 := Fr.nil n0
  have K0 := Keep.refl h0 []
  obtain ⟨G, gv, gf, gb⟩ := own_G pr_.tables en_ below st_ (Q_size1 Z a h0 n0) ({ frames := 0, cells := 0, slots := 0, locals := 0 } : Room).cells ({ frames := 0, cells := 0, slots := 0, locals := 0 } : Room).slots
  show own_Fin pr_.tables en_ below st_ (Q_size1 Z a h0 n0) ({ frames := 0, cells := 0, slots := 0, locals := 0 } : Room).cells ({ frames := 0, cells := 0, slots := 0, locals := 0 } : Room).slots (s₁.setTop (entryFrame me_ #[(.ref a)] 1))
  refine gb _ (gv (fun tQ kQ => castTop (ef_0 me_ a) kQ) ?_)
  show G (s₁.setTop (mkF me_ 0 #[.val (.ref a)] []))
  refine gv (fun tQ kQ => XS.aloadN X0.here hx rfl (hb hby d10_0) rfl rfl kQ) ?_
  show G (s₁.setTop (mkF me_ 1 #[.val (.ref a)] [(.ref a)]))
  obtain ⟨T361, X361, e361, st361⟩ := getF X0 hx hZ hown (host := "") (Or.inl (hw _ (List.mem_of_getElem? (i := 65) rfl))) Via.refl e0 u0 (g := (mkF me_ 1 #[.val (.ref a)] [(.ref a)])) rfl rfl (hb hby d10_1)
  refine gv st361 ?_
  show G (T361.setTop (mkF me_ 4 #[.val (.ref a)] [(.int (1 : Int32))]))
  refine gf _ (own_ret X361 Bd.notSynchronized (v := some (.int (1 : Int32))) (fun h => by rw [Bd.returns] at h; cases h) ?_ (by decide) (by decide) (fun fs hr => retOut X361 hx (t := .int) Bd.returns rfl (Or.inl ⟨rfl, Or.inl rfl, _, rfl⟩) (hb hby d10_4) hr))
  show Q_size1 Z a h0 n0 _ T361.heap _
  rw [e361]
  exact ⟨rfl, N0, rfl⟩
def Q_size2 (Z : State) (a : Addr) (h0 : Heap) (n0 : Nat) (v : Option Value) (h : Heap) (L : List Loc) : Prop := v = some (.int (2 : Int32)) ∧ Fr n0 L ∧ h = h0
set_option maxRecDepth 65536 in
set_option maxHeartbeats 40000000 in
theorem rm_size2 (l : Launch) (Z : State) (a0 : Array Value) (hw : ∀ d ∈ tables_1, d.before a0 Z = true) (ws : List Jvm.Cond) (a : Addr) (h0 : Heap) (n0 : Nat) (O0 : Old Z n0 h0) (u0 : Fld Z h0 a "java/util/ArrayList" "size" "I" (.int (2 : Int32))) :
    MetFree l (⟨"java/util/ArrayList", "size", "()I"⟩ : MethodName) (head1 (Jvm.Cond.code (⟨"java/util/ArrayList", "size", "()I"⟩ : MethodName) jdk_38_method_8_code 1 (some .int) :: ws) ({ frames := 0, cells := 0, slots := 0, locals := 0 } : Room)) (fun aV U => aV = #[(.ref a)] ∧ Z.Warmed39 U.vm ∧ U.heap = h0) (fun _ _ _ _ _ => True) (fun _ U o U' => ∃ v L, o = .returned v ∧ Q_size2 Z a h0 n0 v U'.heap L ∧ FrameEnd U o U' L ({ frames := 0, cells := 0, slots := 0, locals := 0 } : Room).cells ({ frames := 0, cells := 0, slots := 0, locals := 0 } : Room).slots) := by
  refine MetFree.of_bodySF (plainFor_of_name pn_4) hisR ?_
  intro pr_ en_ st_ me_ args below meth_ co_ s₁ Bd hml0 hP hK
  obtain ⟨rfl, hZ, hh⟩ := hP
  have hx := Bd.exec
  have hby := Bd.bytes
  have hml : co_.maxLocals = 1 := hml0
  have hown : st_.vm.findClass "java/util/ArrayList" = some me_.cls := findClass_of_methodNamed Bd.named
  have hnm := (name_of_methodNamed Bd.named Bd.method).1
  have X0 : Stand pr_ l en_ ({ frames := 0, cells := 0, slots := 0, locals := 0 } : Room) st_ me_ #[(.ref a)] below meth_ co_ s₁ [] 0 0 := Stand.of_body Bd
  have e0 : s₁.heap = h0 := by rw [← hh, Bd.state]; rfl
  have N0 := Fr.nil n0
  have K0 := Keep.refl h0 []
  obtain ⟨G, gv, gf, gb⟩ := own_G pr_.tables en_ below st_ (Q_size2 Z a h0 n0) ({ frames := 0, cells := 0, slots := 0, locals := 0 } : Room).cells ({ frames := 0, cells := 0, slots := 0, locals := 0 } : Room).slots
  show own_Fin pr_.tables en_ below st_ (Q_size2 Z a h0 n0) ({ frames := 0, cells := 0, slots := 0, locals := 0 } : Room).cells ({ frames := 0, cells := 0, slots := 0, locals := 0 } : Room).slots (s₁.setTop (entryFrame me_ #[(.ref a)] 1))
  refine gb _ (gv (fun tQ kQ => castTop (ef_0 me_ a) kQ) ?_)
  show G (s₁.setTop (mkF me_ 0 #[.val (.ref a)] []))
  refine gv (fun tQ kQ => XS.aloadN X0.here hx rfl (hb hby d10_0) rfl rfl kQ) ?_
  show G (s₁.setTop (mkF me_ 1 #[.val (.ref a)] [(.ref a)]))
  obtain ⟨T362, X362, e362, st362⟩ := getF X0 hx hZ hown (host := "") (Or.inl (hw _ (List.mem_of_getElem? (i := 65) rfl))) Via.refl e0 u0 (g := (mkF me_ 1 #[.val (.ref a)] [(.ref a)])) rfl rfl (hb hby d10_1)
  refine gv st362 ?_
  show G (T362.setTop (mkF me_ 4 #[.val (.ref a)] [(.int (2 : Int32))]))
  refine gf _ (own_ret X362 Bd.notSynchronized (v := some (.int (2 : Int32))) (fun h => by rw [Bd.returns] at h; cases h) ?_ (by decide) (by decide) (fun fs hr => retOut X362 hx (t := .int) Bd.returns rfl (Or.inl ⟨rfl, Or.inl rfl, _, rfl⟩) (hb hby d10_4) hr))
  show Q_size2 Z a h0 n0 _ T362.heap _
  rw [e362]
  exact ⟨rfl, N0, rfl⟩
def Q_size3 (Z : State) (a : Addr) (h0 : Heap) (n0 : Nat) (v : Option Value) (h : Heap) (L : List Loc) : Prop := v = some (.int (3 : Int32)) ∧ Fr n0 L ∧ h = h0
set_option maxRecDepth 65536 in
set_option maxHeartbeats 40000000 in
theorem rm_size3 (l : Launch) (Z : State) (a0 : Array Value) (hw : ∀ d ∈ tables_1, d.before a0 Z = true) (ws : List Jvm.Cond) (a : Addr) (h0 : Heap) (n0 : Nat) (O0 : Old Z n0 h0) (u0 : Fld Z h0 a "java/util/ArrayList" "size" "I" (.int (3 : Int32))) :
    MetFree l (⟨"java/util/ArrayList", "size", "()I"⟩ : MethodName) (head1 (Jvm.Cond.code (⟨"java/util/ArrayList", "size", "()I"⟩ : MethodName) jdk_38_method_8_code 1 (some .int) :: ws) ({ frames := 0, cells := 0, slots := 0, locals := 0 } : Room)) (fun aV U => aV = #[(.ref a)] ∧ Z.Warmed39 U.vm ∧ U.heap = h0) (fun _ _ _ _ _ => True) (fun _ U o U' => ∃ v L, o = .returned v ∧ Q_size3 Z a h0 n0 v U'.heap L ∧ FrameEnd U o U' L ({ frames := 0, cells := 0, slots := 0, locals := 0 } : Room).cells ({ frames := 0, cells := 0, slots := 0, locals := 0 } : Room).slots) := by
  refine MetFree.of_bodySF (plainFor_of_name pn_4) hisR ?_
  intro pr_ en_ st_ me_ args below meth_ co_ s₁ Bd hml0 hP hK
  obtain ⟨rfl, hZ, hh⟩ := hP
  have hx := Bd.exec
  have hby := Bd.bytes
  have hml : co_.maxLocals = 1 := hml0
  have hown : st_.vm.findClass "java/util/ArrayList" = some me_.cls := findClass_of_methodNamed Bd.named
  have hnm := (name_of_methodNamed Bd.named Bd.method).1
  have X0 : Stand pr_ l en_ ({ frames := 0, cells := 0, slots := 0, locals := 0 } : Room) st_ me_ #[(.ref a)] below meth_ co_ s₁ [] 0 0 := Stand.of_body Bd
  have e0 : s₁.heap = h0 := by rw [← hh, Bd.state]; rfl
  have N0 := Fr.nil n0
  have K0 := Keep.refl h0 []
  obtain ⟨G, gv, gf, gb⟩ := own_G pr_.tables en_ below st_ (Q_size3 Z a h0 n0) ({ frames := 0, cells := 0, slots := 0, locals := 0 } : Room).cells ({ frames := 0, cells := 0, slots := 0, locals := 0 } : Room).slots
  show own_Fin pr_.tables en_ below st_ (Q_size3 Z a h0 n0) ({ frames := 0, cells := 0, slots := 0, locals := 0 } : Room).cells ({ frames := 0, cells := 0, slots := 0, locals := 0 } : Room).slots (s₁.setTop (entryFrame me_ #[(.ref a)] 1))
  refine gb _ (gv (fun tQ kQ => castTop (ef_0 me_ a) kQ) ?_)
  show G (s₁.setTop (mkF me_ 0 #[.val (.ref a)] []))
  refine gv (fun tQ kQ => XS.aloadN X0.here hx rfl (hb hby d10_0) rfl rfl kQ) ?_
  show G (s₁.setTop (mkF me_ 1 #[.val (.ref a)] [(.ref a)]))
  obtain ⟨T363, X363, e363, st363⟩ := getF X0 hx hZ hown (host := "") (Or.inl (hw _ (List.mem_of_getElem? (i := 65) rfl))) Via.refl e0 u0 (g := (mkF me_ 1 #[.val (.ref a)] [(.ref a)])) rfl rfl (hb hby d10_1)
  refine gv st363 ?_
  show G (T363.setTop (mkF me_ 4 #[.val (.ref a)] [(.int (3 : Int32))]))
  refine gf _ (own_ret X363 Bd.notSynchronized (v := some (.int (3 : Int32))) (fun h => by rw [Bd.returns] at h; cases h) ?_ (by decide) (by decide) (fun fs hr => retOut X363 hx (t := .int) Bd.returns rfl (Or.inl ⟨rfl, Or.inl rfl, _, rfl⟩) (hb hby d10_4) hr))
  show Q_size3 Z a h0 n0 _ T363.heap _
  rw [e363]
  exact ⟨rfl, N0, rfl⟩
theorem ef_12 (m : MethodId) (x0 : Int32) (x1 : Int32)  : entryFrame m #[(.int x0), (.int x1), .null] 3 = mkF m 0 #[.val (.int x0), .val (.int x1), .val .null] [] := by first | (simp [entryFrame, mkF, argsToLocals, Value.category]; done) | rfl
theorem pn_9 : plainName "jdk/internal/util/Preconditions" = true := by first | (simp [plainName, overriddenIn]; done) | decide +kernel
theorem d24_0 : decode jdk_41_method_11_code 0 = .ok (.iload_n 0, 1) := by decide +kernel
theorem d24_1 : decode jdk_41_method_11_code 1 = .ok (.ifCond .lt 8, 3) := by decide +kernel
theorem d24_4 : decode jdk_41_method_11_code 4 = .ok (.iload_n 0, 1) := by decide +kernel
theorem d24_5 : decode jdk_41_method_11_code 5 = .ok (.iload_n 1, 1) := by decide +kernel
theorem d24_6 : decode jdk_41_method_11_code 6 = .ok (.if_icmp .lt 10, 3) := by decide +kernel
theorem d24_16 : decode jdk_41_method_11_code 16 = .ok (.iload_n 0, 1) := by decide +kernel
theorem d24_17 : decode jdk_41_method_11_code 17 = .ok (.ireturn, 1) := by decide +kernel
def Q_pci1_0 (Z : State)  (h0 : Heap) (n0 : Nat) (v : Option Value) (h : Heap) (L : List Loc) : Prop := v = some (.int (0 : Int32)) ∧ Fr n0 L ∧ h = h0
set_option maxRecDepth 65536 in
set_option maxHeartbeats 40000000 in
theorem rm_pci1_0 (l : Launch) (Z : State) (a0 : Array Value) (hw : ∀ d ∈ tables_1, d.before a0 Z = true) (ws : List Jvm.Cond)  (h0 : Heap) (n0 : Nat) (O0 : Old Z n0 h0)  :
    MetFree l (⟨"jdk/internal/util/Preconditions", "checkIndex", "(IILjava/util/function/BiFunction;)I"⟩ : MethodName) (head1 (Jvm.Cond.code (⟨"jdk/internal/util/Preconditions", "checkIndex", "(IILjava/util/function/BiFunction;)I"⟩ : MethodName) jdk_41_method_11_code 3 (some .int) :: ws) ({ frames := 0, cells := 0, slots := 0, locals := 0 } : Room)) (fun aV U => aV = #[(.int (0 : Int32)), (.int (1 : Int32)), .null] ∧ Z.Warmed39 U.vm ∧ U.heap = h0) (fun _ _ _ _ _ => True) (fun _ U o U' => ∃ v L, o = .returned v ∧ Q_pci1_0 Z  h0 n0 v U'.heap L ∧ FrameEnd U o U' L ({ frames := 0, cells := 0, slots := 0, locals := 0 } : Room).cells ({ frames := 0, cells := 0, slots := 0, locals := 0 } : Room).slots) := by
  refine MetFree.of_bodySF (plainFor_of_name pn_9) hisR ?_
  intro pr_ en_ st_ me_ args below meth_ co_ s₁ Bd hml0 hP hK
  obtain ⟨rfl, hZ, hh⟩ := hP
  have hx := Bd.exec
  have hby := Bd.bytes
  have hml : co_.maxLocals = 3 := hml0
  have hown : st_.vm.findClass "jdk/internal/util/Preconditions" = some me_.cls := findClass_of_methodNamed Bd.named
  have hnm := (name_of_methodNamed Bd.named Bd.method).1
  have X0 : Stand pr_ l en_ ({ frames := 0, cells := 0, slots := 0, locals := 0 } : Room) st_ me_ #[(.int (0 : Int32)), (.int (1 : Int32)), .null] below meth_ co_ s₁ [] 0 0 := Stand.of_body Bd
  have e0 : s₁.heap = h0 := by rw [← hh, Bd.state]; rfl
  have N0 := Fr.nil n0
  have K0 := Keep.refl h0 []
  obtain ⟨G, gv, gf, gb⟩ := own_G pr_.tables en_ below st_ (Q_pci1_0 Z  h0 n0) ({ frames := 0, cells := 0, slots := 0, locals := 0 } : Room).cells ({ frames := 0, cells := 0, slots := 0, locals := 0 } : Room).slots
  show own_Fin pr_.tables en_ below st_ (Q_pci1_0 Z  h0 n0) ({ frames := 0, cells := 0, slots := 0, locals := 0 } : Room).cells ({ frames := 0, cells := 0, slots := 0, locals := 0 } : Room).slots (s₁.setTop (entryFrame me_ #[(.int (0 : Int32)), (.int (1 : Int32)), .null] 3))
  refine gb _ (gv (fun tQ kQ => castTop (ef_12 me_ (0 : Int32) (1 : Int32)) kQ) ?_)
  show G (s₁.setTop (mkF me_ 0 #[.val (.int (0 : Int32)), .val (.int (1 : Int32)), .val .null] []))
  refine gv (fun tQ kQ => XS.iloadN X0.here hx rfl (hb hby d24_0) rfl kQ) ?_
  show G (s₁.setTop (mkF me_ 1 #[.val (.int (0 : Int32)), .val (.int (1 : Int32)), .val .null] [(.int (0 : Int32))]))
  refine gv (fun tQ kQ => XS.ifNo X0.here hx rfl (hb hby d24_1) rfl ((if0 _ _).trans (flt (by decide : ¬ ((0 : Int32) < (0 : Int32)))).1) kQ) ?_
  show G (s₁.setTop (mkF me_ 4 #[.val (.int (0 : Int32)), .val (.int (1 : Int32)), .val .null] []))
  refine gv (fun tQ kQ => XS.iloadN X0.here hx rfl (hb hby d24_4) rfl kQ) ?_
  show G (s₁.setTop (mkF me_ 5 #[.val (.int (0 : Int32)), .val (.int (1 : Int32)), .val .null] [(.int (0 : Int32))]))
  refine gv (fun tQ kQ => XS.iloadN X0.here hx rfl (hb hby d24_5) rfl kQ) ?_
  show G (s₁.setTop (mkF me_ 6 #[.val (.int (0 : Int32)), .val (.int (1 : Int32)), .val .null] [(.int (1 : Int32)), (.int (0 : Int32))]))
  refine gv (fun tQ kQ => XS.icmpYes X0.here hx rfl (pc0 := 6) (pc' := 16) rfl (hb hby d24_6) rfl (tlt (by decide : (0 : Int32) < (1 : Int32))).1 (by decide) (by decide) kQ) ?_
  show G (s₁.setTop (mkF me_ 16 #[.val (.int (0 : Int32)), .val (.int (1 : Int32)), .val .null] []))
  refine gv (fun tQ kQ => XS.iloadN X0.here hx rfl (hb hby d24_16) rfl kQ) ?_
  show G (s₁.setTop (mkF me_ 17 #[.val (.int (0 : Int32)), .val (.int (1 : Int32)), .val .null] [(.int (0 : Int32))]))
  refine gf _ (own_ret X0 Bd.notSynchronized (v := some (.int (0 : Int32))) (fun h => by rw [Bd.returns] at h; cases h) ?_ (by decide) (by decide) (fun fs hr => retOut X0 hx (t := .int) Bd.returns rfl (Or.inl ⟨rfl, Or.inl rfl, _, rfl⟩) (hb hby d24_17) hr))
  show Q_pci1_0 Z  h0 n0 _ s₁.heap _
  rw [e0]
  exact ⟨rfl, N0, rfl⟩
theorem pn_10 : plainName "java/util/Objects" = true := by first | (simp [plainName, overriddenIn]; done) | decide +kernel
theorem d23_0 : decode jdk_31_method_17_code 0 = .ok (.iload_n 0, 1) := by decide +kernel
theorem d23_1 : decode jdk_31_method_17_code 1 = .ok (.iload_n 1, 1) := by decide +kernel
theorem d23_2 : decode jdk_31_method_17_code 2 = .ok (.aconst_null, 1) := by decide +kernel
theorem d23_3 : decode jdk_31_method_17_code 3 = .ok (.invokestatic 105, 3) := by decide +kernel
theorem pd_13 : parseMethodDescriptor "(IILjava/util/function/BiFunction;)I" = some ⟨[.int, .int, (.object "java/util/function/BiFunction")], some .int⟩ := by decide +kernel
theorem d23_6 : decode jdk_31_method_17_code 6 = .ok (.ireturn, 1) := by decide +kernel
def Q_oci1_0 (Z : State)  (h0 : Heap) (n0 : Nat) (v : Option Value) (h : Heap) (L : List Loc) : Prop := v = some (.int (0 : Int32)) ∧ Fr n0 L ∧ h = h0
set_option maxRecDepth 65536 in
set_option maxHeartbeats 40000000 in
theorem rm_oci1_0 (l : Launch) (Z : State) (a0 : Array Value) (hw : ∀ d ∈ tables_1, d.before a0 Z = true) (ws : List Jvm.Cond)  (h0 : Heap) (n0 : Nat) (O0 : Old Z n0 h0)  :
    MetFree l (⟨"java/util/Objects", "checkIndex", "(II)I"⟩ : MethodName) (head1 (Jvm.Cond.code (⟨"java/util/Objects", "checkIndex", "(II)I"⟩ : MethodName) jdk_31_method_17_code 2 (some .int) :: ws) ({ frames := 1, cells := 0, slots := 0, locals := 14 } : Room)) (fun aV U => aV = #[(.int (0 : Int32)), (.int (1 : Int32))] ∧ Z.Warmed39 U.vm ∧ U.heap = h0) (fun _ _ _ _ _ => True) (fun _ U o U' => ∃ v L, o = .returned v ∧ Q_oci1_0 Z  h0 n0 v U'.heap L ∧ FrameEnd U o U' L ({ frames := 1, cells := 0, slots := 0, locals := 14 } : Room).cells ({ frames := 1, cells := 0, slots := 0, locals := 14 } : Room).slots) := by
  refine MetFree.of_bodySF (plainFor_of_name pn_10) hisR ?_
  intro pr_ en_ st_ me_ args below meth_ co_ s₁ Bd hml0 hP hK
  obtain ⟨rfl, hZ, hh⟩ := hP
  have hx := Bd.exec
  have hby := Bd.bytes
  have hml : co_.maxLocals = 2 := hml0
  have hown : st_.vm.findClass "java/util/Objects" = some me_.cls := findClass_of_methodNamed Bd.named
  have hnm := (name_of_methodNamed Bd.named Bd.method).1
  have X0 : Stand pr_ l en_ ({ frames := 1, cells := 0, slots := 0, locals := 14 } : Room) st_ me_ #[(.int (0 : Int32)), (.int (1 : Int32))] below meth_ co_ s₁ [] 0 0 := Stand.of_body Bd
  have e0 : s₁.heap = h0 := by rw [← hh, Bd.state]; rfl
  have N0 := Fr.nil n0
  have K0 := Keep.refl h0 []
  obtain ⟨G, gv, gf, gb⟩ := own_G pr_.tables en_ below st_ (Q_oci1_0 Z  h0 n0) ({ frames := 1, cells := 0, slots := 0, locals := 14 } : Room).cells ({ frames := 1, cells := 0, slots := 0, locals := 14 } : Room).slots
  show own_Fin pr_.tables en_ below st_ (Q_oci1_0 Z  h0 n0) ({ frames := 1, cells := 0, slots := 0, locals := 14 } : Room).cells ({ frames := 1, cells := 0, slots := 0, locals := 14 } : Room).slots (s₁.setTop (entryFrame me_ #[(.int (0 : Int32)), (.int (1 : Int32))] 2))
  refine gb _ (gv (fun tQ kQ => castTop (ef_3 me_ (0 : Int32) (1 : Int32)) kQ) ?_)
  show G (s₁.setTop (mkF me_ 0 #[.val (.int (0 : Int32)), .val (.int (1 : Int32))] []))
  refine gv (fun tQ kQ => XS.iloadN X0.here hx rfl (hb hby d23_0) rfl kQ) ?_
  show G (s₁.setTop (mkF me_ 1 #[.val (.int (0 : Int32)), .val (.int (1 : Int32))] [(.int (0 : Int32))]))
  refine gv (fun tQ kQ => XS.iloadN X0.here hx rfl (hb hby d23_1) rfl kQ) ?_
  show G (s₁.setTop (mkF me_ 2 #[.val (.int (0 : Int32)), .val (.int (1 : Int32))] [(.int (1 : Int32)), (.int (0 : Int32))]))
  refine gv (fun tQ kQ => XS.aconstNull X0.here hx rfl (hb hby d23_2) kQ) ?_
  show G (s₁.setTop (mkF me_ 3 #[.val (.int (0 : Int32)), .val (.int (1 : Int32))] [.null, (.int (1 : Int32)), (.int (0 : Int32))]))
  obtain ⟨_, _, ⟨T364, L364, k364, n364⟩, -, X364, ⟨Lc364, hQ364, l364, y364, z364⟩, st364⟩ := Jvm.LawKit.callS X0 hx (y := (⟨"jdk/internal/util/Preconditions", "checkIndex", "(IILjava/util/function/BiFunction;)I"⟩ : MethodName)) hown (mvT hZ (hw _ (List.mem_of_getElem? (i := 132) rfl))) (mvT hZ (hw _ (List.mem_of_getElem? (i := 133) rfl))) (mvT hZ (hw _ (List.mem_of_getElem? (i := 134) rfl))) (mvT hZ (hw _ (List.mem_of_getElem? (i := 135) rfl))) (by decide) (backOf (W := 0) (rm_pci1_0 l Z a0 hw []  h0 n0 O0 ) hZ (hw _ (List.mem_of_getElem? (i := 135) rfl)) (hw _ (List.mem_of_getElem? (i := 134) rfl)) (by decide) (by decide)) (g := (mkF me_ 3 #[.val (.int (0 : Int32)), .val (.int (1 : Int32))] [.null, (.int (1 : Int32)), (.int (0 : Int32))])) rfl (by rw [hml]; rfl) (argsL := [(.int (0 : Int32)), (.int (1 : Int32)), .null]) (rest := []) (lenOf pd_13 rfl) rfl (by show 2 * 0 + _ ≤ _; exact Nat.le_of_eq rfl) (hb hby d23_3) (fun _ _ => ⟨rfl, e0, (by decide : 0 + 0 ≤ _), (by decide : 0 + 0 ≤ _)⟩)
  dsimp only [Pt.U, Pt.locs, Pt.cells, Pt.slots] at X364 l364 y364 z364 st364 hQ364
  subst l364 y364 z364
  obtain ⟨rfl, Nq364, eq364⟩ := hQ364
  have N365 := Fr.app N0 Nq364
  refine gv st364 ?_
  show G (T364.setTop (mkF me_ 6 #[.val (.int (0 : Int32)), .val (.int (1 : Int32))] [(.int (0 : Int32))]))
  refine gf _ (own_ret X364 Bd.notSynchronized (v := some (.int (0 : Int32))) (fun h => by rw [Bd.returns] at h; cases h) ?_ (by decide) (by decide) (fun fs hr => retOut X364 hx (t := .int) Bd.returns rfl (Or.inl ⟨rfl, Or.inl rfl, _, rfl⟩) (hb hby d23_6) hr))
  show Q_oci1_0 Z  h0 n0 _ T364.heap _
  rw [eq364]
  exact ⟨rfl, N365, rfl⟩
theorem d25_0 : decode jdk_38_method_18_code 0 = .ok (.aload_n 0, 1) := by decide +kernel
theorem d25_1 : decode jdk_38_method_18_code 1 = .ok (.getfield 9, 3) := by decide +kernel
theorem d25_4 : decode jdk_38_method_18_code 4 = .ok (.iload_n 1, 1) := by decide +kernel
theorem d25_5 : decode jdk_38_method_18_code 5 = .ok (.aaload, 1) := by decide +kernel
theorem d25_6 : decode jdk_38_method_18_code 6 = .ok (.areturn, 1) := by decide +kernel
def Q_ed1_0 (Z : State) (a : Addr) (b : Addr) (k : ClassId) (r0 : Addr) (h0 : Heap) (n0 : Nat) (v : Option Value) (h : Heap) (L : List Loc) : Prop := v = some (.ref r0) ∧ Fr n0 L ∧ h = h0
set_option maxRecDepth 65536 in
set_option maxHeartbeats 40000000 in
theorem rm_ed1_0 (l : Launch) (Z : State) (a0 : Array Value) (hw : ∀ d ∈ tables_1, d.before a0 Z = true) (ws : List Jvm.Cond) (a : Addr) (b : Addr) (k : ClassId) (r0 : Addr) (h0 : Heap) (n0 : Nat) (O0 : Old Z n0 h0) (u0 : Fld Z h0 a "java/util/ArrayList" "elementData" "[Ljava/lang/Object;" (.ref b)) (u1 : Arv Z h0 b k (.object "java/lang/Object") (10 : Int32) [(.ref r0), .null, .null, .null, .null, .null, .null, .null, .null, .null] .null) :
    MetFree l (⟨"java/util/ArrayList", "elementData", "(I)Ljava/lang/Object;"⟩ : MethodName) (head1 (Jvm.Cond.code (⟨"java/util/ArrayList", "elementData", "(I)Ljava/lang/Object;"⟩ : MethodName) jdk_38_method_18_code 2 (some (.object "java/lang/Object")) :: ws) ({ frames := 0, cells := 0, slots := 0, locals := 0 } : Room)) (fun aV U => aV = #[(.ref a), (.int (0 : Int32))] ∧ Z.Warmed39 U.vm ∧ U.heap = h0) (fun _ _ _ _ _ => True) (fun _ U o U' => ∃ v L, o = .returned v ∧ Q_ed1_0 Z a b k r0 h0 n0 v U'.heap L ∧ FrameEnd U o U' L ({ frames := 0, cells := 0, slots := 0, locals := 0 } : Room).cells ({ frames := 0, cells := 0, slots := 0, locals := 0 } : Room).slots) := by
  refine MetFree.of_bodySF (plainFor_of_name pn_4) hisR ?_
  intro pr_ en_ st_ me_ args below meth_ co_ s₁ Bd hml0 hP hK
  obtain ⟨rfl, hZ, hh⟩ := hP
  have hx := Bd.exec
  have hby := Bd.bytes
  have hml : co_.maxLocals = 2 := hml0
  have hown : st_.vm.findClass "java/util/ArrayList" = some me_.cls := findClass_of_methodNamed Bd.named
  have hnm := (name_of_methodNamed Bd.named Bd.method).1
  have X0 : Stand pr_ l en_ ({ frames := 0, cells := 0, slots := 0, locals := 0 } : Room) st_ me_ #[(.ref a), (.int (0 : Int32))] below meth_ co_ s₁ [] 0 0 := Stand.of_body Bd
  have e0 : s₁.heap = h0 := by rw [← hh, Bd.state]; rfl
  have N0 := Fr.nil n0
  have K0 := Keep.refl h0 []
  obtain ⟨G, gv, gf, gb⟩ := own_G pr_.tables en_ below st_ (Q_ed1_0 Z a b k r0 h0 n0) ({ frames := 0, cells := 0, slots := 0, locals := 0 } : Room).cells ({ frames := 0, cells := 0, slots := 0, locals := 0 } : Room).slots
  show own_Fin pr_.tables en_ below st_ (Q_ed1_0 Z a b k r0 h0 n0) ({ frames := 0, cells := 0, slots := 0, locals := 0 } : Room).cells ({ frames := 0, cells := 0, slots := 0, locals := 0 } : Room).slots (s₁.setTop (entryFrame me_ #[(.ref a), (.int (0 : Int32))] 2))
  refine gb _ (gv (fun tQ kQ => castTop (ef_1 me_ a (0 : Int32)) kQ) ?_)
  show G (s₁.setTop (mkF me_ 0 #[.val (.ref a), .val (.int (0 : Int32))] []))
  refine gv (fun tQ kQ => XS.aloadN X0.here hx rfl (hb hby d25_0) rfl rfl kQ) ?_
  show G (s₁.setTop (mkF me_ 1 #[.val (.ref a), .val (.int (0 : Int32))] [(.ref a)]))
  obtain ⟨T366, X366, e366, st366⟩ := getF X0 hx hZ hown (host := "") (Or.inl (hw _ (List.mem_of_getElem? (i := 24) rfl))) Via.refl e0 u0 (g := (mkF me_ 1 #[.val (.ref a), .val (.int (0 : Int32))] [(.ref a)])) rfl rfl (hb hby d25_1)
  refine gv st366 ?_
  show G (T366.setTop (mkF me_ 4 #[.val (.ref a), .val (.int (0 : Int32))] [(.ref b)]))
  refine gv (fun tQ kQ => XS.iloadN X366.here hx rfl (hb hby d25_4) rfl kQ) ?_
  show G (T366.setTop (mkF me_ 5 #[.val (.ref a), .val (.int (0 : Int32))] [(.int (0 : Int32)), (.ref b)]))
  obtain ⟨cl367, Ar367, q367, S367, n367, H367, G367⟩ := (id u1)
  have in367 : ¬ ((0 : Int32) < 0 ∨ cl367.slots.size ≤ ((0 : Int32)).toNatClampNeg) := inb_of S367 ⟨by decide, by decide⟩
  refine gv (X366.aaload hx (j := (0 : Int32)) (v := (.ref r0)) (by rw [e366]; exact Ar367.1) (State.isArrayOf_alike hZ.alike Ar367.2.1) rfl Ar367.2.2 in367 (Has.at H367 in367 rfl) (g := (mkF me_ 5 #[.val (.ref a), .val (.int (0 : Int32))] [(.int (0 : Int32)), (.ref b)])) rfl rfl (hb hby d25_5)) ?_
  show G (T366.setTop (mkF me_ 6 #[.val (.ref a), .val (.int (0 : Int32))] [(.ref r0)]))
  refine gf _ (own_ret X366 Bd.notSynchronized (v := some (.ref r0)) (fun h => by rw [Bd.returns] at h; cases h) ?_ (by decide) (by decide) (fun fs hr => retOut X366 hx (t := (.object "java/lang/Object")) Bd.returns rfl (Or.inr (Or.inr (Or.inr (Or.inr ⟨rfl, rfl, rfl⟩)))) (hb hby d25_6) hr))
  show Q_ed1_0 Z a b k r0 h0 n0 _ T366.heap _
  rw [e366]
  exact ⟨rfl, N0, rfl⟩
theorem d22_0 : decode jdk_38_method_20_code 0 = .ok (.iload_n 1, 1) := by decide +kernel
theorem d22_1 : decode jdk_38_method_20_code 1 = .ok (.aload_n 0, 1) := by decide +kernel
theorem d22_2 : decode jdk_38_method_20_code 2 = .ok (.getfield 48, 3) := by decide +kernel
theorem d22_5 : decode jdk_38_method_20_code 5 = .ok (.invokestatic 118, 3) := by decide +kernel
theorem d22_8 : decode jdk_38_method_20_code 8 = .ok (.pop, 1) := by decide +kernel
theorem d22_9 : decode jdk_38_method_20_code 9 = .ok (.aload_n 0, 1) := by decide +kernel
theorem d22_10 : decode jdk_38_method_20_code 10 = .ok (.iload_n 1, 1) := by decide +kernel
theorem d22_11 : decode jdk_38_method_20_code 11 = .ok (.invokevirtual 123, 3) := by decide +kernel
theorem pd_14 : parseMethodDescriptor "(I)Ljava/lang/Object;" = some ⟨[.int], some (.object "java/lang/Object")⟩ := by decide +kernel
theorem d22_14 : decode jdk_38_method_20_code 14 = .ok (.areturn, 1) := by decide +kernel
def Q_get1_0 (Z : State) (a : Addr) (b : Addr) (k : ClassId) (r0 : Addr) (h0 : Heap) (n0 : Nat) (v : Option Value) (h : Heap) (L : List Loc) : Prop := v = some (.ref r0) ∧ Fr n0 L ∧ h = h0
set_option maxRecDepth 65536 in
set_option maxHeartbeats 40000000 in
theorem rm_get1_0 (l : Launch) (Z : State) (a0 : Array Value) (hw : ∀ d ∈ tables_1, d.before a0 Z = true) (ws : List Jvm.Cond) (a : Addr) (b : Addr) (k : ClassId) (r0 : Addr) (h0 : Heap) (n0 : Nat) (O0 : Old Z n0 h0) (u0 : Exa Z h0 a "java/util/ArrayList") (u1 : Fld Z h0 a "java/util/ArrayList" "elementData" "[Ljava/lang/Object;" (.ref b)) (u2 : Fld Z h0 a "java/util/ArrayList" "size" "I" (.int (1 : Int32))) (u3 : Arv Z h0 b k (.object "java/lang/Object") (10 : Int32) [(.ref r0), .null, .null, .null, .null, .null, .null, .null, .null, .null] .null) :
    MetFree l (⟨"java/util/ArrayList", "get", "(I)Ljava/lang/Object;"⟩ : MethodName) (head1 (Jvm.Cond.code (⟨"java/util/ArrayList", "get", "(I)Ljava/lang/Object;"⟩ : MethodName) jdk_38_method_20_code 2 (some (.object "java/lang/Object")) :: ws) ({ frames := 2, cells := 0, slots := 0, locals := 27 } : Room)) (fun aV U => aV = #[(.ref a), (.int (0 : Int32))] ∧ Z.Warmed39 U.vm ∧ U.heap = h0) (fun _ _ _ _ _ => True) (fun _ U o U' => ∃ v L, o = .returned v ∧ Q_get1_0 Z a b k r0 h0 n0 v U'.heap L ∧ FrameEnd U o U' L ({ frames := 2, cells := 0, slots := 0, locals := 27 } : Room).cells ({ frames := 2, cells := 0, slots := 0, locals := 27 } : Room).slots) := by
  refine MetFree.of_bodySF (plainFor_of_name pn_4) hisR ?_
  intro pr_ en_ st_ me_ args below meth_ co_ s₁ Bd hml0 hP hK
  obtain ⟨rfl, hZ, hh⟩ := hP
  have hx := Bd.exec
  have hby := Bd.bytes
  have hml : co_.maxLocals = 2 := hml0
  have hown : st_.vm.findClass "java/util/ArrayList" = some me_.cls := findClass_of_methodNamed Bd.named
  have hnm := (name_of_methodNamed Bd.named Bd.method).1
  have X0 : Stand pr_ l en_ ({ frames := 2, cells := 0, slots := 0, locals := 27 } : Room) st_ me_ #[(.ref a), (.int (0 : Int32))] below meth_ co_ s₁ [] 0 0 := Stand.of_body Bd
  have e0 : s₁.heap = h0 := by rw [← hh, Bd.state]; rfl
  have N0 := Fr.nil n0
  have K0 := Keep.refl h0 []
  obtain ⟨G, gv, gf, gb⟩ := own_G pr_.tables en_ below st_ (Q_get1_0 Z a b k r0 h0 n0) ({ frames := 2, cells := 0, slots := 0, locals := 27 } : Room).cells ({ frames := 2, cells := 0, slots := 0, locals := 27 } : Room).slots
  show own_Fin pr_.tables en_ below st_ (Q_get1_0 Z a b k r0 h0 n0) ({ frames := 2, cells := 0, slots := 0, locals := 27 } : Room).cells ({ frames := 2, cells := 0, slots := 0, locals := 27 } : Room).slots (s₁.setTop (entryFrame me_ #[(.ref a), (.int (0 : Int32))] 2))
  refine gb _ (gv (fun tQ kQ => castTop (ef_1 me_ a (0 : Int32)) kQ) ?_)
  show G (s₁.setTop (mkF me_ 0 #[.val (.ref a), .val (.int (0 : Int32))] []))
  refine gv (fun tQ kQ => XS.iloadN X0.here hx rfl (hb hby d22_0) rfl kQ) ?_
  show G (s₁.setTop (mkF me_ 1 #[.val (.ref a), .val (.int (0 : Int32))] [(.int (0 : Int32))]))
  refine gv (fun tQ kQ => XS.aloadN X0.here hx rfl (hb hby d22_1) rfl rfl kQ) ?_
  show G (s₁.setTop (mkF me_ 2 #[.val (.ref a), .val (.int (0 : Int32))] [(.ref a), (.int (0 : Int32))]))
  obtain ⟨T368, X368, e368, st368⟩ := getF X0 hx hZ hown (host := "") (Or.inl (hw _ (List.mem_of_getElem? (i := 65) rfl))) Via.refl e0 u2 (g := (mkF me_ 2 #[.val (.ref a), .val (.int (0 : Int32))] [(.ref a), (.int (0 : Int32))])) rfl rfl (hb hby d22_2)
  refine gv st368 ?_
  show G (T368.setTop (mkF me_ 5 #[.val (.ref a), .val (.int (0 : Int32))] [(.int (1 : Int32)), (.int (0 : Int32))]))
  obtain ⟨_, _, ⟨T369, L369, k369, n369⟩, -, X369, ⟨Lc369, hQ369, l369, y369, z369⟩, st369⟩ := Jvm.LawKit.callS X368 hx (y := (⟨"java/util/Objects", "checkIndex", "(II)I"⟩ : MethodName)) hown (mvT hZ (hw _ (List.mem_of_getElem? (i := 128) rfl))) (mvT hZ (hw _ (List.mem_of_getElem? (i := 129) rfl))) (mvT hZ (hw _ (List.mem_of_getElem? (i := 130) rfl))) (mvT hZ (hw _ (List.mem_of_getElem? (i := 131) rfl))) (by decide) (backOf (W := 0) (rm_oci1_0 l Z a0 hw []  h0 n0 O0 ) hZ (hw _ (List.mem_of_getElem? (i := 131) rfl)) (hw _ (List.mem_of_getElem? (i := 130) rfl)) (by decide) (by decide)) (g := (mkF me_ 5 #[.val (.ref a), .val (.int (0 : Int32))] [(.int (1 : Int32)), (.int (0 : Int32))])) rfl (by rw [hml]; rfl) (argsL := [(.int (0 : Int32)), (.int (1 : Int32))]) (rest := []) (lenOf pd_2 rfl) rfl (by show 2 * 0 + _ ≤ _; exact Nat.le_of_eq rfl) (hb hby d22_5) (fun _ _ => ⟨rfl, e368, (by decide : 0 + 0 ≤ _), (by decide : 0 + 0 ≤ _)⟩)
  dsimp only [Pt.U, Pt.locs, Pt.cells, Pt.slots] at X369 l369 y369 z369 st369 hQ369
  subst l369 y369 z369
  obtain ⟨rfl, Nq369, eq369⟩ := hQ369
  have N370 := Fr.app N0 Nq369
  refine gv st369 ?_
  show G (T369.setTop (mkF me_ 8 #[.val (.ref a), .val (.int (0 : Int32))] [(.int (0 : Int32))]))
  refine gv (fun tQ kQ => XS.pop X369.here hx rfl (hb hby d22_8) rfl rfl kQ) ?_
  show G (T369.setTop (mkF me_ 9 #[.val (.ref a), .val (.int (0 : Int32))] []))
  refine gv (fun tQ kQ => XS.aloadN X369.here hx rfl (hb hby d22_9) rfl rfl kQ) ?_
  show G (T369.setTop (mkF me_ 10 #[.val (.ref a), .val (.int (0 : Int32))] [(.ref a)]))
  refine gv (fun tQ kQ => XS.iloadN X369.here hx rfl (hb hby d22_10) rfl kQ) ?_
  show G (T369.setTop (mkF me_ 11 #[.val (.ref a), .val (.int (0 : Int32))] [(.int (0 : Int32)), (.ref a)]))
  obtain ⟨cq371, kq371, q371a, q371b, q371c⟩ := isOf hZ eq369 u0
  obtain ⟨_, _, ⟨T371, L371, k371, n371⟩, -, X371, ⟨Lc371, hQ371, l371, y371, z371⟩, st371⟩ := X369.virtualBack hx (y := (⟨"java/util/ArrayList", "elementData", "(I)Ljava/lang/Object;"⟩ : MethodName)) (z := (⟨"java/util/ArrayList", "elementData", "(I)Ljava/lang/Object;"⟩ : MethodName)) hown (mvT hZ (hw _ (List.mem_of_getElem? (i := 136) rfl))) (mvT hZ (hw _ (List.mem_of_getElem? (i := 137) rfl))) (notFace_of_selects (args := #[]) (mvT hZ (hw _ (List.mem_of_getElem? (i := 139) rfl)))) (mvT hZ (hw _ (List.mem_of_getElem? (i := 139) rfl))) (mvT hZ (hw _ (List.mem_of_getElem? (i := 138) rfl))) (by decide) (backOf (W := 0) (rm_ed1_0 l Z a0 hw [] a b k r0 h0 n0 O0 u1 u3) hZ (hw _ (List.mem_of_getElem? (i := 140) rfl)) (hw _ (List.mem_of_getElem? (i := 2) rfl)) (by decide) (by decide)) q371a q371c (g := (mkF me_ 11 #[.val (.ref a), .val (.int (0 : Int32))] [(.int (0 : Int32)), (.ref a)])) rfl (by rw [hml]; rfl) (Steps.refl _) (argsL := [(.int (0 : Int32))]) (rest := []) (lenOf pd_14 rfl) rfl (by show 2 * 0 + _ ≤ _; exact Nat.le_of_eq rfl) (hb hby d22_11) (fun _ _ => ⟨rfl, eq369, (by decide : 0 + 0 ≤ _), (by decide : 0 + 0 ≤ _)⟩)
  dsimp only [Pt.U, Pt.locs, Pt.cells, Pt.slots] at X371 l371 y371 z371 st371 hQ371
  subst l371 y371 z371
  obtain ⟨rfl, Nq371, eq371⟩ := hQ371
  have N372 := Fr.app N370 Nq371
  refine gv (fun tQ kQ => st371.trans kQ) ?_
  show G (T371.setTop (mkF me_ 14 #[.val (.ref a), .val (.int (0 : Int32))] [(.ref r0)]))
  refine gf _ (own_ret X371 Bd.notSynchronized (v := some (.ref r0)) (fun h => by rw [Bd.returns] at h; cases h) ?_ (by decide) (by decide) (fun fs hr => retOut X371 hx (t := (.object "java/lang/Object")) Bd.returns rfl (Or.inr (Or.inr (Or.inr (Or.inr ⟨rfl, rfl, rfl⟩)))) (hb hby d22_14) hr))
  show Q_get1_0 Z a b k r0 h0 n0 _ T371.heap _
  rw [eq371]
  exact ⟨rfl, N372, rfl⟩
def Q_pci2_0 (Z : State)  (h0 : Heap) (n0 : Nat) (v : Option Value) (h : Heap) (L : List Loc) : Prop := v = some (.int (0 : Int32)) ∧ Fr n0 L ∧ h = h0
set_option maxRecDepth 65536 in
set_option maxHeartbeats 40000000 in
theorem rm_pci2_0 (l : Launch) (Z : State) (a0 : Array Value) (hw : ∀ d ∈ tables_1, d.before a0 Z = true) (ws : List Jvm.Cond)  (h0 : Heap) (n0 : Nat) (O0 : Old Z n0 h0)  :
    MetFree l (⟨"jdk/internal/util/Preconditions", "checkIndex", "(IILjava/util/function/BiFunction;)I"⟩ : MethodName) (head1 (Jvm.Cond.code (⟨"jdk/internal/util/Preconditions", "checkIndex", "(IILjava/util/function/BiFunction;)I"⟩ : MethodName) jdk_41_method_11_code 3 (some .int) :: ws) ({ frames := 0, cells := 0, slots := 0, locals := 0 } : Room)) (fun aV U => aV = #[(.int (0 : Int32)), (.int (2 : Int32)), .null] ∧ Z.Warmed39 U.vm ∧ U.heap = h0) (fun _ _ _ _ _ => True) (fun _ U o U' => ∃ v L, o = .returned v ∧ Q_pci2_0 Z  h0 n0 v U'.heap L ∧ FrameEnd U o U' L ({ frames := 0, cells := 0, slots := 0, locals := 0 } : Room).cells ({ frames := 0, cells := 0, slots := 0, locals := 0 } : Room).slots) := by
  refine MetFree.of_bodySF (plainFor_of_name pn_9) hisR ?_
  intro pr_ en_ st_ me_ args below meth_ co_ s₁ Bd hml0 hP hK
  obtain ⟨rfl, hZ, hh⟩ := hP
  have hx := Bd.exec
  have hby := Bd.bytes
  have hml : co_.maxLocals = 3 := hml0
  have hown : st_.vm.findClass "jdk/internal/util/Preconditions" = some me_.cls := findClass_of_methodNamed Bd.named
  have hnm := (name_of_methodNamed Bd.named Bd.method).1
  have X0 : Stand pr_ l en_ ({ frames := 0, cells := 0, slots := 0, locals := 0 } : Room) st_ me_ #[(.int (0 : Int32)), (.int (2 : Int32)), .null] below meth_ co_ s₁ [] 0 0 := Stand.of_body Bd
  have e0 : s₁.heap = h0 := by rw [← hh, Bd.state]; rfl
  have N0 := Fr.nil n0
  have K0 := Keep.refl h0 []
  obtain ⟨G, gv, gf, gb⟩ := own_G pr_.tables en_ below st_ (Q_pci2_0 Z  h0 n0) ({ frames := 0, cells := 0, slots := 0, locals := 0 } : Room).cells ({ frames := 0, cells := 0, slots := 0, locals := 0 } : Room).slots
  show own_Fin pr_.tables en_ below st_ (Q_pci2_0 Z  h0 n0) ({ frames := 0, cells := 0, slots := 0, locals := 0 } : Room).cells ({ frames := 0, cells := 0, slots := 0, locals := 0 } : Room).slots (s₁.setTop (entryFrame me_ #[(.int (0 : Int32)), (.int (2 : Int32)), .null] 3))
  refine gb _ (gv (fun tQ kQ => castTop (ef_12 me_ (0 : Int32) (2 : Int32)) kQ) ?_)
  show G (s₁.setTop (mkF me_ 0 #[.val (.int (0 : Int32)), .val (.int (2 : Int32)), .val .null] []))
  refine gv (fun tQ kQ => XS.iloadN X0.here hx rfl (hb hby d24_0) rfl kQ) ?_
  show G (s₁.setTop (mkF me_ 1 #[.val (.int (0 : Int32)), .val (.int (2 : Int32)), .val .null] [(.int (0 : Int32))]))
  refine gv (fun tQ kQ => XS.ifNo X0.here hx rfl (hb hby d24_1) rfl ((if0 _ _).trans (flt (by decide : ¬ ((0 : Int32) < (0 : Int32)))).1) kQ) ?_
  show G (s₁.setTop (mkF me_ 4 #[.val (.int (0 : Int32)), .val (.int (2 : Int32)), .val .null] []))
  refine gv (fun tQ kQ => XS.iloadN X0.here hx rfl (hb hby d24_4) rfl kQ) ?_
  show G (s₁.setTop (mkF me_ 5 #[.val (.int (0 : Int32)), .val (.int (2 : Int32)), .val .null] [(.int (0 : Int32))]))
  refine gv (fun tQ kQ => XS.iloadN X0.here hx rfl (hb hby d24_5) rfl kQ) ?_
  show G (s₁.setTop (mkF me_ 6 #[.val (.int (0 : Int32)), .val (.int (2 : Int32)), .val .null] [(.int (2 : Int32)), (.int (0 : Int32))]))
  refine gv (fun tQ kQ => XS.icmpYes X0.here hx rfl (pc0 := 6) (pc' := 16) rfl (hb hby d24_6) rfl (tlt (by decide : (0 : Int32) < (2 : Int32))).1 (by decide) (by decide) kQ) ?_
  show G (s₁.setTop (mkF me_ 16 #[.val (.int (0 : Int32)), .val (.int (2 : Int32)), .val .null] []))
  refine gv (fun tQ kQ => XS.iloadN X0.here hx rfl (hb hby d24_16) rfl kQ) ?_
  show G (s₁.setTop (mkF me_ 17 #[.val (.int (0 : Int32)), .val (.int (2 : Int32)), .val .null] [(.int (0 : Int32))]))
  refine gf _ (own_ret X0 Bd.notSynchronized (v := some (.int (0 : Int32))) (fun h => by rw [Bd.returns] at h; cases h) ?_ (by decide) (by decide) (fun fs hr => retOut X0 hx (t := .int) Bd.returns rfl (Or.inl ⟨rfl, Or.inl rfl, _, rfl⟩) (hb hby d24_17) hr))
  show Q_pci2_0 Z  h0 n0 _ s₁.heap _
  rw [e0]
  exact ⟨rfl, N0, rfl⟩
def Q_oci2_0 (Z : State)  (h0 : Heap) (n0 : Nat) (v : Option Value) (h : Heap) (L : List Loc) : Prop := v = some (.int (0 : Int32)) ∧ Fr n0 L ∧ h = h0
set_option maxRecDepth 65536 in
set_option maxHeartbeats 40000000 in
theorem rm_oci2_0 (l : Launch) (Z : State) (a0 : Array Value) (hw : ∀ d ∈ tables_1, d.before a0 Z = true) (ws : List Jvm.Cond)  (h0 : Heap) (n0 : Nat) (O0 : Old Z n0 h0)  :
    MetFree l (⟨"java/util/Objects", "checkIndex", "(II)I"⟩ : MethodName) (head1 (Jvm.Cond.code (⟨"java/util/Objects", "checkIndex", "(II)I"⟩ : MethodName) jdk_31_method_17_code 2 (some .int) :: ws) ({ frames := 1, cells := 0, slots := 0, locals := 14 } : Room)) (fun aV U => aV = #[(.int (0 : Int32)), (.int (2 : Int32))] ∧ Z.Warmed39 U.vm ∧ U.heap = h0) (fun _ _ _ _ _ => True) (fun _ U o U' => ∃ v L, o = .returned v ∧ Q_oci2_0 Z  h0 n0 v U'.heap L ∧ FrameEnd U o U' L ({ frames := 1, cells := 0, slots := 0, locals := 14 } : Room).cells ({ frames := 1, cells := 0, slots := 0, locals := 14 } : Room).slots) := by
  refine MetFree.of_bodySF (plainFor_of_name pn_10) hisR ?_
  intro pr_ en_ st_ me_ args below meth_ co_ s₁ Bd hml0 hP hK
  obtain ⟨rfl, hZ, hh⟩ := hP
  have hx := Bd.exec
  have hby := Bd.bytes
  have hml : co_.maxLocals = 2 := hml0
  have hown : st_.vm.findClass "java/util/Objects" = some me_.cls := findClass_of_methodNamed Bd.named
  have hnm := (name_of_methodNamed Bd.named Bd.method).1
  have X0 : Stand pr_ l en_ ({ frames := 1, cells := 0, slots := 0, locals := 14 } : Room) st_ me_ #[(.int (0 : Int32)), (.int (2 : Int32))] below meth_ co_ s₁ [] 0 0 := Stand.of_body Bd
  have e0 : s₁.heap = h0 := by rw [← hh, Bd.state]; rfl
  have N0 := Fr.nil n0
  have K0 := Keep.refl h0 []
  obtain ⟨G, gv, gf, gb⟩ := own_G pr_.tables en_ below st_ (Q_oci2_0 Z  h0 n0) ({ frames := 1, cells := 0, slots := 0, locals := 14 } : Room).cells ({ frames := 1, cells := 0, slots := 0, locals := 14 } : Room).slots
  show own_Fin pr_.tables en_ below st_ (Q_oci2_0 Z  h0 n0) ({ frames := 1, cells := 0, slots := 0, locals := 14 } : Room).cells ({ frames := 1, cells := 0, slots := 0, locals := 14 } : Room).slots (s₁.setTop (entryFrame me_ #[(.int (0 : Int32)), (.int (2 : Int32))] 2))
  refine gb _ (gv (fun tQ kQ => castTop (ef_3 me_ (0 : Int32) (2 : Int32)) kQ) ?_)
  show G (s₁.setTop (mkF me_ 0 #[.val (.int (0 : Int32)), .val (.int (2 : Int32))] []))
  refine gv (fun tQ kQ => XS.iloadN X0.here hx rfl (hb hby d23_0) rfl kQ) ?_
  show G (s₁.setTop (mkF me_ 1 #[.val (.int (0 : Int32)), .val (.int (2 : Int32))] [(.int (0 : Int32))]))
  refine gv (fun tQ kQ => XS.iloadN X0.here hx rfl (hb hby d23_1) rfl kQ) ?_
  show G (s₁.setTop (mkF me_ 2 #[.val (.int (0 : Int32)), .val (.int (2 : Int32))] [(.int (2 : Int32)), (.int (0 : Int32))]))
  refine gv (fun tQ kQ => XS.aconstNull X0.here hx rfl (hb hby d23_2) kQ) ?_
  show G (s₁.setTop (mkF me_ 3 #[.val (.int (0 : Int32)), .val (.int (2 : Int32))] [.null, (.int (2 : Int32)), (.int (0 : Int32))]))
  obtain ⟨_, _, ⟨T373, L373, k373, n373⟩, -, X373, ⟨Lc373, hQ373, l373, y373, z373⟩, st373⟩ := Jvm.LawKit.callS X0 hx (y := (⟨"jdk/internal/util/Preconditions", "checkIndex", "(IILjava/util/function/BiFunction;)I"⟩ : MethodName)) hown (mvT hZ (hw _ (List.mem_of_getElem? (i := 132) rfl))) (mvT hZ (hw _ (List.mem_of_getElem? (i := 133) rfl))) (mvT hZ (hw _ (List.mem_of_getElem? (i := 134) rfl))) (mvT hZ (hw _ (List.mem_of_getElem? (i := 135) rfl))) (by decide) (backOf (W := 0) (rm_pci2_0 l Z a0 hw []  h0 n0 O0 ) hZ (hw _ (List.mem_of_getElem? (i := 135) rfl)) (hw _ (List.mem_of_getElem? (i := 134) rfl)) (by decide) (by decide)) (g := (mkF me_ 3 #[.val (.int (0 : Int32)), .val (.int (2 : Int32))] [.null, (.int (2 : Int32)), (.int (0 : Int32))])) rfl (by rw [hml]; rfl) (argsL := [(.int (0 : Int32)), (.int (2 : Int32)), .null]) (rest := []) (lenOf pd_13 rfl) rfl (by show 2 * 0 + _ ≤ _; exact Nat.le_of_eq rfl) (hb hby d23_3) (fun _ _ => ⟨rfl, e0, (by decide : 0 + 0 ≤ _), (by decide : 0 + 0 ≤ _)⟩)
  dsimp only [Pt.U, Pt.locs, Pt.cells, Pt.slots] at X373 l373 y373 z373 st373 hQ373
  subst l373 y373 z373
  obtain ⟨rfl, Nq373, eq373⟩ := hQ373
  have N374 := Fr.app N0 Nq373
  refine gv st373 ?_
  show G (T373.setTop (mkF me_ 6 #[.val (.int (0 : Int32)), .val (.int (2 : Int32))] [(.int (0 : Int32))]))
  refine gf _ (own_ret X373 Bd.notSynchronized (v := some (.int (0 : Int32))) (fun h => by rw [Bd.returns] at h; cases h) ?_ (by decide) (by decide) (fun fs hr => retOut X373 hx (t := .int) Bd.returns rfl (Or.inl ⟨rfl, Or.inl rfl, _, rfl⟩) (hb hby d23_6) hr))
  show Q_oci2_0 Z  h0 n0 _ T373.heap _
  rw [eq373]
  exact ⟨rfl, N374, rfl⟩
def Q_ed2_0 (Z : State) (a : Addr) (b : Addr) (k : ClassId) (r0 : Addr) (r1 : Addr) (h0 : Heap) (n0 : Nat) (v : Option Value) (h : Heap) (L : List Loc) : Prop := v = some (.ref r0) ∧ Fr n0 L ∧ h = h0
set_option maxRecDepth 65536 in
set_option maxHeartbeats 40000000 in
theorem rm_ed2_0 (l : Launch) (Z : State) (a0 : Array Value) (hw : ∀ d ∈ tables_1, d.before a0 Z = true) (ws : List Jvm.Cond) (a : Addr) (b : Addr) (k : ClassId) (r0 : Addr) (r1 : Addr) (h0 : Heap) (n0 : Nat) (O0 : Old Z n0 h0) (u0 : Fld Z h0 a "java/util/ArrayList" "elementData" "[Ljava/lang/Object;" (.ref b)) (u1 : Arv Z h0 b k (.object "java/lang/Object") (10 : Int32) [(.ref r0), (.ref r1), .null, .null, .null, .null, .null, .null, .null, .null] .null) :
    MetFree l (⟨"java/util/ArrayList", "elementData", "(I)Ljava/lang/Object;"⟩ : MethodName) (head1 (Jvm.Cond.code (⟨"java/util/ArrayList", "elementData", "(I)Ljava/lang/Object;"⟩ : MethodName) jdk_38_method_18_code 2 (some (.object "java/lang/Object")) :: ws) ({ frames := 0, cells := 0, slots := 0, locals := 0 } : Room)) (fun aV U => aV = #[(.ref a), (.int (0 : Int32))] ∧ Z.Warmed39 U.vm ∧ U.heap = h0) (fun _ _ _ _ _ => True) (fun _ U o U' => ∃ v L, o = .returned v ∧ Q_ed2_0 Z a b k r0 r1 h0 n0 v U'.heap L ∧ FrameEnd U o U' L ({ frames := 0, cells := 0, slots := 0, locals := 0 } : Room).cells ({ frames := 0, cells := 0, slots := 0, locals := 0 } : Room).slots) := by
  refine MetFree.of_bodySF (plainFor_of_name pn_4) hisR ?_
  intro pr_ en_ st_ me_ args below meth_ co_ s₁ Bd hml0 hP hK
  obtain ⟨rfl, hZ, hh⟩ := hP
  have hx := Bd.exec
  have hby := Bd.bytes
  have hml : co_.maxLocals = 2 := hml0
  have hown : st_.vm.findClass "java/util/ArrayList" = some me_.cls := findClass_of_methodNamed Bd.named
  have hnm := (name_of_methodNamed Bd.named Bd.method).1
  have X0 : Stand pr_ l en_ ({ frames := 0, cells := 0, slots := 0, locals := 0 } : Room) st_ me_ #[(.ref a), (.int (0 : Int32))] below meth_ co_ s₁ [] 0 0 := Stand.of_body Bd
  have e0 : s₁.heap = h0 := by rw [← hh, Bd.state]; rfl
  have N0 := Fr.nil n0
  have K0 := Keep.refl h0 []
  obtain ⟨G, gv, gf, gb⟩ := own_G pr_.tables en_ below st_ (Q_ed2_0 Z a b k r0 r1 h0 n0) ({ frames := 0, cells := 0, slots := 0, locals := 0 } : Room).cells ({ frames := 0, cells := 0, slots := 0, locals := 0 } : Room).slots
  show own_Fin pr_.tables en_ below st_ (Q_ed2_0 Z a b k r0 r1 h0 n0) ({ frames := 0, cells := 0, slots := 0, locals := 0 } : Room).cells ({ frames := 0, cells := 0, slots := 0, locals := 0 } : Room).slots (s₁.setTop (entryFrame me_ #[(.ref a), (.int (0 : Int32))] 2))
  refine gb _ (gv (fun tQ kQ => castTop (ef_1 me_ a (0 : Int32)) kQ) ?_)
  show G (s₁.setTop (mkF me_ 0 #[.val (.ref a), .val (.int (0 : Int32))] []))
  refine gv (fun tQ kQ => XS.aloadN X0.here hx rfl (hb hby d25_0) rfl rfl kQ) ?_
  show G (s₁.setTop (mkF me_ 1 #[.val (.ref a), .val (.int (0 : Int32))] [(.ref a)]))
  obtain ⟨T375, X375, e375, st375⟩ := getF X0 hx hZ hown (host := "") (Or.inl (hw _ (List.mem_of_getElem? (i := 24) rfl))) Via.refl e0 u0 (g := (mkF me_ 1 #[.val (.ref a), .val (.int (0 : Int32))] [(.ref a)])) rfl rfl (hb hby d25_1)
  refine gv st375 ?_
  show G (T375.setTop (mkF me_ 4 #[.val (.ref a), .val (.int (0 : Int32))] [(.ref b)]))
  refine gv (fun tQ kQ => XS.iloadN X375.here hx rfl (hb hby d25_4) rfl kQ) ?_
  show G (T375.setTop (mkF me_ 5 #[.val (.ref a), .val (.int (0 : Int32))] [(.int (0 : Int32)), (.ref b)]))
  obtain ⟨cl376, Ar376, q376, S376, n376, H376, G376⟩ := (id u1)
  have in376 : ¬ ((0 : Int32) < 0 ∨ cl376.slots.size ≤ ((0 : Int32)).toNatClampNeg) := inb_of S376 ⟨by decide, by decide⟩
  refine gv (X375.aaload hx (j := (0 : Int32)) (v := (.ref r0)) (by rw [e375]; exact Ar376.1) (State.isArrayOf_alike hZ.alike Ar376.2.1) rfl Ar376.2.2 in376 (Has.at H376 in376 rfl) (g := (mkF me_ 5 #[.val (.ref a), .val (.int (0 : Int32))] [(.int (0 : Int32)), (.ref b)])) rfl rfl (hb hby d25_5)) ?_
  show G (T375.setTop (mkF me_ 6 #[.val (.ref a), .val (.int (0 : Int32))] [(.ref r0)]))
  refine gf _ (own_ret X375 Bd.notSynchronized (v := some (.ref r0)) (fun h => by rw [Bd.returns] at h; cases h) ?_ (by decide) (by decide) (fun fs hr => retOut X375 hx (t := (.object "java/lang/Object")) Bd.returns rfl (Or.inr (Or.inr (Or.inr (Or.inr ⟨rfl, rfl, rfl⟩)))) (hb hby d25_6) hr))
  show Q_ed2_0 Z a b k r0 r1 h0 n0 _ T375.heap _
  rw [e375]
  exact ⟨rfl, N0, rfl⟩
def Q_get2_0 (Z : State) (a : Addr) (b : Addr) (k : ClassId) (r0 : Addr) (r1 : Addr) (h0 : Heap) (n0 : Nat) (v : Option Value) (h : Heap) (L : List Loc) : Prop := v = some (.ref r0) ∧ Fr n0 L ∧ h = h0
set_option maxRecDepth 65536 in
set_option maxHeartbeats 40000000 in
theorem rm_get2_0 (l : Launch) (Z : State) (a0 : Array Value) (hw : ∀ d ∈ tables_1, d.before a0 Z = true) (ws : List Jvm.Cond) (a : Addr) (b : Addr) (k : ClassId) (r0 : Addr) (r1 : Addr) (h0 : Heap) (n0 : Nat) (O0 : Old Z n0 h0) (u0 : Exa Z h0 a "java/util/ArrayList") (u1 : Fld Z h0 a "java/util/ArrayList" "elementData" "[Ljava/lang/Object;" (.ref b)) (u2 : Fld Z h0 a "java/util/ArrayList" "size" "I" (.int (2 : Int32))) (u3 : Arv Z h0 b k (.object "java/lang/Object") (10 : Int32) [(.ref r0), (.ref r1), .null, .null, .null, .null, .null, .null, .null, .null] .null) :
    MetFree l (⟨"java/util/ArrayList", "get", "(I)Ljava/lang/Object;"⟩ : MethodName) (head1 (Jvm.Cond.code (⟨"java/util/ArrayList", "get", "(I)Ljava/lang/Object;"⟩ : MethodName) jdk_38_method_20_code 2 (some (.object "java/lang/Object")) :: ws) ({ frames := 2, cells := 0, slots := 0, locals := 27 } : Room)) (fun aV U => aV = #[(.ref a), (.int (0 : Int32))] ∧ Z.Warmed39 U.vm ∧ U.heap = h0) (fun _ _ _ _ _ => True) (fun _ U o U' => ∃ v L, o = .returned v ∧ Q_get2_0 Z a b k r0 r1 h0 n0 v U'.heap L ∧ FrameEnd U o U' L ({ frames := 2, cells := 0, slots := 0, locals := 27 } : Room).cells ({ frames := 2, cells := 0, slots := 0, locals := 27 } : Room).slots) := by
  refine MetFree.of_bodySF (plainFor_of_name pn_4) hisR ?_
  intro pr_ en_ st_ me_ args below meth_ co_ s₁ Bd hml0 hP hK
  obtain ⟨rfl, hZ, hh⟩ := hP
  have hx := Bd.exec
  have hby := Bd.bytes
  have hml : co_.maxLocals = 2 := hml0
  have hown : st_.vm.findClass "java/util/ArrayList" = some me_.cls := findClass_of_methodNamed Bd.named
  have hnm := (name_of_methodNamed Bd.named Bd.method).1
  have X0 : Stand pr_ l en_ ({ frames := 2, cells := 0, slots := 0, locals := 27 } : Room) st_ me_ #[(.ref a), (.int (0 : Int32))] below meth_ co_ s₁ [] 0 0 := Stand.of_body Bd
  have e0 : s₁.heap = h0 := by rw [← hh, Bd.state]; rfl
  have N0 := Fr.nil n0
  have K0 := Keep.refl h0 []
  obtain ⟨G, gv, gf, gb⟩ := own_G pr_.tables en_ below st_ (Q_get2_0 Z a b k r0 r1 h0 n0) ({ frames := 2, cells := 0, slots := 0, locals := 27 } : Room).cells ({ frames := 2, cells := 0, slots := 0, locals := 27 } : Room).slots
  show own_Fin pr_.tables en_ below st_ (Q_get2_0 Z a b k r0 r1 h0 n0) ({ frames := 2, cells := 0, slots := 0, locals := 27 } : Room).cells ({ frames := 2, cells := 0, slots := 0, locals := 27 } : Room).slots (s₁.setTop (entryFrame me_ #[(.ref a), (.int (0 : Int32))] 2))
  refine gb _ (gv (fun tQ kQ => castTop (ef_1 me_ a (0 : Int32)) kQ) ?_)
  show G (s₁.setTop (mkF me_ 0 #[.val (.ref a), .val (.int (0 : Int32))] []))
  refine gv (fun tQ kQ => XS.iloadN X0.here hx rfl (hb hby d22_0) rfl kQ) ?_
  show G (s₁.setTop (mkF me_ 1 #[.val (.ref a), .val (.int (0 : Int32))] [(.int (0 : Int32))]))
  refine gv (fun tQ kQ => XS.aloadN X0.here hx rfl (hb hby d22_1) rfl rfl kQ) ?_
  show G (s₁.setTop (mkF me_ 2 #[.val (.ref a), .val (.int (0 : Int32))] [(.ref a), (.int (0 : Int32))]))
  obtain ⟨T377, X377, e377, st377⟩ := getF X0 hx hZ hown (host := "") (Or.inl (hw _ (List.mem_of_getElem? (i := 65) rfl))) Via.refl e0 u2 (g := (mkF me_ 2 #[.val (.ref a), .val (.int (0 : Int32))] [(.ref a), (.int (0 : Int32))])) rfl rfl (hb hby d22_2)
  refine gv st377 ?_
  show G (T377.setTop (mkF me_ 5 #[.val (.ref a), .val (.int (0 : Int32))] [(.int (2 : Int32)), (.int (0 : Int32))]))
  obtain ⟨_, _, ⟨T378, L378, k378, n378⟩, -, X378, ⟨Lc378, hQ378, l378, y378, z378⟩, st378⟩ := Jvm.LawKit.callS X377 hx (y := (⟨"java/util/Objects", "checkIndex", "(II)I"⟩ : MethodName)) hown (mvT hZ (hw _ (List.mem_of_getElem? (i := 128) rfl))) (mvT hZ (hw _ (List.mem_of_getElem? (i := 129) rfl))) (mvT hZ (hw _ (List.mem_of_getElem? (i := 130) rfl))) (mvT hZ (hw _ (List.mem_of_getElem? (i := 131) rfl))) (by decide) (backOf (W := 0) (rm_oci2_0 l Z a0 hw []  h0 n0 O0 ) hZ (hw _ (List.mem_of_getElem? (i := 131) rfl)) (hw _ (List.mem_of_getElem? (i := 130) rfl)) (by decide) (by decide)) (g := (mkF me_ 5 #[.val (.ref a), .val (.int (0 : Int32))] [(.int (2 : Int32)), (.int (0 : Int32))])) rfl (by rw [hml]; rfl) (argsL := [(.int (0 : Int32)), (.int (2 : Int32))]) (rest := []) (lenOf pd_2 rfl) rfl (by show 2 * 0 + _ ≤ _; exact Nat.le_of_eq rfl) (hb hby d22_5) (fun _ _ => ⟨rfl, e377, (by decide : 0 + 0 ≤ _), (by decide : 0 + 0 ≤ _)⟩)
  dsimp only [Pt.U, Pt.locs, Pt.cells, Pt.slots] at X378 l378 y378 z378 st378 hQ378
  subst l378 y378 z378
  obtain ⟨rfl, Nq378, eq378⟩ := hQ378
  have N379 := Fr.app N0 Nq378
  refine gv st378 ?_
  show G (T378.setTop (mkF me_ 8 #[.val (.ref a), .val (.int (0 : Int32))] [(.int (0 : Int32))]))
  refine gv (fun tQ kQ => XS.pop X378.here hx rfl (hb hby d22_8) rfl rfl kQ) ?_
  show G (T378.setTop (mkF me_ 9 #[.val (.ref a), .val (.int (0 : Int32))] []))
  refine gv (fun tQ kQ => XS.aloadN X378.here hx rfl (hb hby d22_9) rfl rfl kQ) ?_
  show G (T378.setTop (mkF me_ 10 #[.val (.ref a), .val (.int (0 : Int32))] [(.ref a)]))
  refine gv (fun tQ kQ => XS.iloadN X378.here hx rfl (hb hby d22_10) rfl kQ) ?_
  show G (T378.setTop (mkF me_ 11 #[.val (.ref a), .val (.int (0 : Int32))] [(.int (0 : Int32)), (.ref a)]))
  obtain ⟨cq380, kq380, q380a, q380b, q380c⟩ := isOf hZ eq378 u0
  obtain ⟨_, _, ⟨T380, L380, k380, n380⟩, -, X380, ⟨Lc380, hQ380, l380, y380, z380⟩, st380⟩ := X378.virtualBack hx (y := (⟨"java/util/ArrayList", "elementData", "(I)Ljava/lang/Object;"⟩ : MethodName)) (z := (⟨"java/util/ArrayList", "elementData", "(I)Ljava/lang/Object;"⟩ : MethodName)) hown (mvT hZ (hw _ (List.mem_of_getElem? (i := 136) rfl))) (mvT hZ (hw _ (List.mem_of_getElem? (i := 137) rfl))) (notFace_of_selects (args := #[]) (mvT hZ (hw _ (List.mem_of_getElem? (i := 139) rfl)))) (mvT hZ (hw _ (List.mem_of_getElem? (i := 139) rfl))) (mvT hZ (hw _ (List.mem_of_getElem? (i := 138) rfl))) (by decide) (backOf (W := 0) (rm_ed2_0 l Z a0 hw [] a b k r0 r1 h0 n0 O0 u1 u3) hZ (hw _ (List.mem_of_getElem? (i := 140) rfl)) (hw _ (List.mem_of_getElem? (i := 2) rfl)) (by decide) (by decide)) q380a q380c (g := (mkF me_ 11 #[.val (.ref a), .val (.int (0 : Int32))] [(.int (0 : Int32)), (.ref a)])) rfl (by rw [hml]; rfl) (Steps.refl _) (argsL := [(.int (0 : Int32))]) (rest := []) (lenOf pd_14 rfl) rfl (by show 2 * 0 + _ ≤ _; exact Nat.le_of_eq rfl) (hb hby d22_11) (fun _ _ => ⟨rfl, eq378, (by decide : 0 + 0 ≤ _), (by decide : 0 + 0 ≤ _)⟩)
  dsimp only [Pt.U, Pt.locs, Pt.cells, Pt.slots] at X380 l380 y380 z380 st380 hQ380
  subst l380 y380 z380
  obtain ⟨rfl, Nq380, eq380⟩ := hQ380
  have N381 := Fr.app N379 Nq380
  refine gv (fun tQ kQ => st380.trans kQ) ?_
  show G (T380.setTop (mkF me_ 14 #[.val (.ref a), .val (.int (0 : Int32))] [(.ref r0)]))
  refine gf _ (own_ret X380 Bd.notSynchronized (v := some (.ref r0)) (fun h => by rw [Bd.returns] at h; cases h) ?_ (by decide) (by decide) (fun fs hr => retOut X380 hx (t := (.object "java/lang/Object")) Bd.returns rfl (Or.inr (Or.inr (Or.inr (Or.inr ⟨rfl, rfl, rfl⟩)))) (hb hby d22_14) hr))
  show Q_get2_0 Z a b k r0 r1 h0 n0 _ T380.heap _
  rw [eq380]
  exact ⟨rfl, N381, rfl⟩
def Q_pci2_1 (Z : State)  (h0 : Heap) (n0 : Nat) (v : Option Value) (h : Heap) (L : List Loc) : Prop := v = some (.int (1 : Int32)) ∧ Fr n0 L ∧ h = h0
set_option maxRecDepth 65536 in
set_option maxHeartbeats 40000000 in
theorem rm_pci2_1 (l : Launch) (Z : State) (a0 : Array Value) (hw : ∀ d ∈ tables_1, d.before a0 Z = true) (ws : List Jvm.Cond)  (h0 : Heap) (n0 : Nat) (O0 : Old Z n0 h0)  :
    MetFree l (⟨"jdk/internal/util/Preconditions", "checkIndex", "(IILjava/util/function/BiFunction;)I"⟩ : MethodName) (head1 (Jvm.Cond.code (⟨"jdk/internal/util/Preconditions", "checkIndex", "(IILjava/util/function/BiFunction;)I"⟩ : MethodName) jdk_41_method_11_code 3 (some .int) :: ws) ({ frames := 0, cells := 0, slots := 0, locals := 0 } : Room)) (fun aV U => aV = #[(.int (1 : Int32)), (.int (2 : Int32)), .null] ∧ Z.Warmed39 U.vm ∧ U.heap = h0) (fun _ _ _ _ _ => True) (fun _ U o U' => ∃ v L, o = .returned v ∧ Q_pci2_1 Z  h0 n0 v U'.heap L ∧ FrameEnd U o U' L ({ frames := 0, cells := 0, slots := 0, locals := 0 } : Room).cells ({ frames := 0, cells := 0, slots := 0, locals := 0 } : Room).slots) := by
  refine MetFree.of_bodySF (plainFor_of_name pn_9) hisR ?_
  intro pr_ en_ st_ me_ args below meth_ co_ s₁ Bd hml0 hP hK
  obtain ⟨rfl, hZ, hh⟩ := hP
  have hx := Bd.exec
  have hby := Bd.bytes
  have hml : co_.maxLocals = 3 := hml0
  have hown : st_.vm.findClass "jdk/internal/util/Preconditions" = some me_.cls := findClass_of_methodNamed Bd.named
  have hnm := (name_of_methodNamed Bd.named Bd.method).1
  have X0 : Stand pr_ l en_ ({ frames := 0, cells := 0, slots := 0, locals := 0 } : Room) st_ me_ #[(.int (1 : Int32)), (.int (2 : Int32)), .null] below meth_ co_ s₁ [] 0 0 := Stand.of_body Bd
  have e0 : s₁.heap = h0 := by rw [← hh, Bd.state]; rfl
  have N0 := Fr.nil n0
  have K0 := Keep.refl h0 []
  obtain ⟨G, gv, gf, gb⟩ := own_G pr_.tables en_ below st_ (Q_pci2_1 Z  h0 n0) ({ frames := 0, cells := 0, slots := 0, locals := 0 } : Room).cells ({ frames := 0, cells := 0, slots := 0, locals := 0 } : Room).slots
  show own_Fin pr_.tables en_ below st_ (Q_pci2_1 Z  h0 n0) ({ frames := 0, cells := 0, slots := 0, locals := 0 } : Room).cells ({ frames := 0, cells := 0, slots := 0, locals := 0 } : Room).slots (s₁.setTop (entryFrame me_ #[(.int (1 : Int32)), (.int (2 : Int32)), .null] 3))
  refine gb _ (gv (fun tQ kQ => castTop (ef_12 me_ (1 : Int32) (2 : Int32)) kQ) ?_)
  show G (s₁.setTop (mkF me_ 0 #[.val (.int (1 : Int32)), .val (.int (2 : Int32)), .val .null] []))
  refine gv (fun tQ kQ => XS.iloadN X0.here hx rfl (hb hby d24_0) rfl kQ) ?_
  show G (s₁.setTop (mkF me_ 1 #[.val (.int (1 : Int32)), .val (.int (2 : Int32)), .val .null] [(.int (1 : Int32))]))
  refine gv (fun tQ kQ => XS.ifNo X0.here hx rfl (hb hby d24_1) rfl ((if0 _ _).trans (flt (by decide : ¬ ((1 : Int32) < (0 : Int32)))).1) kQ) ?_
  show G (s₁.setTop (mkF me_ 4 #[.val (.int (1 : Int32)), .val (.int (2 : Int32)), .val .null] []))
  refine gv (fun tQ kQ => XS.iloadN X0.here hx rfl (hb hby d24_4) rfl kQ) ?_
  show G (s₁.setTop (mkF me_ 5 #[.val (.int (1 : Int32)), .val (.int (2 : Int32)), .val .null] [(.int (1 : Int32))]))
  refine gv (fun tQ kQ => XS.iloadN X0.here hx rfl (hb hby d24_5) rfl kQ) ?_
  show G (s₁.setTop (mkF me_ 6 #[.val (.int (1 : Int32)), .val (.int (2 : Int32)), .val .null] [(.int (2 : Int32)), (.int (1 : Int32))]))
  refine gv (fun tQ kQ => XS.icmpYes X0.here hx rfl (pc0 := 6) (pc' := 16) rfl (hb hby d24_6) rfl (tlt (by decide : (1 : Int32) < (2 : Int32))).1 (by decide) (by decide) kQ) ?_
  show G (s₁.setTop (mkF me_ 16 #[.val (.int (1 : Int32)), .val (.int (2 : Int32)), .val .null] []))
  refine gv (fun tQ kQ => XS.iloadN X0.here hx rfl (hb hby d24_16) rfl kQ) ?_
  show G (s₁.setTop (mkF me_ 17 #[.val (.int (1 : Int32)), .val (.int (2 : Int32)), .val .null] [(.int (1 : Int32))]))
  refine gf _ (own_ret X0 Bd.notSynchronized (v := some (.int (1 : Int32))) (fun h => by rw [Bd.returns] at h; cases h) ?_ (by decide) (by decide) (fun fs hr => retOut X0 hx (t := .int) Bd.returns rfl (Or.inl ⟨rfl, Or.inl rfl, _, rfl⟩) (hb hby d24_17) hr))
  show Q_pci2_1 Z  h0 n0 _ s₁.heap _
  rw [e0]
  exact ⟨rfl, N0, rfl⟩
def Q_oci2_1 (Z : State)  (h0 : Heap) (n0 : Nat) (v : Option Value) (h : Heap) (L : List Loc) : Prop := v = some (.int (1 : Int32)) ∧ Fr n0 L ∧ h = h0
set_option maxRecDepth 65536 in
set_option maxHeartbeats 40000000 in
theorem rm_oci2_1 (l : Launch) (Z : State) (a0 : Array Value) (hw : ∀ d ∈ tables_1, d.before a0 Z = true) (ws : List Jvm.Cond)  (h0 : Heap) (n0 : Nat) (O0 : Old Z n0 h0)  :
    MetFree l (⟨"java/util/Objects", "checkIndex", "(II)I"⟩ : MethodName) (head1 (Jvm.Cond.code (⟨"java/util/Objects", "checkIndex", "(II)I"⟩ : MethodName) jdk_31_method_17_code 2 (some .int) :: ws) ({ frames := 1, cells := 0, slots := 0, locals := 14 } : Room)) (fun aV U => aV = #[(.int (1 : Int32)), (.int (2 : Int32))] ∧ Z.Warmed39 U.vm ∧ U.heap = h0) (fun _ _ _ _ _ => True) (fun _ U o U' => ∃ v L, o = .returned v ∧ Q_oci2_1 Z  h0 n0 v U'.heap L ∧ FrameEnd U o U' L ({ frames := 1, cells := 0, slots := 0, locals := 14 } : Room).cells ({ frames := 1, cells := 0, slots := 0, locals := 14 } : Room).slots) := by
  refine MetFree.of_bodySF (plainFor_of_name pn_10) hisR ?_
  intro pr_ en_ st_ me_ args below meth_ co_ s₁ Bd hml0 hP hK
  obtain ⟨rfl, hZ, hh⟩ := hP
  have hx := Bd.exec
  have hby := Bd.bytes
  have hml : co_.maxLocals = 2 := hml0
  have hown : st_.vm.findClass "java/util/Objects" = some me_.cls := findClass_of_methodNamed Bd.named
  have hnm := (name_of_methodNamed Bd.named Bd.method).1
  have X0 : Stand pr_ l en_ ({ frames := 1, cells := 0, slots := 0, locals := 14 } : Room) st_ me_ #[(.int (1 : Int32)), (.int (2 : Int32))] below meth_ co_ s₁ [] 0 0 := Stand.of_body Bd
  have e0 : s₁.heap = h0 := by rw [← hh, Bd.state]; rfl
  have N0 := Fr.nil n0
  have K0 := Keep.refl h0 []
  obtain ⟨G, gv, gf, gb⟩ := own_G pr_.tables en_ below st_ (Q_oci2_1 Z  h0 n0) ({ frames := 1, cells := 0, slots := 0, locals := 14 } : Room).cells ({ frames := 1, cells := 0, slots := 0, locals := 14 } : Room).slots
  show own_Fin pr_.tables en_ below st_ (Q_oci2_1 Z  h0 n0) ({ frames := 1, cells := 0, slots := 0, locals := 14 } : Room).cells ({ frames := 1, cells := 0, slots := 0, locals := 14 } : Room).slots (s₁.setTop (entryFrame me_ #[(.int (1 : Int32)), (.int (2 : Int32))] 2))
  refine gb _ (gv (fun tQ kQ => castTop (ef_3 me_ (1 : Int32) (2 : Int32)) kQ) ?_)
  show G (s₁.setTop (mkF me_ 0 #[.val (.int (1 : Int32)), .val (.int (2 : Int32))] []))
  refine gv (fun tQ kQ => XS.iloadN X0.here hx rfl (hb hby d23_0) rfl kQ) ?_
  show G (s₁.setTop (mkF me_ 1 #[.val (.int (1 : Int32)), .val (.int (2 : Int32))] [(.int (1 : Int32))]))
  refine gv (fun tQ kQ => XS.iloadN X0.here hx rfl (hb hby d23_1) rfl kQ) ?_
  show G (s₁.setTop (mkF me_ 2 #[.val (.int (1 : Int32)), .val (.int (2 : Int32))] [(.int (2 : Int32)), (.int (1 : Int32))]))
  refine gv (fun tQ kQ => XS.aconstNull X0.here hx rfl (hb hby d23_2) kQ) ?_
  show G (s₁.setTop (mkF me_ 3 #[.val (.int (1 : Int32)), .val (.int (2 : Int32))] [.null, (.int (2 : Int32)), (.int (1 : Int32))]))
  obtain ⟨_, _, ⟨T382, L382, k382, n382⟩, -, X382, ⟨Lc382, hQ382, l382, y382, z382⟩, st382⟩ := Jvm.LawKit.callS X0 hx (y := (⟨"jdk/internal/util/Preconditions", "checkIndex", "(IILjava/util/function/BiFunction;)I"⟩ : MethodName)) hown (mvT hZ (hw _ (List.mem_of_getElem? (i := 132) rfl))) (mvT hZ (hw _ (List.mem_of_getElem? (i := 133) rfl))) (mvT hZ (hw _ (List.mem_of_getElem? (i := 134) rfl))) (mvT hZ (hw _ (List.mem_of_getElem? (i := 135) rfl))) (by decide) (backOf (W := 0) (rm_pci2_1 l Z a0 hw []  h0 n0 O0 ) hZ (hw _ (List.mem_of_getElem? (i := 135) rfl)) (hw _ (List.mem_of_getElem? (i := 134) rfl)) (by decide) (by decide)) (g := (mkF me_ 3 #[.val (.int (1 : Int32)), .val (.int (2 : Int32))] [.null, (.int (2 : Int32)), (.int (1 : Int32))])) rfl (by rw [hml]; rfl) (argsL := [(.int (1 : Int32)), (.int (2 : Int32)), .null]) (rest := []) (lenOf pd_13 rfl) rfl (by show 2 * 0 + _ ≤ _; exact Nat.le_of_eq rfl) (hb hby d23_3) (fun _ _ => ⟨rfl, e0, (by decide : 0 + 0 ≤ _), (by decide : 0 + 0 ≤ _)⟩)
  dsimp only [Pt.U, Pt.locs, Pt.cells, Pt.slots] at X382 l382 y382 z382 st382 hQ382
  subst l382 y382 z382
  obtain ⟨rfl, Nq382, eq382⟩ := hQ382
  have N383 := Fr.app N0 Nq382
  refine gv st382 ?_
  show G (T382.setTop (mkF me_ 6 #[.val (.int (1 : Int32)), .val (.int (2 : Int32))] [(.int (1 : Int32))]))
  refine gf _ (own_ret X382 Bd.notSynchronized (v := some (.int (1 : Int32))) (fun h => by rw [Bd.returns] at h; cases h) ?_ (by decide) (by decide) (fun fs hr => retOut X382 hx (t := .int) Bd.returns rfl (Or.inl ⟨rfl, Or.inl rfl, _, rfl⟩) (hb hby d23_6) hr))
  show Q_oci2_1 Z  h0 n0 _ T382.heap _
  rw [eq382]
  exact ⟨rfl, N383, rfl⟩
def Q_ed2_1 (Z : State) (a : Addr) (b : Addr) (k : ClassId) (r0 : Addr) (r1 : Addr) (h0 : Heap) (n0 : Nat) (v : Option Value) (h : Heap) (L : List Loc) : Prop := v = some (.ref r1) ∧ Fr n0 L ∧ h = h0
set_option maxRecDepth 65536 in
set_option maxHeartbeats 40000000 in
theorem rm_ed2_1 (l : Launch) (Z : State) (a0 : Array Value) (hw : ∀ d ∈ tables_1, d.before a0 Z = true) (ws : List Jvm.Cond) (a : Addr) (b : Addr) (k : ClassId) (r0 : Addr) (r1 : Addr) (h0 : Heap) (n0 : Nat) (O0 : Old Z n0 h0) (u0 : Fld Z h0 a "java/util/ArrayList" "elementData" "[Ljava/lang/Object;" (.ref b)) (u1 : Arv Z h0 b k (.object "java/lang/Object") (10 : Int32) [(.ref r0), (.ref r1), .null, .null, .null, .null, .null, .null, .null, .null] .null) :
    MetFree l (⟨"java/util/ArrayList", "elementData", "(I)Ljava/lang/Object;"⟩ : MethodName) (head1 (Jvm.Cond.code (⟨"java/util/ArrayList", "elementData", "(I)Ljava/lang/Object;"⟩ : MethodName) jdk_38_method_18_code 2 (some (.object "java/lang/Object")) :: ws) ({ frames := 0, cells := 0, slots := 0, locals := 0 } : Room)) (fun aV U => aV = #[(.ref a), (.int (1 : Int32))] ∧ Z.Warmed39 U.vm ∧ U.heap = h0) (fun _ _ _ _ _ => True) (fun _ U o U' => ∃ v L, o = .returned v ∧ Q_ed2_1 Z a b k r0 r1 h0 n0 v U'.heap L ∧ FrameEnd U o U' L ({ frames := 0, cells := 0, slots := 0, locals := 0 } : Room).cells ({ frames := 0, cells := 0, slots := 0, locals := 0 } : Room).slots) := by
  refine MetFree.of_bodySF (plainFor_of_name pn_4) hisR ?_
  intro pr_ en_ st_ me_ args below meth_ co_ s₁ Bd hml0 hP hK
  obtain ⟨rfl, hZ, hh⟩ := hP
  have hx := Bd.exec
  have hby := Bd.bytes
  have hml : co_.maxLocals = 2 := hml0
  have hown : st_.vm.findClass "java/util/ArrayList" = some me_.cls := findClass_of_methodNamed Bd.named
  have hnm := (name_of_methodNamed Bd.named Bd.method).1
  have X0 : Stand pr_ l en_ ({ frames := 0, cells := 0, slots := 0, locals := 0 } : Room) st_ me_ #[(.ref a), (.int (1 : Int32))] below meth_ co_ s₁ [] 0 0 := Stand.of_body Bd
  have e0 : s₁.heap = h0 := by rw [← hh, Bd.state]; rfl
  have N0 := Fr.nil n0
  have K0 := Keep.refl h0 []
  obtain ⟨G, gv, gf, gb⟩ := own_G pr_.tables en_ below st_ (Q_ed2_1 Z a b k r0 r1 h0 n0) ({ frames := 0, cells := 0, slots := 0, locals := 0 } : Room).cells ({ frames := 0, cells := 0, slots := 0, locals := 0 } : Room).slots
  show own_Fin pr_.tables en_ below st_ (Q_ed2_1 Z a b k r0 r1 h0 n0) ({ frames := 0, cells := 0, slots := 0, locals := 0 } : Room).cells ({ frames := 0, cells := 0, slots := 0, locals := 0 } : Room).slots (s₁.setTop (entryFrame me_ #[(.ref a), (.int (1 : Int32))] 2))
  refine gb _ (gv (fun tQ kQ => castTop (ef_1 me_ a (1 : Int32)) kQ) ?_)
  show G (s₁.setTop (mkF me_ 0 #[.val (.ref a), .val (.int (1 : Int32))] []))
  refine gv (fun tQ kQ => XS.aloadN X0.here hx rfl (hb hby d25_0) rfl rfl kQ) ?_
  show G (s₁.setTop (mkF me_ 1 #[.val (.ref a), .val (.int (1 : Int32))] [(.ref a)]))
  obtain ⟨T384, X384, e384, st384⟩ := getF X0 hx hZ hown (host := "") (Or.inl (hw _ (List.mem_of_getElem? (i := 24) rfl))) Via.refl e0 u0 (g := (mkF me_ 1 #[.val (.ref a), .val (.int (1 : Int32))] [(.ref a)])) rfl rfl (hb hby d25_1)
  refine gv st384 ?_
  show G (T384.setTop (mkF me_ 4 #[.val (.ref a), .val (.int (1 : Int32))] [(.ref b)]))
  refine gv (fun tQ kQ => XS.iloadN X384.here hx rfl (hb hby d25_4) rfl kQ) ?_
  show G (T384.setTop (mkF me_ 5 #[.val (.ref a), .val (.int (1 : Int32))] [(.int (1 : Int32)), (.ref b)]))
  obtain ⟨cl385, Ar385, q385, S385, n385, H385, G385⟩ := (id u1)
  have in385 : ¬ ((1 : Int32) < 0 ∨ cl385.slots.size ≤ ((1 : Int32)).toNatClampNeg) := inb_of S385 ⟨by decide, by decide⟩
  refine gv (X384.aaload hx (j := (1 : Int32)) (v := (.ref r1)) (by rw [e384]; exact Ar385.1) (State.isArrayOf_alike hZ.alike Ar385.2.1) rfl Ar385.2.2 in385 (Has.at H385 in385 rfl) (g := (mkF me_ 5 #[.val (.ref a), .val (.int (1 : Int32))] [(.int (1 : Int32)), (.ref b)])) rfl rfl (hb hby d25_5)) ?_
  show G (T384.setTop (mkF me_ 6 #[.val (.ref a), .val (.int (1 : Int32))] [(.ref r1)]))
  refine gf _ (own_ret X384 Bd.notSynchronized (v := some (.ref r1)) (fun h => by rw [Bd.returns] at h; cases h) ?_ (by decide) (by decide) (fun fs hr => retOut X384 hx (t := (.object "java/lang/Object")) Bd.returns rfl (Or.inr (Or.inr (Or.inr (Or.inr ⟨rfl, rfl, rfl⟩)))) (hb hby d25_6) hr))
  show Q_ed2_1 Z a b k r0 r1 h0 n0 _ T384.heap _
  rw [e384]
  exact ⟨rfl, N0, rfl⟩
def Q_get2_1 (Z : State) (a : Addr) (b : Addr) (k : ClassId) (r0 : Addr) (r1 : Addr) (h0 : Heap) (n0 : Nat) (v : Option Value) (h : Heap) (L : List Loc) : Prop := v = some (.ref r1) ∧ Fr n0 L ∧ h = h0
set_option maxRecDepth 65536 in
set_option maxHeartbeats 40000000 in
theorem rm_get2_1 (l : Launch) (Z : State) (a0 : Array Value) (hw : ∀ d ∈ tables_1, d.before a0 Z = true) (ws : List Jvm.Cond) (a : Addr) (b : Addr) (k : ClassId) (r0 : Addr) (r1 : Addr) (h0 : Heap) (n0 : Nat) (O0 : Old Z n0 h0) (u0 : Exa Z h0 a "java/util/ArrayList") (u1 : Fld Z h0 a "java/util/ArrayList" "elementData" "[Ljava/lang/Object;" (.ref b)) (u2 : Fld Z h0 a "java/util/ArrayList" "size" "I" (.int (2 : Int32))) (u3 : Arv Z h0 b k (.object "java/lang/Object") (10 : Int32) [(.ref r0), (.ref r1), .null, .null, .null, .null, .null, .null, .null, .null] .null) :
    MetFree l (⟨"java/util/ArrayList", "get", "(I)Ljava/lang/Object;"⟩ : MethodName) (head1 (Jvm.Cond.code (⟨"java/util/ArrayList", "get", "(I)Ljava/lang/Object;"⟩ : MethodName) jdk_38_method_20_code 2 (some (.object "java/lang/Object")) :: ws) ({ frames := 2, cells := 0, slots := 0, locals := 27 } : Room)) (fun aV U => aV = #[(.ref a), (.int (1 : Int32))] ∧ Z.Warmed39 U.vm ∧ U.heap = h0) (fun _ _ _ _ _ => True) (fun _ U o U' => ∃ v L, o = .returned v ∧ Q_get2_1 Z a b k r0 r1 h0 n0 v U'.heap L ∧ FrameEnd U o U' L ({ frames := 2, cells := 0, slots := 0, locals := 27 } : Room).cells ({ frames := 2, cells := 0, slots := 0, locals := 27 } : Room).slots) := by
  refine MetFree.of_bodySF (plainFor_of_name pn_4) hisR ?_
  intro pr_ en_ st_ me_ args below meth_ co_ s₁ Bd hml0 hP hK
  obtain ⟨rfl, hZ, hh⟩ := hP
  have hx := Bd.exec
  have hby := Bd.bytes
  have hml : co_.maxLocals = 2 := hml0
  have hown : st_.vm.findClass "java/util/ArrayList" = some me_.cls := findClass_of_methodNamed Bd.named
  have hnm := (name_of_methodNamed Bd.named Bd.method).1
  have X0 : Stand pr_ l en_ ({ frames := 2, cells := 0, slots := 0, locals := 27 } : Room) st_ me_ #[(.ref a), (.int (1 : Int32))] below meth_ co_ s₁ [] 0 0 := Stand.of_body Bd
  have e0 : s₁.heap = h0 := by rw [← hh, Bd.state]; rfl
  have N0 := Fr.nil n0
  have K0 := Keep.refl h0 []
  obtain ⟨G, gv, gf, gb⟩ := own_G pr_.tables en_ below st_ (Q_get2_1 Z a b k r0 r1 h0 n0) ({ frames := 2, cells := 0, slots := 0, locals := 27 } : Room).cells ({ frames := 2, cells := 0, slots := 0, locals := 27 } : Room).slots
  show own_Fin pr_.tables en_ below st_ (Q_get2_1 Z a b k r0 r1 h0 n0) ({ frames := 2, cells := 0, slots := 0, locals := 27 } : Room).cells ({ frames := 2, cells := 0, slots := 0, locals := 27 } : Room).slots (s₁.setTop (entryFrame me_ #[(.ref a), (.int (1 : Int32))] 2))
  refine gb _ (gv (fun tQ kQ => castTop (ef_1 me_ a (1 : Int32)) kQ) ?_)
  show G (s₁.setTop (mkF me_ 0 #[.val (.ref a), .val (.int (1 : Int32))] []))
  refine gv (fun tQ kQ => XS.iloadN X0.here hx rfl (hb hby d22_0) rfl kQ) ?_
  show G (s₁.setTop (mkF me_ 1 #[.val (.ref a), .val (.int (1 : Int32))] [(.int (1 : Int32))]))
  refine gv (fun tQ kQ => XS.aloadN X0.here hx rfl (hb hby d22_1) rfl rfl kQ) ?_
  show G (s₁.setTop (mkF me_ 2 #[.val (.ref a), .val (.int (1 : Int32))] [(.ref a), (.int (1 : Int32))]))
  obtain ⟨T386, X386, e386, st386⟩ := getF X0 hx hZ hown (host := "") (Or.inl (hw _ (List.mem_of_getElem? (i := 65) rfl))) Via.refl e0 u2 (g := (mkF me_ 2 #[.val (.ref a), .val (.int (1 : Int32))] [(.ref a), (.int (1 : Int32))])) rfl rfl (hb hby d22_2)
  refine gv st386 ?_
  show G (T386.setTop (mkF me_ 5 #[.val (.ref a), .val (.int (1 : Int32))] [(.int (2 : Int32)), (.int (1 : Int32))]))
  obtain ⟨_, _, ⟨T387, L387, k387, n387⟩, -, X387, ⟨Lc387, hQ387, l387, y387, z387⟩, st387⟩ := Jvm.LawKit.callS X386 hx (y := (⟨"java/util/Objects", "checkIndex", "(II)I"⟩ : MethodName)) hown (mvT hZ (hw _ (List.mem_of_getElem? (i := 128) rfl))) (mvT hZ (hw _ (List.mem_of_getElem? (i := 129) rfl))) (mvT hZ (hw _ (List.mem_of_getElem? (i := 130) rfl))) (mvT hZ (hw _ (List.mem_of_getElem? (i := 131) rfl))) (by decide) (backOf (W := 0) (rm_oci2_1 l Z a0 hw []  h0 n0 O0 ) hZ (hw _ (List.mem_of_getElem? (i := 131) rfl)) (hw _ (List.mem_of_getElem? (i := 130) rfl)) (by decide) (by decide)) (g := (mkF me_ 5 #[.val (.ref a), .val (.int (1 : Int32))] [(.int (2 : Int32)), (.int (1 : Int32))])) rfl (by rw [hml]; rfl) (argsL := [(.int (1 : Int32)), (.int (2 : Int32))]) (rest := []) (lenOf pd_2 rfl) rfl (by show 2 * 0 + _ ≤ _; exact Nat.le_of_eq rfl) (hb hby d22_5) (fun _ _ => ⟨rfl, e386, (by decide : 0 + 0 ≤ _), (by decide : 0 + 0 ≤ _)⟩)
  dsimp only [Pt.U, Pt.locs, Pt.cells, Pt.slots] at X387 l387 y387 z387 st387 hQ387
  subst l387 y387 z387
  obtain ⟨rfl, Nq387, eq387⟩ := hQ387
  have N388 := Fr.app N0 Nq387
  refine gv st387 ?_
  show G (T387.setTop (mkF me_ 8 #[.val (.ref a), .val (.int (1 : Int32))] [(.int (1 : Int32))]))
  refine gv (fun tQ kQ => XS.pop X387.here hx rfl (hb hby d22_8) rfl rfl kQ) ?_
  show G (T387.setTop (mkF me_ 9 #[.val (.ref a), .val (.int (1 : Int32))] []))
  refine gv (fun tQ kQ => XS.aloadN X387.here hx rfl (hb hby d22_9) rfl rfl kQ) ?_
  show G (T387.setTop (mkF me_ 10 #[.val (.ref a), .val (.int (1 : Int32))] [(.ref a)]))
  refine gv (fun tQ kQ => XS.iloadN X387.here hx rfl (hb hby d22_10) rfl kQ) ?_
  show G (T387.setTop (mkF me_ 11 #[.val (.ref a), .val (.int (1 : Int32))] [(.int (1 : Int32)), (.ref a)]))
  obtain ⟨cq389, kq389, q389a, q389b, q389c⟩ := isOf hZ eq387 u0
  obtain ⟨_, _, ⟨T389, L389, k389, n389⟩, -, X389, ⟨Lc389, hQ389, l389, y389, z389⟩, st389⟩ := X387.virtualBack hx (y := (⟨"java/util/ArrayList", "elementData", "(I)Ljava/lang/Object;"⟩ : MethodName)) (z := (⟨"java/util/ArrayList", "elementData", "(I)Ljava/lang/Object;"⟩ : MethodName)) hown (mvT hZ (hw _ (List.mem_of_getElem? (i := 136) rfl))) (mvT hZ (hw _ (List.mem_of_getElem? (i := 137) rfl))) (notFace_of_selects (args := #[]) (mvT hZ (hw _ (List.mem_of_getElem? (i := 139) rfl)))) (mvT hZ (hw _ (List.mem_of_getElem? (i := 139) rfl))) (mvT hZ (hw _ (List.mem_of_getElem? (i := 138) rfl))) (by decide) (backOf (W := 0) (rm_ed2_1 l Z a0 hw [] a b k r0 r1 h0 n0 O0 u1 u3) hZ (hw _ (List.mem_of_getElem? (i := 140) rfl)) (hw _ (List.mem_of_getElem? (i := 2) rfl)) (by decide) (by decide)) q389a q389c (g := (mkF me_ 11 #[.val (.ref a), .val (.int (1 : Int32))] [(.int (1 : Int32)), (.ref a)])) rfl (by rw [hml]; rfl) (Steps.refl _) (argsL := [(.int (1 : Int32))]) (rest := []) (lenOf pd_14 rfl) rfl (by show 2 * 0 + _ ≤ _; exact Nat.le_of_eq rfl) (hb hby d22_11) (fun _ _ => ⟨rfl, eq387, (by decide : 0 + 0 ≤ _), (by decide : 0 + 0 ≤ _)⟩)
  dsimp only [Pt.U, Pt.locs, Pt.cells, Pt.slots] at X389 l389 y389 z389 st389 hQ389
  subst l389 y389 z389
  obtain ⟨rfl, Nq389, eq389⟩ := hQ389
  have N390 := Fr.app N388 Nq389
  refine gv (fun tQ kQ => st389.trans kQ) ?_
  show G (T389.setTop (mkF me_ 14 #[.val (.ref a), .val (.int (1 : Int32))] [(.ref r1)]))
  refine gf _ (own_ret X389 Bd.notSynchronized (v := some (.ref r1)) (fun h => by rw [Bd.returns] at h; cases h) ?_ (by decide) (by decide) (fun fs hr => retOut X389 hx (t := (.object "java/lang/Object")) Bd.returns rfl (Or.inr (Or.inr (Or.inr (Or.inr ⟨rfl, rfl, rfl⟩)))) (hb hby d22_14) hr))
  show Q_get2_1 Z a b k r0 r1 h0 n0 _ T389.heap _
  rw [eq389]
  exact ⟨rfl, N390, rfl⟩
def Q_pci3_0 (Z : State)  (h0 : Heap) (n0 : Nat) (v : Option Value) (h : Heap) (L : List Loc) : Prop := v = some (.int (0 : Int32)) ∧ Fr n0 L ∧ h = h0
set_option maxRecDepth 65536 in
set_option maxHeartbeats 40000000 in
theorem rm_pci3_0 (l : Launch) (Z : State) (a0 : Array Value) (hw : ∀ d ∈ tables_1, d.before a0 Z = true) (ws : List Jvm.Cond)  (h0 : Heap) (n0 : Nat) (O0 : Old Z n0 h0)  :
    MetFree l (⟨"jdk/internal/util/Preconditions", "checkIndex", "(IILjava/util/function/BiFunction;)I"⟩ : MethodName) (head1 (Jvm.Cond.code (⟨"jdk/internal/util/Preconditions", "checkIndex", "(IILjava/util/function/BiFunction;)I"⟩ : MethodName) jdk_41_method_11_code 3 (some .int) :: ws) ({ frames := 0, cells := 0, slots := 0, locals := 0 } : Room)) (fun aV U => aV = #[(.int (0 : Int32)), (.int (3 : Int32)), .null] ∧ Z.Warmed39 U.vm ∧ U.heap = h0) (fun _ _ _ _ _ => True) (fun _ U o U' => ∃ v L, o = .returned v ∧ Q_pci3_0 Z  h0 n0 v U'.heap L ∧ FrameEnd U o U' L ({ frames := 0, cells := 0, slots := 0, locals := 0 } : Room).cells ({ frames := 0, cells := 0, slots := 0, locals := 0 } : Room).slots) := by
  refine MetFree.of_bodySF (plainFor_of_name pn_9) hisR ?_
  intro pr_ en_ st_ me_ args below meth_ co_ s₁ Bd hml0 hP hK
  obtain ⟨rfl, hZ, hh⟩ := hP
  have hx := Bd.exec
  have hby := Bd.bytes
  have hml : co_.maxLocals = 3 := hml0
  have hown : st_.vm.findClass "jdk/internal/util/Preconditions" = some me_.cls := findClass_of_methodNamed Bd.named
  have hnm := (name_of_methodNamed Bd.named Bd.method).1
  have X0 : Stand pr_ l en_ ({ frames := 0, cells := 0, slots := 0, locals := 0 } : Room) st_ me_ #[(.int (0 : Int32)), (.int (3 : Int32)), .null] below meth_ co_ s₁ [] 0 0 := Stand.of_body Bd
  have e0 : s₁.heap = h0 := by rw [← hh, Bd.state]; rfl
  have N0 := Fr.nil n0
  have K0 := Keep.refl h0 []
  obtain ⟨G, gv, gf, gb⟩ := own_G pr_.tables en_ below st_ (Q_pci3_0 Z  h0 n0) ({ frames := 0, cells := 0, slots := 0, locals := 0 } : Room).cells ({ frames := 0, cells := 0, slots := 0, locals := 0 } : Room).slots
  show own_Fin pr_.tables en_ below st_ (Q_pci3_0 Z  h0 n0) ({ frames := 0, cells := 0, slots := 0, locals := 0 } : Room).cells ({ frames := 0, cells := 0, slots := 0, locals := 0 } : Room).slots (s₁.setTop (entryFrame me_ #[(.int (0 : Int32)), (.int (3 : Int32)), .null] 3))
  refine gb _ (gv (fun tQ kQ => castTop (ef_12 me_ (0 : Int32) (3 : Int32)) kQ) ?_)
  show G (s₁.setTop (mkF me_ 0 #[.val (.int (0 : Int32)), .val (.int (3 : Int32)), .val .null] []))
  refine gv (fun tQ kQ => XS.iloadN X0.here hx rfl (hb hby d24_0) rfl kQ) ?_
  show G (s₁.setTop (mkF me_ 1 #[.val (.int (0 : Int32)), .val (.int (3 : Int32)), .val .null] [(.int (0 : Int32))]))
  refine gv (fun tQ kQ => XS.ifNo X0.here hx rfl (hb hby d24_1) rfl ((if0 _ _).trans (flt (by decide : ¬ ((0 : Int32) < (0 : Int32)))).1) kQ) ?_
  show G (s₁.setTop (mkF me_ 4 #[.val (.int (0 : Int32)), .val (.int (3 : Int32)), .val .null] []))
  refine gv (fun tQ kQ => XS.iloadN X0.here hx rfl (hb hby d24_4) rfl kQ) ?_
  show G (s₁.setTop (mkF me_ 5 #[.val (.int (0 : Int32)), .val (.int (3 : Int32)), .val .null] [(.int (0 : Int32))]))
  refine gv (fun tQ kQ => XS.iloadN X0.here hx rfl (hb hby d24_5) rfl kQ) ?_
  show G (s₁.setTop (mkF me_ 6 #[.val (.int (0 : Int32)), .val (.int (3 : Int32)), .val .null] [(.int (3 : Int32)), (.int (0 : Int32))]))
  refine gv (fun tQ kQ => XS.icmpYes X0.here hx rfl (pc0 := 6) (pc' := 16) rfl (hb hby d24_6) rfl (tlt (by decide : (0 : Int32) < (3 : Int32))).1 (by decide) (by decide) kQ) ?_
  show G (s₁.setTop (mkF me_ 16 #[.val (.int (0 : Int32)), .val (.int (3 : Int32)), .val .null] []))
  refine gv (fun tQ kQ => XS.iloadN X0.here hx rfl (hb hby d24_16) rfl kQ) ?_
  show G (s₁.setTop (mkF me_ 17 #[.val (.int (0 : Int32)), .val (.int (3 : Int32)), .val .null] [(.int (0 : Int32))]))
  refine gf _ (own_ret X0 Bd.notSynchronized (v := some (.int (0 : Int32))) (fun h => by rw [Bd.returns] at h; cases h) ?_ (by decide) (by decide) (fun fs hr => retOut X0 hx (t := .int) Bd.returns rfl (Or.inl ⟨rfl, Or.inl rfl, _, rfl⟩) (hb hby d24_17) hr))
  show Q_pci3_0 Z  h0 n0 _ s₁.heap _
  rw [e0]
  exact ⟨rfl, N0, rfl⟩
def Q_oci3_0 (Z : State)  (h0 : Heap) (n0 : Nat) (v : Option Value) (h : Heap) (L : List Loc) : Prop := v = some (.int (0 : Int32)) ∧ Fr n0 L ∧ h = h0
set_option maxRecDepth 65536 in
set_option maxHeartbeats 40000000 in
theorem rm_oci3_0 (l : Launch) (Z : State) (a0 : Array Value) (hw : ∀ d ∈ tables_1, d.before a0 Z = true) (ws : List Jvm.Cond)  (h0 : Heap) (n0 : Nat) (O0 : Old Z n0 h0)  :
    MetFree l (⟨"java/util/Objects", "checkIndex", "(II)I"⟩ : MethodName) (head1 (Jvm.Cond.code (⟨"java/util/Objects", "checkIndex", "(II)I"⟩ : MethodName) jdk_31_method_17_code 2 (some .int) :: ws) ({ frames := 1, cells := 0, slots := 0, locals := 14 } : Room)) (fun aV U => aV = #[(.int (0 : Int32)), (.int (3 : Int32))] ∧ Z.Warmed39 U.vm ∧ U.heap = h0) (fun _ _ _ _ _ => True) (fun _ U o U' => ∃ v L, o = .returned v ∧ Q_oci3_0 Z  h0 n0 v U'.heap L ∧ FrameEnd U o U' L ({ frames := 1, cells := 0, slots := 0, locals := 14 } : Room).cells ({ frames := 1, cells := 0, slots := 0, locals := 14 } : Room).slots) := by
  refine MetFree.of_bodySF (plainFor_of_name pn_10) hisR ?_
  intro pr_ en_ st_ me_ args below meth_ co_ s₁ Bd hml0 hP hK
  obtain ⟨rfl, hZ, hh⟩ := hP
  have hx := Bd.exec
  have hby := Bd.bytes
  have hml : co_.maxLocals = 2 := hml0
  have hown : st_.vm.findClass "java/util/Objects" = some me_.cls := findClass_of_methodNamed Bd.named
  have hnm := (name_of_methodNamed Bd.named Bd.method).1
  have X0 : Stand pr_ l en_ ({ frames := 1, cells := 0, slots := 0, locals := 14 } : Room) st_ me_ #[(.int (0 : Int32)), (.int (3 : Int32))] below meth_ co_ s₁ [] 0 0 := Stand.of_body Bd
  have e0 : s₁.heap = h0 := by rw [← hh, Bd.state]; rfl
  have N0 := Fr.nil n0
  have K0 := Keep.refl h0 []
  obtain ⟨G, gv, gf, gb⟩ := own_G pr_.tables en_ below st_ (Q_oci3_0 Z  h0 n0) ({ frames := 1, cells := 0, slots := 0, locals := 14 } : Room).cells ({ frames := 1, cells := 0, slots := 0, locals := 14 } : Room).slots
  show own_Fin pr_.tables en_ below st_ (Q_oci3_0 Z  h0 n0) ({ frames := 1, cells := 0, slots := 0, locals := 14 } : Room).cells ({ frames := 1, cells := 0, slots := 0, locals := 14 } : Room).slots (s₁.setTop (entryFrame me_ #[(.int (0 : Int32)), (.int (3 : Int32))] 2))
  refine gb _ (gv (fun tQ kQ => castTop (ef_3 me_ (0 : Int32) (3 : Int32)) kQ) ?_)
  show G (s₁.setTop (mkF me_ 0 #[.val (.int (0 : Int32)), .val (.int (3 : Int32))] []))
  refine gv (fun tQ kQ => XS.iloadN X0.here hx rfl (hb hby d23_0) rfl kQ) ?_
  show G (s₁.setTop (mkF me_ 1 #[.val (.int (0 : Int32)), .val (.int (3 : Int32))] [(.int (0 : Int32))]))
  refine gv (fun tQ kQ => XS.iloadN X0.here hx rfl (hb hby d23_1) rfl kQ) ?_
  show G (s₁.setTop (mkF me_ 2 #[.val (.int (0 : Int32)), .val (.int (3 : Int32))] [(.int (3 : Int32)), (.int (0 : Int32))]))
  refine gv (fun tQ kQ => XS.aconstNull X0.here hx rfl (hb hby d23_2) kQ) ?_
  show G (s₁.setTop (mkF me_ 3 #[.val (.int (0 : Int32)), .val (.int (3 : Int32))] [.null, (.int (3 : Int32)), (.int (0 : Int32))]))
  obtain ⟨_, _, ⟨T391, L391, k391, n391⟩, -, X391, ⟨Lc391, hQ391, l391, y391, z391⟩, st391⟩ := Jvm.LawKit.callS X0 hx (y := (⟨"jdk/internal/util/Preconditions", "checkIndex", "(IILjava/util/function/BiFunction;)I"⟩ : MethodName)) hown (mvT hZ (hw _ (List.mem_of_getElem? (i := 132) rfl))) (mvT hZ (hw _ (List.mem_of_getElem? (i := 133) rfl))) (mvT hZ (hw _ (List.mem_of_getElem? (i := 134) rfl))) (mvT hZ (hw _ (List.mem_of_getElem? (i := 135) rfl))) (by decide) (backOf (W := 0) (rm_pci3_0 l Z a0 hw []  h0 n0 O0 ) hZ (hw _ (List.mem_of_getElem? (i := 135) rfl)) (hw _ (List.mem_of_getElem? (i := 134) rfl)) (by decide) (by decide)) (g := (mkF me_ 3 #[.val (.int (0 : Int32)), .val (.int (3 : Int32))] [.null, (.int (3 : Int32)), (.int (0 : Int32))])) rfl (by rw [hml]; rfl) (argsL := [(.int (0 : Int32)), (.int (3 : Int32)), .null]) (rest := []) (lenOf pd_13 rfl) rfl (by show 2 * 0 + _ ≤ _; exact Nat.le_of_eq rfl) (hb hby d23_3) (fun _ _ => ⟨rfl, e0, (by decide : 0 + 0 ≤ _), (by decide : 0 + 0 ≤ _)⟩)
  dsimp only [Pt.U, Pt.locs, Pt.cells, Pt.slots] at X391 l391 y391 z391 st391 hQ391
  subst l391 y391 z391
  obtain ⟨rfl, Nq391, eq391⟩ := hQ391
  have N392 := Fr.app N0 Nq391
  refine gv st391 ?_
  show G (T391.setTop (mkF me_ 6 #[.val (.int (0 : Int32)), .val (.int (3 : Int32))] [(.int (0 : Int32))]))
  refine gf _ (own_ret X391 Bd.notSynchronized (v := some (.int (0 : Int32))) (fun h => by rw [Bd.returns] at h; cases h) ?_ (by decide) (by decide) (fun fs hr => retOut X391 hx (t := .int) Bd.returns rfl (Or.inl ⟨rfl, Or.inl rfl, _, rfl⟩) (hb hby d23_6) hr))
  show Q_oci3_0 Z  h0 n0 _ T391.heap _
  rw [eq391]
  exact ⟨rfl, N392, rfl⟩
def Q_ed3_0 (Z : State) (a : Addr) (b : Addr) (k : ClassId) (r0 : Addr) (r1 : Addr) (r2 : Addr) (h0 : Heap) (n0 : Nat) (v : Option Value) (h : Heap) (L : List Loc) : Prop := v = some (.ref r0) ∧ Fr n0 L ∧ h = h0
set_option maxRecDepth 65536 in
set_option maxHeartbeats 40000000 in
theorem rm_ed3_0 (l : Launch) (Z : State) (a0 : Array Value) (hw : ∀ d ∈ tables_1, d.before a0 Z = true) (ws : List Jvm.Cond) (a : Addr) (b : Addr) (k : ClassId) (r0 : Addr) (r1 : Addr) (r2 : Addr) (h0 : Heap) (n0 : Nat) (O0 : Old Z n0 h0) (u0 : Fld Z h0 a "java/util/ArrayList" "elementData" "[Ljava/lang/Object;" (.ref b)) (u1 : Arv Z h0 b k (.object "java/lang/Object") (10 : Int32) [(.ref r0), (.ref r1), (.ref r2), .null, .null, .null, .null, .null, .null, .null] .null) :
    MetFree l (⟨"java/util/ArrayList", "elementData", "(I)Ljava/lang/Object;"⟩ : MethodName) (head1 (Jvm.Cond.code (⟨"java/util/ArrayList", "elementData", "(I)Ljava/lang/Object;"⟩ : MethodName) jdk_38_method_18_code 2 (some (.object "java/lang/Object")) :: ws) ({ frames := 0, cells := 0, slots := 0, locals := 0 } : Room)) (fun aV U => aV = #[(.ref a), (.int (0 : Int32))] ∧ Z.Warmed39 U.vm ∧ U.heap = h0) (fun _ _ _ _ _ => True) (fun _ U o U' => ∃ v L, o = .returned v ∧ Q_ed3_0 Z a b k r0 r1 r2 h0 n0 v U'.heap L ∧ FrameEnd U o U' L ({ frames := 0, cells := 0, slots := 0, locals := 0 } : Room).cells ({ frames := 0, cells := 0, slots := 0, locals := 0 } : Room).slots) := by
  refine MetFree.of_bodySF (plainFor_of_name pn_4) hisR ?_
  intro pr_ en_ st_ me_ args below meth_ co_ s₁ Bd hml0 hP hK
  obtain ⟨rfl, hZ, hh⟩ := hP
  have hx := Bd.exec
  have hby := Bd.bytes
  have hml : co_.maxLocals = 2 := hml0
  have hown : st_.vm.findClass "java/util/ArrayList" = some me_.cls := findClass_of_methodNamed Bd.named
  have hnm := (name_of_methodNamed Bd.named Bd.method).1
  have X0 : Stand pr_ l en_ ({ frames := 0, cells := 0, slots := 0, locals := 0 } : Room) st_ me_ #[(.ref a), (.int (0 : Int32))] below meth_ co_ s₁ [] 0 0 := Stand.of_body Bd
  have e0 : s₁.heap = h0 := by rw [← hh, Bd.state]; rfl
  have N0 := Fr.nil n0
  have K0 := Keep.refl h0 []
  obtain ⟨G, gv, gf, gb⟩ := own_G pr_.tables en_ below st_ (Q_ed3_0 Z a b k r0 r1 r2 h0 n0) ({ frames := 0, cells := 0, slots := 0, locals := 0 } : Room).cells ({ frames := 0, cells := 0, slots := 0, locals := 0 } : Room).slots
  show own_Fin pr_.tables en_ below st_ (Q_ed3_0 Z a b k r0 r1 r2 h0 n0) ({ frames := 0, cells := 0, slots := 0, locals := 0 } : Room).cells ({ frames := 0, cells := 0, slots := 0, locals := 0 } : Room).slots (s₁.setTop (entryFrame me_ #[(.ref a), (.int (0 : Int32))] 2))
  refine gb _ (gv (fun tQ kQ => castTop (ef_1 me_ a (0 : Int32)) kQ) ?_)
  show G (s₁.setTop (mkF me_ 0 #[.val (.ref a), .val (.int (0 : Int32))] []))
  refine gv (fun tQ kQ => XS.aloadN X0.here hx rfl (hb hby d25_0) rfl rfl kQ) ?_
  show G (s₁.setTop (mkF me_ 1 #[.val (.ref a), .val (.int (0 : Int32))] [(.ref a)]))
  obtain ⟨T393, X393, e393, st393⟩ := getF X0 hx hZ hown (host := "") (Or.inl (hw _ (List.mem_of_getElem? (i := 24) rfl))) Via.refl e0 u0 (g := (mkF me_ 1 #[.val (.ref a), .val (.int (0 : Int32))] [(.ref a)])) rfl rfl (hb hby d25_1)
  refine gv st393 ?_
  show G (T393.setTop (mkF me_ 4 #[.val (.ref a), .val (.int (0 : Int32))] [(.ref b)]))
  refine gv (fun tQ kQ => XS.iloadN X393.here hx rfl (hb hby d25_4) rfl kQ) ?_
  show G (T393.setTop (mkF me_ 5 #[.val (.ref a), .val (.int (0 : Int32))] [(.int (0 : Int32)), (.ref b)]))
  obtain ⟨cl394, Ar394, q394, S394, n394, H394, G394⟩ := (id u1)
  have in394 : ¬ ((0 : Int32) < 0 ∨ cl394.slots.size ≤ ((0 : Int32)).toNatClampNeg) := inb_of S394 ⟨by decide, by decide⟩
  refine gv (X393.aaload hx (j := (0 : Int32)) (v := (.ref r0)) (by rw [e393]; exact Ar394.1) (State.isArrayOf_alike hZ.alike Ar394.2.1) rfl Ar394.2.2 in394 (Has.at H394 in394 rfl) (g := (mkF me_ 5 #[.val (.ref a), .val (.int (0 : Int32))] [(.int (0 : Int32)), (.ref b)])) rfl rfl (hb hby d25_5)) ?_
  show G (T393.setTop (mkF me_ 6 #[.val (.ref a), .val (.int (0 : Int32))] [(.ref r0)]))
  refine gf _ (own_ret X393 Bd.notSynchronized (v := some (.ref r0)) (fun h => by rw [Bd.returns] at h; cases h) ?_ (by decide) (by decide) (fun fs hr => retOut X393 hx (t := (.object "java/lang/Object")) Bd.returns rfl (Or.inr (Or.inr (Or.inr (Or.inr ⟨rfl, rfl, rfl⟩)))) (hb hby d25_6) hr))
  show Q_ed3_0 Z a b k r0 r1 r2 h0 n0 _ T393.heap _
  rw [e393]
  exact ⟨rfl, N0, rfl⟩
def Q_get3_0 (Z : State) (a : Addr) (b : Addr) (k : ClassId) (r0 : Addr) (r1 : Addr) (r2 : Addr) (h0 : Heap) (n0 : Nat) (v : Option Value) (h : Heap) (L : List Loc) : Prop := v = some (.ref r0) ∧ Fr n0 L ∧ h = h0
set_option maxRecDepth 65536 in
set_option maxHeartbeats 40000000 in
theorem rm_get3_0 (l : Launch) (Z : State) (a0 : Array Value) (hw : ∀ d ∈ tables_1, d.before a0 Z = true) (ws : List Jvm.Cond) (a : Addr) (b : Addr) (k : ClassId) (r0 : Addr) (r1 : Addr) (r2 : Addr) (h0 : Heap) (n0 : Nat) (O0 : Old Z n0 h0) (u0 : Exa Z h0 a "java/util/ArrayList") (u1 : Fld Z h0 a "java/util/ArrayList" "elementData" "[Ljava/lang/Object;" (.ref b)) (u2 : Fld Z h0 a "java/util/ArrayList" "size" "I" (.int (3 : Int32))) (u3 : Arv Z h0 b k (.object "java/lang/Object") (10 : Int32) [(.ref r0), (.ref r1), (.ref r2), .null, .null, .null, .null, .null, .null, .null] .null) :
    MetFree l (⟨"java/util/ArrayList", "get", "(I)Ljava/lang/Object;"⟩ : MethodName) (head1 (Jvm.Cond.code (⟨"java/util/ArrayList", "get", "(I)Ljava/lang/Object;"⟩ : MethodName) jdk_38_method_20_code 2 (some (.object "java/lang/Object")) :: ws) ({ frames := 2, cells := 0, slots := 0, locals := 27 } : Room)) (fun aV U => aV = #[(.ref a), (.int (0 : Int32))] ∧ Z.Warmed39 U.vm ∧ U.heap = h0) (fun _ _ _ _ _ => True) (fun _ U o U' => ∃ v L, o = .returned v ∧ Q_get3_0 Z a b k r0 r1 r2 h0 n0 v U'.heap L ∧ FrameEnd U o U' L ({ frames := 2, cells := 0, slots := 0, locals := 27 } : Room).cells ({ frames := 2, cells := 0, slots := 0, locals := 27 } : Room).slots) := by
  refine MetFree.of_bodySF (plainFor_of_name pn_4) hisR ?_
  intro pr_ en_ st_ me_ args below meth_ co_ s₁ Bd hml0 hP hK
  obtain ⟨rfl, hZ, hh⟩ := hP
  have hx := Bd.exec
  have hby := Bd.bytes
  have hml : co_.maxLocals = 2 := hml0
  have hown : st_.vm.findClass "java/util/ArrayList" = some me_.cls := findClass_of_methodNamed Bd.named
  have hnm := (name_of_methodNamed Bd.named Bd.method).1
  have X0 : Stand pr_ l en_ ({ frames := 2, cells := 0, slots := 0, locals := 27 } : Room) st_ me_ #[(.ref a), (.int (0 : Int32))] below meth_ co_ s₁ [] 0 0 := Stand.of_body Bd
  have e0 : s₁.heap = h0 := by rw [← hh, Bd.state]; rfl
  have N0 := Fr.nil n0
  have K0 := Keep.refl h0 []
  obtain ⟨G, gv, gf, gb⟩ := own_G pr_.tables en_ below st_ (Q_get3_0 Z a b k r0 r1 r2 h0 n0) ({ frames := 2, cells := 0, slots := 0, locals := 27 } : Room).cells ({ frames := 2, cells := 0, slots := 0, locals := 27 } : Room).slots
  show own_Fin pr_.tables en_ below st_ (Q_get3_0 Z a b k r0 r1 r2 h0 n0) ({ frames := 2, cells := 0, slots := 0, locals := 27 } : Room).cells ({ frames := 2, cells := 0, slots := 0, locals := 27 } : Room).slots (s₁.setTop (entryFrame me_ #[(.ref a), (.int (0 : Int32))] 2))
  refine gb _ (gv (fun tQ kQ => castTop (ef_1 me_ a (0 : Int32)) kQ) ?_)
  show G (s₁.setTop (mkF me_ 0 #[.val (.ref a), .val (.int (0 : Int32))] []))
  refine gv (fun tQ kQ => XS.iloadN X0.here hx rfl (hb hby d22_0) rfl kQ) ?_
  show G (s₁.setTop (mkF me_ 1 #[.val (.ref a), .val (.int (0 : Int32))] [(.int (0 : Int32))]))
  refine gv (fun tQ kQ => XS.aloadN X0.here hx rfl (hb hby d22_1) rfl rfl kQ) ?_
  show G (s₁.setTop (mkF me_ 2 #[.val (.ref a), .val (.int (0 : Int32))] [(.ref a), (.int (0 : Int32))]))
  obtain ⟨T395, X395, e395, st395⟩ := getF X0 hx hZ hown (host := "") (Or.inl (hw _ (List.mem_of_getElem? (i := 65) rfl))) Via.refl e0 u2 (g := (mkF me_ 2 #[.val (.ref a), .val (.int (0 : Int32))] [(.ref a), (.int (0 : Int32))])) rfl rfl (hb hby d22_2)
  refine gv st395 ?_
  show G (T395.setTop (mkF me_ 5 #[.val (.ref a), .val (.int (0 : Int32))] [(.int (3 : Int32)), (.int (0 : Int32))]))
  obtain ⟨_, _, ⟨T396, L396, k396, n396⟩, -, X396, ⟨Lc396, hQ396, l396, y396, z396⟩, st396⟩ := Jvm.LawKit.callS X395 hx (y := (⟨"java/util/Objects", "checkIndex", "(II)I"⟩ : MethodName)) hown (mvT hZ (hw _ (List.mem_of_getElem? (i := 128) rfl))) (mvT hZ (hw _ (List.mem_of_getElem? (i := 129) rfl))) (mvT hZ (hw _ (List.mem_of_getElem? (i := 130) rfl))) (mvT hZ (hw _ (List.mem_of_getElem? (i := 131) rfl))) (by decide) (backOf (W := 0) (rm_oci3_0 l Z a0 hw []  h0 n0 O0 ) hZ (hw _ (List.mem_of_getElem? (i := 131) rfl)) (hw _ (List.mem_of_getElem? (i := 130) rfl)) (by decide) (by decide)) (g := (mkF me_ 5 #[.val (.ref a), .val (.int (0 : Int32))] [(.int (3 : Int32)), (.int (0 : Int32))])) rfl (by rw [hml]; rfl) (argsL := [(.int (0 : Int32)), (.int (3 : Int32))]) (rest := []) (lenOf pd_2 rfl) rfl (by show 2 * 0 + _ ≤ _; exact Nat.le_of_eq rfl) (hb hby d22_5) (fun _ _ => ⟨rfl, e395, (by decide : 0 + 0 ≤ _), (by decide : 0 + 0 ≤ _)⟩)
  dsimp only [Pt.U, Pt.locs, Pt.cells, Pt.slots] at X396 l396 y396 z396 st396 hQ396
  subst l396 y396 z396
  obtain ⟨rfl, Nq396, eq396⟩ := hQ396
  have N397 := Fr.app N0 Nq396
  refine gv st396 ?_
  show G (T396.setTop (mkF me_ 8 #[.val (.ref a), .val (.int (0 : Int32))] [(.int (0 : Int32))]))
  refine gv (fun tQ kQ => XS.pop X396.here hx rfl (hb hby d22_8) rfl rfl kQ) ?_
  show G (T396.setTop (mkF me_ 9 #[.val (.ref a), .val (.int (0 : Int32))] []))
  refine gv (fun tQ kQ => XS.aloadN X396.here hx rfl (hb hby d22_9) rfl rfl kQ) ?_
  show G (T396.setTop (mkF me_ 10 #[.val (.ref a), .val (.int (0 : Int32))] [(.ref a)]))
  refine gv (fun tQ kQ => XS.iloadN X396.here hx rfl (hb hby d22_10) rfl kQ) ?_
  show G (T396.setTop (mkF me_ 11 #[.val (.ref a), .val (.int (0 : Int32))] [(.int (0 : Int32)), (.ref a)]))
  obtain ⟨cq398, kq398, q398a, q398b, q398c⟩ := isOf hZ eq396 u0
  obtain ⟨_, _, ⟨T398, L398, k398, n398⟩, -, X398, ⟨Lc398, hQ398, l398, y398, z398⟩, st398⟩ := X396.virtualBack hx (y := (⟨"java/util/ArrayList", "elementData", "(I)Ljava/lang/Object;"⟩ : MethodName)) (z := (⟨"java/util/ArrayList", "elementData", "(I)Ljava/lang/Object;"⟩ : MethodName)) hown (mvT hZ (hw _ (List.mem_of_getElem? (i := 136) rfl))) (mvT hZ (hw _ (List.mem_of_getElem? (i := 137) rfl))) (notFace_of_selects (args := #[]) (mvT hZ (hw _ (List.mem_of_getElem? (i := 139) rfl)))) (mvT hZ (hw _ (List.mem_of_getElem? (i := 139) rfl))) (mvT hZ (hw _ (List.mem_of_getElem? (i := 138) rfl))) (by decide) (backOf (W := 0) (rm_ed3_0 l Z a0 hw [] a b k r0 r1 r2 h0 n0 O0 u1 u3) hZ (hw _ (List.mem_of_getElem? (i := 140) rfl)) (hw _ (List.mem_of_getElem? (i := 2) rfl)) (by decide) (by decide)) q398a q398c (g := (mkF me_ 11 #[.val (.ref a), .val (.int (0 : Int32))] [(.int (0 : Int32)), (.ref a)])) rfl (by rw [hml]; rfl) (Steps.refl _) (argsL := [(.int (0 : Int32))]) (rest := []) (lenOf pd_14 rfl) rfl (by show 2 * 0 + _ ≤ _; exact Nat.le_of_eq rfl) (hb hby d22_11) (fun _ _ => ⟨rfl, eq396, (by decide : 0 + 0 ≤ _), (by decide : 0 + 0 ≤ _)⟩)
  dsimp only [Pt.U, Pt.locs, Pt.cells, Pt.slots] at X398 l398 y398 z398 st398 hQ398
  subst l398 y398 z398
  obtain ⟨rfl, Nq398, eq398⟩ := hQ398
  have N399 := Fr.app N397 Nq398
  refine gv (fun tQ kQ => st398.trans kQ) ?_
  show G (T398.setTop (mkF me_ 14 #[.val (.ref a), .val (.int (0 : Int32))] [(.ref r0)]))
  refine gf _ (own_ret X398 Bd.notSynchronized (v := some (.ref r0)) (fun h => by rw [Bd.returns] at h; cases h) ?_ (by decide) (by decide) (fun fs hr => retOut X398 hx (t := (.object "java/lang/Object")) Bd.returns rfl (Or.inr (Or.inr (Or.inr (Or.inr ⟨rfl, rfl, rfl⟩)))) (hb hby d22_14) hr))
  show Q_get3_0 Z a b k r0 r1 r2 h0 n0 _ T398.heap _
  rw [eq398]
  exact ⟨rfl, N399, rfl⟩
def Q_pci3_1 (Z : State)  (h0 : Heap) (n0 : Nat) (v : Option Value) (h : Heap) (L : List Loc) : Prop := v = some (.int (1 : Int32)) ∧ Fr n0 L ∧ h = h0
set_option maxRecDepth 65536 in
set_option maxHeartbeats 40000000 in
theorem rm_pci3_1 (l : Launch) (Z : State) (a0 : Array Value) (hw : ∀ d ∈ tables_1, d.before a0 Z = true) (ws : List Jvm.Cond)  (h0 : Heap) (n0 : Nat) (O0 : Old Z n0 h0)  :
    MetFree l (⟨"jdk/internal/util/Preconditions", "checkIndex", "(IILjava/util/function/BiFunction;)I"⟩ : MethodName) (head1 (Jvm.Cond.code (⟨"jdk/internal/util/Preconditions", "checkIndex", "(IILjava/util/function/BiFunction;)I"⟩ : MethodName) jdk_41_method_11_code 3 (some .int) :: ws) ({ frames := 0, cells := 0, slots := 0, locals := 0 } : Room)) (fun aV U => aV = #[(.int (1 : Int32)), (.int (3 : Int32)), .null] ∧ Z.Warmed39 U.vm ∧ U.heap = h0) (fun _ _ _ _ _ => True) (fun _ U o U' => ∃ v L, o = .returned v ∧ Q_pci3_1 Z  h0 n0 v U'.heap L ∧ FrameEnd U o U' L ({ frames := 0, cells := 0, slots := 0, locals := 0 } : Room).cells ({ frames := 0, cells := 0, slots := 0, locals := 0 } : Room).slots) := by
  refine MetFree.of_bodySF (plainFor_of_name pn_9) hisR ?_
  intro pr_ en_ st_ me_ args below meth_ co_ s₁ Bd hml0 hP hK
  obtain ⟨rfl, hZ, hh⟩ := hP
  have hx := Bd.exec
  have hby := Bd.bytes
  have hml : co_.maxLocals = 3 := hml0
  have hown : st_.vm.findClass "jdk/internal/util/Preconditions" = some me_.cls := findClass_of_methodNamed Bd.named
  have hnm := (name_of_methodNamed Bd.named Bd.method).1
  have X0 : Stand pr_ l en_ ({ frames := 0, cells := 0, slots := 0, locals := 0 } : Room) st_ me_ #[(.int (1 : Int32)), (.int (3 : Int32)), .null] below meth_ co_ s₁ [] 0 0 := Stand.of_body Bd
  have e0 : s₁.heap = h0 := by rw [← hh, Bd.state]; rfl
  have N0 := Fr.nil n0
  have K0 := Keep.refl h0 []
  obtain ⟨G, gv, gf, gb⟩ := own_G pr_.tables en_ below st_ (Q_pci3_1 Z  h0 n0) ({ frames := 0, cells := 0, slots := 0, locals := 0 } : Room).cells ({ frames := 0, cells := 0, slots := 0, locals := 0 } : Room).slots
  show own_Fin pr_.tables en_ below st_ (Q_pci3_1 Z  h0 n0) ({ frames := 0, cells := 0, slots := 0, locals := 0 } : Room).cells ({ frames := 0, cells := 0, slots := 0, locals := 0 } : Room).slots (s₁.setTop (entryFrame me_ #[(.int (1 : Int32)), (.int (3 : Int32)), .null] 3))
  refine gb _ (gv (fun tQ kQ => castTop (ef_12 me_ (1 : Int32) (3 : Int32)) kQ) ?_)
  show G (s₁.setTop (mkF me_ 0 #[.val (.int (1 : Int32)), .val (.int (3 : Int32)), .val .null] []))
  refine gv (fun tQ kQ => XS.iloadN X0.here hx rfl (hb hby d24_0) rfl kQ) ?_
  show G (s₁.setTop (mkF me_ 1 #[.val (.int (1 : Int32)), .val (.int (3 : Int32)), .val .null] [(.int (1 : Int32))]))
  refine gv (fun tQ kQ => XS.ifNo X0.here hx rfl (hb hby d24_1) rfl ((if0 _ _).trans (flt (by decide : ¬ ((1 : Int32) < (0 : Int32)))).1) kQ) ?_
  show G (s₁.setTop (mkF me_ 4 #[.val (.int (1 : Int32)), .val (.int (3 : Int32)), .val .null] []))
  refine gv (fun tQ kQ => XS.iloadN X0.here hx rfl (hb hby d24_4) rfl kQ) ?_
  show G (s₁.setTop (mkF me_ 5 #[.val (.int (1 : Int32)), .val (.int (3 : Int32)), .val .null] [(.int (1 : Int32))]))
  refine gv (fun tQ kQ => XS.iloadN X0.here hx rfl (hb hby d24_5) rfl kQ) ?_
  show G (s₁.setTop (mkF me_ 6 #[.val (.int (1 : Int32)), .val (.int (3 : Int32)), .val .null] [(.int (3 : Int32)), (.int (1 : Int32))]))
  refine gv (fun tQ kQ => XS.icmpYes X0.here hx rfl (pc0 := 6) (pc' := 16) rfl (hb hby d24_6) rfl (tlt (by decide : (1 : Int32) < (3 : Int32))).1 (by decide) (by decide) kQ) ?_
  show G (s₁.setTop (mkF me_ 16 #[.val (.int (1 : Int32)), .val (.int (3 : Int32)), .val .null] []))
  refine gv (fun tQ kQ => XS.iloadN X0.here hx rfl (hb hby d24_16) rfl kQ) ?_
  show G (s₁.setTop (mkF me_ 17 #[.val (.int (1 : Int32)), .val (.int (3 : Int32)), .val .null] [(.int (1 : Int32))]))
  refine gf _ (own_ret X0 Bd.notSynchronized (v := some (.int (1 : Int32))) (fun h => by rw [Bd.returns] at h; cases h) ?_ (by decide) (by decide) (fun fs hr => retOut X0 hx (t := .int) Bd.returns rfl (Or.inl ⟨rfl, Or.inl rfl, _, rfl⟩) (hb hby d24_17) hr))
  show Q_pci3_1 Z  h0 n0 _ s₁.heap _
  rw [e0]
  exact ⟨rfl, N0, rfl⟩
def Q_oci3_1 (Z : State)  (h0 : Heap) (n0 : Nat) (v : Option Value) (h : Heap) (L : List Loc) : Prop := v = some (.int (1 : Int32)) ∧ Fr n0 L ∧ h = h0
set_option maxRecDepth 65536 in
set_option maxHeartbeats 40000000 in
theorem rm_oci3_1 (l : Launch) (Z : State) (a0 : Array Value) (hw : ∀ d ∈ tables_1, d.before a0 Z = true) (ws : List Jvm.Cond)  (h0 : Heap) (n0 : Nat) (O0 : Old Z n0 h0)  :
    MetFree l (⟨"java/util/Objects", "checkIndex", "(II)I"⟩ : MethodName) (head1 (Jvm.Cond.code (⟨"java/util/Objects", "checkIndex", "(II)I"⟩ : MethodName) jdk_31_method_17_code 2 (some .int) :: ws) ({ frames := 1, cells := 0, slots := 0, locals := 14 } : Room)) (fun aV U => aV = #[(.int (1 : Int32)), (.int (3 : Int32))] ∧ Z.Warmed39 U.vm ∧ U.heap = h0) (fun _ _ _ _ _ => True) (fun _ U o U' => ∃ v L, o = .returned v ∧ Q_oci3_1 Z  h0 n0 v U'.heap L ∧ FrameEnd U o U' L ({ frames := 1, cells := 0, slots := 0, locals := 14 } : Room).cells ({ frames := 1, cells := 0, slots := 0, locals := 14 } : Room).slots) := by
  refine MetFree.of_bodySF (plainFor_of_name pn_10) hisR ?_
  intro pr_ en_ st_ me_ args below meth_ co_ s₁ Bd hml0 hP hK
  obtain ⟨rfl, hZ, hh⟩ := hP
  have hx := Bd.exec
  have hby := Bd.bytes
  have hml : co_.maxLocals = 2 := hml0
  have hown : st_.vm.findClass "java/util/Objects" = some me_.cls := findClass_of_methodNamed Bd.named
  have hnm := (name_of_methodNamed Bd.named Bd.method).1
  have X0 : Stand pr_ l en_ ({ frames := 1, cells := 0, slots := 0, locals := 14 } : Room) st_ me_ #[(.int (1 : Int32)), (.int (3 : Int32))] below meth_ co_ s₁ [] 0 0 := Stand.of_body Bd
  have e0 : s₁.heap = h0 := by rw [← hh, Bd.state]; rfl
  have N0 := Fr.nil n0
  have K0 := Keep.refl h0 []
  obtain ⟨G, gv, gf, gb⟩ := own_G pr_.tables en_ below st_ (Q_oci3_1 Z  h0 n0) ({ frames := 1, cells := 0, slots := 0, locals := 14 } : Room).cells ({ frames := 1, cells := 0, slots := 0, locals := 14 } : Room).slots
  show own_Fin pr_.tables en_ below st_ (Q_oci3_1 Z  h0 n0) ({ frames := 1, cells := 0, slots := 0, locals := 14 } : Room).cells ({ frames := 1, cells := 0, slots := 0, locals := 14 } : Room).slots (s₁.setTop (entryFrame me_ #[(.int (1 : Int32)), (.int (3 : Int32))] 2))
  refine gb _ (gv (fun tQ kQ => castTop (ef_3 me_ (1 : Int32) (3 : Int32)) kQ) ?_)
  show G (s₁.setTop (mkF me_ 0 #[.val (.int (1 : Int32)), .val (.int (3 : Int32))] []))
  refine gv (fun tQ kQ => XS.iloadN X0.here hx rfl (hb hby d23_0) rfl kQ) ?_
  show G (s₁.setTop (mkF me_ 1 #[.val (.int (1 : Int32)), .val (.int (3 : Int32))] [(.int (1 : Int32))]))
  refine gv (fun tQ kQ => XS.iloadN X0.here hx rfl (hb hby d23_1) rfl kQ) ?_
  show G (s₁.setTop (mkF me_ 2 #[.val (.int (1 : Int32)), .val (.int (3 : Int32))] [(.int (3 : Int32)), (.int (1 : Int32))]))
  refine gv (fun tQ kQ => XS.aconstNull X0.here hx rfl (hb hby d23_2) kQ) ?_
  show G (s₁.setTop (mkF me_ 3 #[.val (.int (1 : Int32)), .val (.int (3 : Int32))] [.null, (.int (3 : Int32)), (.int (1 : Int32))]))
  obtain ⟨_, _, ⟨T400, L400, k400, n400⟩, -, X400, ⟨Lc400, hQ400, l400, y400, z400⟩, st400⟩ := Jvm.LawKit.callS X0 hx (y := (⟨"jdk/internal/util/Preconditions", "checkIndex", "(IILjava/util/function/BiFunction;)I"⟩ : MethodName)) hown (mvT hZ (hw _ (List.mem_of_getElem? (i := 132) rfl))) (mvT hZ (hw _ (List.mem_of_getElem? (i := 133) rfl))) (mvT hZ (hw _ (List.mem_of_getElem? (i := 134) rfl))) (mvT hZ (hw _ (List.mem_of_getElem? (i := 135) rfl))) (by decide) (backOf (W := 0) (rm_pci3_1 l Z a0 hw []  h0 n0 O0 ) hZ (hw _ (List.mem_of_getElem? (i := 135) rfl)) (hw _ (List.mem_of_getElem? (i := 134) rfl)) (by decide) (by decide)) (g := (mkF me_ 3 #[.val (.int (1 : Int32)), .val (.int (3 : Int32))] [.null, (.int (3 : Int32)), (.int (1 : Int32))])) rfl (by rw [hml]; rfl) (argsL := [(.int (1 : Int32)), (.int (3 : Int32)), .null]) (rest := []) (lenOf pd_13 rfl) rfl (by show 2 * 0 + _ ≤ _; exact Nat.le_of_eq rfl) (hb hby d23_3) (fun _ _ => ⟨rfl, e0, (by decide : 0 + 0 ≤ _), (by decide : 0 + 0 ≤ _)⟩)
  dsimp only [Pt.U, Pt.locs, Pt.cells, Pt.slots] at X400 l400 y400 z400 st400 hQ400
  subst l400 y400 z400
  obtain ⟨rfl, Nq400, eq400⟩ := hQ400
  have N401 := Fr.app N0 Nq400
  refine gv st400 ?_
  show G (T400.setTop (mkF me_ 6 #[.val (.int (1 : Int32)), .val (.int (3 : Int32))] [(.int (1 : Int32))]))
  refine gf _ (own_ret X400 Bd.notSynchronized (v := some (.int (1 : Int32))) (fun h => by rw [Bd.returns] at h; cases h) ?_ (by decide) (by decide) (fun fs hr => retOut X400 hx (t := .int) Bd.returns rfl (Or.inl ⟨rfl, Or.inl rfl, _, rfl⟩) (hb hby d23_6) hr))
  show Q_oci3_1 Z  h0 n0 _ T400.heap _
  rw [eq400]
  exact ⟨rfl, N401, rfl⟩
def Q_ed3_1 (Z : State) (a : Addr) (b : Addr) (k : ClassId) (r0 : Addr) (r1 : Addr) (r2 : Addr) (h0 : Heap) (n0 : Nat) (v : Option Value) (h : Heap) (L : List Loc) : Prop := v = some (.ref r1) ∧ Fr n0 L ∧ h = h0
set_option maxRecDepth 65536 in
set_option maxHeartbeats 40000000 in
theorem rm_ed3_1 (l : Launch) (Z : State) (a0 : Array Value) (hw : ∀ d ∈ tables_1, d.before a0 Z = true) (ws : List Jvm.Cond) (a : Addr) (b : Addr) (k : ClassId) (r0 : Addr) (r1 : Addr) (r2 : Addr) (h0 : Heap) (n0 : Nat) (O0 : Old Z n0 h0) (u0 : Fld Z h0 a "java/util/ArrayList" "elementData" "[Ljava/lang/Object;" (.ref b)) (u1 : Arv Z h0 b k (.object "java/lang/Object") (10 : Int32) [(.ref r0), (.ref r1), (.ref r2), .null, .null, .null, .null, .null, .null, .null] .null) :
    MetFree l (⟨"java/util/ArrayList", "elementData", "(I)Ljava/lang/Object;"⟩ : MethodName) (head1 (Jvm.Cond.code (⟨"java/util/ArrayList", "elementData", "(I)Ljava/lang/Object;"⟩ : MethodName) jdk_38_method_18_code 2 (some (.object "java/lang/Object")) :: ws) ({ frames := 0, cells := 0, slots := 0, locals := 0 } : Room)) (fun aV U => aV = #[(.ref a), (.int (1 : Int32))] ∧ Z.Warmed39 U.vm ∧ U.heap = h0) (fun _ _ _ _ _ => True) (fun _ U o U' => ∃ v L, o = .returned v ∧ Q_ed3_1 Z a b k r0 r1 r2 h0 n0 v U'.heap L ∧ FrameEnd U o U' L ({ frames := 0, cells := 0, slots := 0, locals := 0 } : Room).cells ({ frames := 0, cells := 0, slots := 0, locals := 0 } : Room).slots) := by
  refine MetFree.of_bodySF (plainFor_of_name pn_4) hisR ?_
  intro pr_ en_ st_ me_ args below meth_ co_ s₁ Bd hml0 hP hK
  obtain ⟨rfl, hZ, hh⟩ := hP
  have hx := Bd.exec
  have hby := Bd.bytes
  have hml : co_.maxLocals = 2 := hml0
  have hown : st_.vm.findClass "java/util/ArrayList" = some me_.cls := findClass_of_methodNamed Bd.named
  have hnm := (name_of_methodNamed Bd.named Bd.method).1
  have X0 : Stand pr_ l en_ ({ frames := 0, cells := 0, slots := 0, locals := 0 } : Room) st_ me_ #[(.ref a), (.int (1 : Int32))] below meth_ co_ s₁ [] 0 0 := Stand.of_body Bd
  have e0 : s₁.heap = h0 := by rw [← hh, Bd.state]; rfl
  have N0 := Fr.nil n0
  have K0 := Keep.refl h0 []
  obtain ⟨G, gv, gf, gb⟩ := own_G pr_.tables en_ below st_ (Q_ed3_1 Z a b k r0 r1 r2 h0 n0) ({ frames := 0, cells := 0, slots := 0, locals := 0 } : Room).cells ({ frames := 0, cells := 0, slots := 0, locals := 0 } : Room).slots
  show own_Fin pr_.tables en_ below st_ (Q_ed3_1 Z a b k r0 r1 r2 h0 n0) ({ frames := 0, cells := 0, slots := 0, locals := 0 } : Room).cells ({ frames := 0, cells := 0, slots := 0, locals := 0 } : Room).slots (s₁.setTop (entryFrame me_ #[(.ref a), (.int (1 : Int32))] 2))
  refine gb _ (gv (fun tQ kQ => castTop (ef_1 me_ a (1 : Int32)) kQ) ?_)
  show G (s₁.setTop (mkF me_ 0 #[.val (.ref a), .val (.int (1 : Int32))] []))
  refine gv (fun tQ kQ => XS.aloadN X0.here hx rfl (hb hby d25_0) rfl rfl kQ) ?_
  show G (s₁.setTop (mkF me_ 1 #[.val (.ref a), .val (.int (1 : Int32))] [(.ref a)]))
  obtain ⟨T402, X402, e402, st402⟩ := getF X0 hx hZ hown (host := "") (Or.inl (hw _ (List.mem_of_getElem? (i := 24) rfl))) Via.refl e0 u0 (g := (mkF me_ 1 #[.val (.ref a), .val (.int (1 : Int32))] [(.ref a)])) rfl rfl (hb hby d25_1)
  refine gv st402 ?_
  show G (T402.setTop (mkF me_ 4 #[.val (.ref a), .val (.int (1 : Int32))] [(.ref b)]))
  refine gv (fun tQ kQ => XS.iloadN X402.here hx rfl (hb hby d25_4) rfl kQ) ?_
  show G (T402.setTop (mkF me_ 5 #[.val (.ref a), .val (.int (1 : Int32))] [(.int (1 : Int32)), (.ref b)]))
  obtain ⟨cl403, Ar403, q403, S403, n403, H403, G403⟩ := (id u1)
  have in403 : ¬ ((1 : Int32) < 0 ∨ cl403.slots.size ≤ ((1 : Int32)).toNatClampNeg) := inb_of S403 ⟨by decide, by decide⟩
  refine gv (X402.aaload hx (j := (1 : Int32)) (v := (.ref r1)) (by rw [e402]; exact Ar403.1) (State.isArrayOf_alike hZ.alike Ar403.2.1) rfl Ar403.2.2 in403 (Has.at H403 in403 rfl) (g := (mkF me_ 5 #[.val (.ref a), .val (.int (1 : Int32))] [(.int (1 : Int32)), (.ref b)])) rfl rfl (hb hby d25_5)) ?_
  show G (T402.setTop (mkF me_ 6 #[.val (.ref a), .val (.int (1 : Int32))] [(.ref r1)]))
  refine gf _ (own_ret X402 Bd.notSynchronized (v := some (.ref r1)) (fun h => by rw [Bd.returns] at h; cases h) ?_ (by decide) (by decide) (fun fs hr => retOut X402 hx (t := (.object "java/lang/Object")) Bd.returns rfl (Or.inr (Or.inr (Or.inr (Or.inr ⟨rfl, rfl, rfl⟩)))) (hb hby d25_6) hr))
  show Q_ed3_1 Z a b k r0 r1 r2 h0 n0 _ T402.heap _
  rw [e402]
  exact ⟨rfl, N0, rfl⟩
def Q_get3_1 (Z : State) (a : Addr) (b : Addr) (k : ClassId) (r0 : Addr) (r1 : Addr) (r2 : Addr) (h0 : Heap) (n0 : Nat) (v : Option Value) (h : Heap) (L : List Loc) : Prop := v = some (.ref r1) ∧ Fr n0 L ∧ h = h0
set_option maxRecDepth 65536 in
set_option maxHeartbeats 40000000 in
theorem rm_get3_1 (l : Launch) (Z : State) (a0 : Array Value) (hw : ∀ d ∈ tables_1, d.before a0 Z = true) (ws : List Jvm.Cond) (a : Addr) (b : Addr) (k : ClassId) (r0 : Addr) (r1 : Addr) (r2 : Addr) (h0 : Heap) (n0 : Nat) (O0 : Old Z n0 h0) (u0 : Exa Z h0 a "java/util/ArrayList") (u1 : Fld Z h0 a "java/util/ArrayList" "elementData" "[Ljava/lang/Object;" (.ref b)) (u2 : Fld Z h0 a "java/util/ArrayList" "size" "I" (.int (3 : Int32))) (u3 : Arv Z h0 b k (.object "java/lang/Object") (10 : Int32) [(.ref r0), (.ref r1), (.ref r2), .null, .null, .null, .null, .null, .null, .null] .null) :
    MetFree l (⟨"java/util/ArrayList", "get", "(I)Ljava/lang/Object;"⟩ : MethodName) (head1 (Jvm.Cond.code (⟨"java/util/ArrayList", "get", "(I)Ljava/lang/Object;"⟩ : MethodName) jdk_38_method_20_code 2 (some (.object "java/lang/Object")) :: ws) ({ frames := 2, cells := 0, slots := 0, locals := 27 } : Room)) (fun aV U => aV = #[(.ref a), (.int (1 : Int32))] ∧ Z.Warmed39 U.vm ∧ U.heap = h0) (fun _ _ _ _ _ => True) (fun _ U o U' => ∃ v L, o = .returned v ∧ Q_get3_1 Z a b k r0 r1 r2 h0 n0 v U'.heap L ∧ FrameEnd U o U' L ({ frames := 2, cells := 0, slots := 0, locals := 27 } : Room).cells ({ frames := 2, cells := 0, slots := 0, locals := 27 } : Room).slots) := by
  refine MetFree.of_bodySF (plainFor_of_name pn_4) hisR ?_
  intro pr_ en_ st_ me_ args below meth_ co_ s₁ Bd hml0 hP hK
  obtain ⟨rfl, hZ, hh⟩ := hP
  have hx := Bd.exec
  have hby := Bd.bytes
  have hml : co_.maxLocals = 2 := hml0
  have hown : st_.vm.findClass "java/util/ArrayList" = some me_.cls := findClass_of_methodNamed Bd.named
  have hnm := (name_of_methodNamed Bd.named Bd.method).1
  have X0 : Stand pr_ l en_ ({ frames := 2, cells := 0, slots := 0, locals := 27 } : Room) st_ me_ #[(.ref a), (.int (1 : Int32))] below meth_ co_ s₁ [] 0 0 := Stand.of_body Bd
  have e0 : s₁.heap = h0 := by rw [← hh, Bd.state]; rfl
  have N0 := Fr.nil n0
  have K0 := Keep.refl h0 []
  obtain ⟨G, gv, gf, gb⟩ := own_G pr_.tables en_ below st_ (Q_get3_1 Z a b k r0 r1 r2 h0 n0) ({ frames := 2, cells := 0, slots := 0, locals := 27 } : Room).cells ({ frames := 2, cells := 0, slots := 0, locals := 27 } : Room).slots
  show own_Fin pr_.tables en_ below st_ (Q_get3_1 Z a b k r0 r1 r2 h0 n0) ({ frames := 2, cells := 0, slots := 0, locals := 27 } : Room).cells ({ frames := 2, cells := 0, slots := 0, locals := 27 } : Room).slots (s₁.setTop (entryFrame me_ #[(.ref a), (.int (1 : Int32))] 2))
  refine gb _ (gv (fun tQ kQ => castTop (ef_1 me_ a (1 : Int32)) kQ) ?_)
  show G (s₁.setTop (mkF me_ 0 #[.val (.ref a), .val (.int (1 : Int32))] []))
  refine gv (fun tQ kQ => XS.iloadN X0.here hx rfl (hb hby d22_0) rfl kQ) ?_
  show G (s₁.setTop (mkF me_ 1 #[.val (.ref a), .val (.int (1 : Int32))] [(.int (1 : Int32))]))
  refine gv (fun tQ kQ => XS.aloadN X0.here hx rfl (hb hby d22_1) rfl rfl kQ) ?_
  show G (s₁.setTop (mkF me_ 2 #[.val (.ref a), .val (.int (1 : Int32))] [(.ref a), (.int (1 : Int32))]))
  obtain ⟨T404, X404, e404, st404⟩ := getF X0 hx hZ hown (host := "") (Or.inl (hw _ (List.mem_of_getElem? (i := 65) rfl))) Via.refl e0 u2 (g := (mkF me_ 2 #[.val (.ref a), .val (.int (1 : Int32))] [(.ref a), (.int (1 : Int32))])) rfl rfl (hb hby d22_2)
  refine gv st404 ?_
  show G (T404.setTop (mkF me_ 5 #[.val (.ref a), .val (.int (1 : Int32))] [(.int (3 : Int32)), (.int (1 : Int32))]))
  obtain ⟨_, _, ⟨T405, L405, k405, n405⟩, -, X405, ⟨Lc405, hQ405, l405, y405, z405⟩, st405⟩ := Jvm.LawKit.callS X404 hx (y := (⟨"java/util/Objects", "checkIndex", "(II)I"⟩ : MethodName)) hown (mvT hZ (hw _ (List.mem_of_getElem? (i := 128) rfl))) (mvT hZ (hw _ (List.mem_of_getElem? (i := 129) rfl))) (mvT hZ (hw _ (List.mem_of_getElem? (i := 130) rfl))) (mvT hZ (hw _ (List.mem_of_getElem? (i := 131) rfl))) (by decide) (backOf (W := 0) (rm_oci3_1 l Z a0 hw []  h0 n0 O0 ) hZ (hw _ (List.mem_of_getElem? (i := 131) rfl)) (hw _ (List.mem_of_getElem? (i := 130) rfl)) (by decide) (by decide)) (g := (mkF me_ 5 #[.val (.ref a), .val (.int (1 : Int32))] [(.int (3 : Int32)), (.int (1 : Int32))])) rfl (by rw [hml]; rfl) (argsL := [(.int (1 : Int32)), (.int (3 : Int32))]) (rest := []) (lenOf pd_2 rfl) rfl (by show 2 * 0 + _ ≤ _; exact Nat.le_of_eq rfl) (hb hby d22_5) (fun _ _ => ⟨rfl, e404, (by decide : 0 + 0 ≤ _), (by decide : 0 + 0 ≤ _)⟩)
  dsimp only [Pt.U, Pt.locs, Pt.cells, Pt.slots] at X405 l405 y405 z405 st405 hQ405
  subst l405 y405 z405
  obtain ⟨rfl, Nq405, eq405⟩ := hQ405
  have N406 := Fr.app N0 Nq405
  refine gv st405 ?_
  show G (T405.setTop (mkF me_ 8 #[.val (.ref a), .val (.int (1 : Int32))] [(.int (1 : Int32))]))
  refine gv (fun tQ kQ => XS.pop X405.here hx rfl (hb hby d22_8) rfl rfl kQ) ?_
  show G (T405.setTop (mkF me_ 9 #[.val (.ref a), .val (.int (1 : Int32))] []))
  refine gv (fun tQ kQ => XS.aloadN X405.here hx rfl (hb hby d22_9) rfl rfl kQ) ?_
  show G (T405.setTop (mkF me_ 10 #[.val (.ref a), .val (.int (1 : Int32))] [(.ref a)]))
  refine gv (fun tQ kQ => XS.iloadN X405.here hx rfl (hb hby d22_10) rfl kQ) ?_
  show G (T405.setTop (mkF me_ 11 #[.val (.ref a), .val (.int (1 : Int32))] [(.int (1 : Int32)), (.ref a)]))
  obtain ⟨cq407, kq407, q407a, q407b, q407c⟩ := isOf hZ eq405 u0
  obtain ⟨_, _, ⟨T407, L407, k407, n407⟩, -, X407, ⟨Lc407, hQ407, l407, y407, z407⟩, st407⟩ := X405.virtualBack hx (y := (⟨"java/util/ArrayList", "elementData", "(I)Ljava/lang/Object;"⟩ : MethodName)) (z := (⟨"java/util/ArrayList", "elementData", "(I)Ljava/lang/Object;"⟩ : MethodName)) hown (mvT hZ (hw _ (List.mem_of_getElem? (i := 136) rfl))) (mvT hZ (hw _ (List.mem_of_getElem? (i := 137) rfl))) (notFace_of_selects (args := #[]) (mvT hZ (hw _ (List.mem_of_getElem? (i := 139) rfl)))) (mvT hZ (hw _ (List.mem_of_getElem? (i := 139) rfl))) (mvT hZ (hw _ (List.mem_of_getElem? (i := 138) rfl))) (by decide) (backOf (W := 0) (rm_ed3_1 l Z a0 hw [] a b k r0 r1 r2 h0 n0 O0 u1 u3) hZ (hw _ (List.mem_of_getElem? (i := 140) rfl)) (hw _ (List.mem_of_getElem? (i := 2) rfl)) (by decide) (by decide)) q407a q407c (g := (mkF me_ 11 #[.val (.ref a), .val (.int (1 : Int32))] [(.int (1 : Int32)), (.ref a)])) rfl (by rw [hml]; rfl) (Steps.refl _) (argsL := [(.int (1 : Int32))]) (rest := []) (lenOf pd_14 rfl) rfl (by show 2 * 0 + _ ≤ _; exact Nat.le_of_eq rfl) (hb hby d22_11) (fun _ _ => ⟨rfl, eq405, (by decide : 0 + 0 ≤ _), (by decide : 0 + 0 ≤ _)⟩)
  dsimp only [Pt.U, Pt.locs, Pt.cells, Pt.slots] at X407 l407 y407 z407 st407 hQ407
  subst l407 y407 z407
  obtain ⟨rfl, Nq407, eq407⟩ := hQ407
  have N408 := Fr.app N406 Nq407
  refine gv (fun tQ kQ => st407.trans kQ) ?_
  show G (T407.setTop (mkF me_ 14 #[.val (.ref a), .val (.int (1 : Int32))] [(.ref r1)]))
  refine gf _ (own_ret X407 Bd.notSynchronized (v := some (.ref r1)) (fun h => by rw [Bd.returns] at h; cases h) ?_ (by decide) (by decide) (fun fs hr => retOut X407 hx (t := (.object "java/lang/Object")) Bd.returns rfl (Or.inr (Or.inr (Or.inr (Or.inr ⟨rfl, rfl, rfl⟩)))) (hb hby d22_14) hr))
  show Q_get3_1 Z a b k r0 r1 r2 h0 n0 _ T407.heap _
  rw [eq407]
  exact ⟨rfl, N408, rfl⟩
def Q_pci3_2 (Z : State)  (h0 : Heap) (n0 : Nat) (v : Option Value) (h : Heap) (L : List Loc) : Prop := v = some (.int (2 : Int32)) ∧ Fr n0 L ∧ h = h0
set_option maxRecDepth 65536 in
set_option maxHeartbeats 40000000 in
theorem rm_pci3_2 (l : Launch) (Z : State) (a0 : Array Value) (hw : ∀ d ∈ tables_1, d.before a0 Z = true) (ws : List Jvm.Cond)  (h0 : Heap) (n0 : Nat) (O0 : Old Z n0 h0)  :
    MetFree l (⟨"jdk/internal/util/Preconditions", "checkIndex", "(IILjava/util/function/BiFunction;)I"⟩ : MethodName) (head1 (Jvm.Cond.code (⟨"jdk/internal/util/Preconditions", "checkIndex", "(IILjava/util/function/BiFunction;)I"⟩ : MethodName) jdk_41_method_11_code 3 (some .int) :: ws) ({ frames := 0, cells := 0, slots := 0, locals := 0 } : Room)) (fun aV U => aV = #[(.int (2 : Int32)), (.int (3 : Int32)), .null] ∧ Z.Warmed39 U.vm ∧ U.heap = h0) (fun _ _ _ _ _ => True) (fun _ U o U' => ∃ v L, o = .returned v ∧ Q_pci3_2 Z  h0 n0 v U'.heap L ∧ FrameEnd U o U' L ({ frames := 0, cells := 0, slots := 0, locals := 0 } : Room).cells ({ frames := 0, cells := 0, slots := 0, locals := 0 } : Room).slots) := by
  refine MetFree.of_bodySF (plainFor_of_name pn_9) hisR ?_
  intro pr_ en_ st_ me_ args below meth_ co_ s₁ Bd hml0 hP hK
  obtain ⟨rfl, hZ, hh⟩ := hP
  have hx := Bd.exec
  have hby := Bd.bytes
  have hml : co_.maxLocals = 3 := hml0
  have hown : st_.vm.findClass "jdk/internal/util/Preconditions" = some me_.cls := findClass_of_methodNamed Bd.named
  have hnm := (name_of_methodNamed Bd.named Bd.method).1
  have X0 : Stand pr_ l en_ ({ frames := 0, cells := 0, slots := 0, locals := 0 } : Room) st_ me_ #[(.int (2 : Int32)), (.int (3 : Int32)), .null] below meth_ co_ s₁ [] 0 0 := Stand.of_body Bd
  have e0 : s₁.heap = h0 := by rw [← hh, Bd.state]; rfl
  have N0 := Fr.nil n0
  have K0 := Keep.refl h0 []
  obtain ⟨G, gv, gf, gb⟩ := own_G pr_.tables en_ below st_ (Q_pci3_2 Z  h0 n0) ({ frames := 0, cells := 0, slots := 0, locals := 0 } : Room).cells ({ frames := 0, cells := 0, slots := 0, locals := 0 } : Room).slots
  show own_Fin pr_.tables en_ below st_ (Q_pci3_2 Z  h0 n0) ({ frames := 0, cells := 0, slots := 0, locals := 0 } : Room).cells ({ frames := 0, cells := 0, slots := 0, locals := 0 } : Room).slots (s₁.setTop (entryFrame me_ #[(.int (2 : Int32)), (.int (3 : Int32)), .null] 3))
  refine gb _ (gv (fun tQ kQ => castTop (ef_12 me_ (2 : Int32) (3 : Int32)) kQ) ?_)
  show G (s₁.setTop (mkF me_ 0 #[.val (.int (2 : Int32)), .val (.int (3 : Int32)), .val .null] []))
  refine gv (fun tQ kQ => XS.iloadN X0.here hx rfl (hb hby d24_0) rfl kQ) ?_
  show G (s₁.setTop (mkF me_ 1 #[.val (.int (2 : Int32)), .val (.int (3 : Int32)), .val .null] [(.int (2 : Int32))]))
  refine gv (fun tQ kQ => XS.ifNo X0.here hx rfl (hb hby d24_1) rfl ((if0 _ _).trans (flt (by decide : ¬ ((2 : Int32) < (0 : Int32)))).1) kQ) ?_
  show G (s₁.setTop (mkF me_ 4 #[.val (.int (2 : Int32)), .val (.int (3 : Int32)), .val .null] []))
  refine gv (fun tQ kQ => XS.iloadN X0.here hx rfl (hb hby d24_4) rfl kQ) ?_
  show G (s₁.setTop (mkF me_ 5 #[.val (.int (2 : Int32)), .val (.int (3 : Int32)), .val .null] [(.int (2 : Int32))]))
  refine gv (fun tQ kQ => XS.iloadN X0.here hx rfl (hb hby d24_5) rfl kQ) ?_
  show G (s₁.setTop (mkF me_ 6 #[.val (.int (2 : Int32)), .val (.int (3 : Int32)), .val .null] [(.int (3 : Int32)), (.int (2 : Int32))]))
  refine gv (fun tQ kQ => XS.icmpYes X0.here hx rfl (pc0 := 6) (pc' := 16) rfl (hb hby d24_6) rfl (tlt (by decide : (2 : Int32) < (3 : Int32))).1 (by decide) (by decide) kQ) ?_
  show G (s₁.setTop (mkF me_ 16 #[.val (.int (2 : Int32)), .val (.int (3 : Int32)), .val .null] []))
  refine gv (fun tQ kQ => XS.iloadN X0.here hx rfl (hb hby d24_16) rfl kQ) ?_
  show G (s₁.setTop (mkF me_ 17 #[.val (.int (2 : Int32)), .val (.int (3 : Int32)), .val .null] [(.int (2 : Int32))]))
  refine gf _ (own_ret X0 Bd.notSynchronized (v := some (.int (2 : Int32))) (fun h => by rw [Bd.returns] at h; cases h) ?_ (by decide) (by decide) (fun fs hr => retOut X0 hx (t := .int) Bd.returns rfl (Or.inl ⟨rfl, Or.inl rfl, _, rfl⟩) (hb hby d24_17) hr))
  show Q_pci3_2 Z  h0 n0 _ s₁.heap _
  rw [e0]
  exact ⟨rfl, N0, rfl⟩
def Q_oci3_2 (Z : State)  (h0 : Heap) (n0 : Nat) (v : Option Value) (h : Heap) (L : List Loc) : Prop := v = some (.int (2 : Int32)) ∧ Fr n0 L ∧ h = h0
set_option maxRecDepth 65536 in
set_option maxHeartbeats 40000000 in
theorem rm_oci3_2 (l : Launch) (Z : State) (a0 : Array Value) (hw : ∀ d ∈ tables_1, d.before a0 Z = true) (ws : List Jvm.Cond)  (h0 : Heap) (n0 : Nat) (O0 : Old Z n0 h0)  :
    MetFree l (⟨"java/util/Objects", "checkIndex", "(II)I"⟩ : MethodName) (head1 (Jvm.Cond.code (⟨"java/util/Objects", "checkIndex", "(II)I"⟩ : MethodName) jdk_31_method_17_code 2 (some .int) :: ws) ({ frames := 1, cells := 0, slots := 0, locals := 14 } : Room)) (fun aV U => aV = #[(.int (2 : Int32)), (.int (3 : Int32))] ∧ Z.Warmed39 U.vm ∧ U.heap = h0) (fun _ _ _ _ _ => True) (fun _ U o U' => ∃ v L, o = .returned v ∧ Q_oci3_2 Z  h0 n0 v U'.heap L ∧ FrameEnd U o U' L ({ frames := 1, cells := 0, slots := 0, locals := 14 } : Room).cells ({ frames := 1, cells := 0, slots := 0, locals := 14 } : Room).slots) := by
  refine MetFree.of_bodySF (plainFor_of_name pn_10) hisR ?_
  intro pr_ en_ st_ me_ args below meth_ co_ s₁ Bd hml0 hP hK
  obtain ⟨rfl, hZ, hh⟩ := hP
  have hx := Bd.exec
  have hby := Bd.bytes
  have hml : co_.maxLocals = 2 := hml0
  have hown : st_.vm.findClass "java/util/Objects" = some me_.cls := findClass_of_methodNamed Bd.named
  have hnm := (name_of_methodNamed Bd.named Bd.method).1
  have X0 : Stand pr_ l en_ ({ frames := 1, cells := 0, slots := 0, locals := 14 } : Room) st_ me_ #[(.int (2 : Int32)), (.int (3 : Int32))] below meth_ co_ s₁ [] 0 0 := Stand.of_body Bd
  have e0 : s₁.heap = h0 := by rw [← hh, Bd.state]; rfl
  have N0 := Fr.nil n0
  have K0 := Keep.refl h0 []
  obtain ⟨G, gv, gf, gb⟩ := own_G pr_.tables en_ below st_ (Q_oci3_2 Z  h0 n0) ({ frames := 1, cells := 0, slots := 0, locals := 14 } : Room).cells ({ frames := 1, cells := 0, slots := 0, locals := 14 } : Room).slots
  show own_Fin pr_.tables en_ below st_ (Q_oci3_2 Z  h0 n0) ({ frames := 1, cells := 0, slots := 0, locals := 14 } : Room).cells ({ frames := 1, cells := 0, slots := 0, locals := 14 } : Room).slots (s₁.setTop (entryFrame me_ #[(.int (2 : Int32)), (.int (3 : Int32))] 2))
  refine gb _ (gv (fun tQ kQ => castTop (ef_3 me_ (2 : Int32) (3 : Int32)) kQ) ?_)
  show G (s₁.setTop (mkF me_ 0 #[.val (.int (2 : Int32)), .val (.int (3 : Int32))] []))
  refine gv (fun tQ kQ => XS.iloadN X0.here hx rfl (hb hby d23_0) rfl kQ) ?_
  show G (s₁.setTop (mkF me_ 1 #[.val (.int (2 : Int32)), .val (.int (3 : Int32))] [(.int (2 : Int32))]))
  refine gv (fun tQ kQ => XS.iloadN X0.here hx rfl (hb hby d23_1) rfl kQ) ?_
  show G (s₁.setTop (mkF me_ 2 #[.val (.int (2 : Int32)), .val (.int (3 : Int32))] [(.int (3 : Int32)), (.int (2 : Int32))]))
  refine gv (fun tQ kQ => XS.aconstNull X0.here hx rfl (hb hby d23_2) kQ) ?_
  show G (s₁.setTop (mkF me_ 3 #[.val (.int (2 : Int32)), .val (.int (3 : Int32))] [.null, (.int (3 : Int32)), (.int (2 : Int32))]))
  obtain ⟨_, _, ⟨T409, L409, k409, n409⟩, -, X409, ⟨Lc409, hQ409, l409, y409, z409⟩, st409⟩ := Jvm.LawKit.callS X0 hx (y := (⟨"jdk/internal/util/Preconditions", "checkIndex", "(IILjava/util/function/BiFunction;)I"⟩ : MethodName)) hown (mvT hZ (hw _ (List.mem_of_getElem? (i := 132) rfl))) (mvT hZ (hw _ (List.mem_of_getElem? (i := 133) rfl))) (mvT hZ (hw _ (List.mem_of_getElem? (i := 134) rfl))) (mvT hZ (hw _ (List.mem_of_getElem? (i := 135) rfl))) (by decide) (backOf (W := 0) (rm_pci3_2 l Z a0 hw []  h0 n0 O0 ) hZ (hw _ (List.mem_of_getElem? (i := 135) rfl)) (hw _ (List.mem_of_getElem? (i := 134) rfl)) (by decide) (by decide)) (g := (mkF me_ 3 #[.val (.int (2 : Int32)), .val (.int (3 : Int32))] [.null, (.int (3 : Int32)), (.int (2 : Int32))])) rfl (by rw [hml]; rfl) (argsL := [(.int (2 : Int32)), (.int (3 : Int32)), .null]) (rest := []) (lenOf pd_13 rfl) rfl (by show 2 * 0 + _ ≤ _; exact Nat.le_of_eq rfl) (hb hby d23_3) (fun _ _ => ⟨rfl, e0, (by decide : 0 + 0 ≤ _), (by decide : 0 + 0 ≤ _)⟩)
  dsimp only [Pt.U, Pt.locs, Pt.cells, Pt.slots] at X409 l409 y409 z409 st409 hQ409
  subst l409 y409 z409
  obtain ⟨rfl, Nq409, eq409⟩ := hQ409
  have N410 := Fr.app N0 Nq409
  refine gv st409 ?_
  show G (T409.setTop (mkF me_ 6 #[.val (.int (2 : Int32)), .val (.int (3 : Int32))] [(.int (2 : Int32))]))
  refine gf _ (own_ret X409 Bd.notSynchronized (v := some (.int (2 : Int32))) (fun h => by rw [Bd.returns] at h; cases h) ?_ (by decide) (by decide) (fun fs hr => retOut X409 hx (t := .int) Bd.returns rfl (Or.inl ⟨rfl, Or.inl rfl, _, rfl⟩) (hb hby d23_6) hr))
  show Q_oci3_2 Z  h0 n0 _ T409.heap _
  rw [eq409]
  exact ⟨rfl, N410, rfl⟩
def Q_ed3_2 (Z : State) (a : Addr) (b : Addr) (k : ClassId) (r0 : Addr) (r1 : Addr) (r2 : Addr) (h0 : Heap) (n0 : Nat) (v : Option Value) (h : Heap) (L : List Loc) : Prop := v = some (.ref r2) ∧ Fr n0 L ∧ h = h0
set_option maxRecDepth 65536 in
set_option maxHeartbeats 40000000 in
theorem rm_ed3_2 (l : Launch) (Z : State) (a0 : Array Value) (hw : ∀ d ∈ tables_1, d.before a0 Z = true) (ws : List Jvm.Cond) (a : Addr) (b : Addr) (k : ClassId) (r0 : Addr) (r1 : Addr) (r2 : Addr) (h0 : Heap) (n0 : Nat) (O0 : Old Z n0 h0) (u0 : Fld Z h0 a "java/util/ArrayList" "elementData" "[Ljava/lang/Object;" (.ref b)) (u1 : Arv Z h0 b k (.object "java/lang/Object") (10 : Int32) [(.ref r0), (.ref r1), (.ref r2), .null, .null, .null, .null, .null, .null, .null] .null) :
    MetFree l (⟨"java/util/ArrayList", "elementData", "(I)Ljava/lang/Object;"⟩ : MethodName) (head1 (Jvm.Cond.code (⟨"java/util/ArrayList", "elementData", "(I)Ljava/lang/Object;"⟩ : MethodName) jdk_38_method_18_code 2 (some (.object "java/lang/Object")) :: ws) ({ frames := 0, cells := 0, slots := 0, locals := 0 } : Room)) (fun aV U => aV = #[(.ref a), (.int (2 : Int32))] ∧ Z.Warmed39 U.vm ∧ U.heap = h0) (fun _ _ _ _ _ => True) (fun _ U o U' => ∃ v L, o = .returned v ∧ Q_ed3_2 Z a b k r0 r1 r2 h0 n0 v U'.heap L ∧ FrameEnd U o U' L ({ frames := 0, cells := 0, slots := 0, locals := 0 } : Room).cells ({ frames := 0, cells := 0, slots := 0, locals := 0 } : Room).slots) := by
  refine MetFree.of_bodySF (plainFor_of_name pn_4) hisR ?_
  intro pr_ en_ st_ me_ args below meth_ co_ s₁ Bd hml0 hP hK
  obtain ⟨rfl, hZ, hh⟩ := hP
  have hx := Bd.exec
  have hby := Bd.bytes
  have hml : co_.maxLocals = 2 := hml0
  have hown : st_.vm.findClass "java/util/ArrayList" = some me_.cls := findClass_of_methodNamed Bd.named
  have hnm := (name_of_methodNamed Bd.named Bd.method).1
  have X0 : Stand pr_ l en_ ({ frames := 0, cells := 0, slots := 0, locals := 0 } : Room) st_ me_ #[(.ref a), (.int (2 : Int32))] below meth_ co_ s₁ [] 0 0 := Stand.of_body Bd
  have e0 : s₁.heap = h0 := by rw [← hh, Bd.state]; rfl
  have N0 := Fr.nil n0
  have K0 := Keep.refl h0 []
  obtain ⟨G, gv, gf, gb⟩ := own_G pr_.tables en_ below st_ (Q_ed3_2 Z a b k r0 r1 r2 h0 n0) ({ frames := 0, cells := 0, slots := 0, locals := 0 } : Room).cells ({ frames := 0, cells := 0, slots := 0, locals := 0 } : Room).slots
  show own_Fin pr_.tables en_ below st_ (Q_ed3_2 Z a b k r0 r1 r2 h0 n0) ({ frames := 0, cells := 0, slots := 0, locals := 0 } : Room).cells ({ frames := 0, cells := 0, slots := 0, locals := 0 } : Room).slots (s₁.setTop (entryFrame me_ #[(.ref a), (.int (2 : Int32))] 2))
  refine gb _ (gv (fun tQ kQ => castTop (ef_1 me_ a (2 : Int32)) kQ) ?_)
  show G (s₁.setTop (mkF me_ 0 #[.val (.ref a), .val (.int (2 : Int32))] []))
  refine gv (fun tQ kQ => XS.aloadN X0.here hx rfl (hb hby d25_0) rfl rfl kQ) ?_
  show G (s₁.setTop (mkF me_ 1 #[.val (.ref a), .val (.int (2 : Int32))] [(.ref a)]))
  obtain ⟨T411, X411, e411, st411⟩ := getF X0 hx hZ hown (host := "") (Or.inl (hw _ (List.mem_of_getElem? (i := 24) rfl))) Via.refl e0 u0 (g := (mkF me_ 1 #[.val (.ref a), .val (.int (2 : Int32))] [(.ref a)])) rfl rfl (hb hby d25_1)
  refine gv st411 ?_
  show G (T411.setTop (mkF me_ 4 #[.val (.ref a), .val (.int (2 : Int32))] [(.ref b)]))
  refine gv (fun tQ kQ => XS.iloadN X411.here hx rfl (hb hby d25_4) rfl kQ) ?_
  show G (T411.setTop (mkF me_ 5 #[.val (.ref a), .val (.int (2 : Int32))] [(.int (2 : Int32)), (.ref b)]))
  obtain ⟨cl412, Ar412, q412, S412, n412, H412, G412⟩ := (id u1)
  have in412 : ¬ ((2 : Int32) < 0 ∨ cl412.slots.size ≤ ((2 : Int32)).toNatClampNeg) := inb_of S412 ⟨by decide, by decide⟩
  refine gv (X411.aaload hx (j := (2 : Int32)) (v := (.ref r2)) (by rw [e411]; exact Ar412.1) (State.isArrayOf_alike hZ.alike Ar412.2.1) rfl Ar412.2.2 in412 (Has.at H412 in412 rfl) (g := (mkF me_ 5 #[.val (.ref a), .val (.int (2 : Int32))] [(.int (2 : Int32)), (.ref b)])) rfl rfl (hb hby d25_5)) ?_
  show G (T411.setTop (mkF me_ 6 #[.val (.ref a), .val (.int (2 : Int32))] [(.ref r2)]))
  refine gf _ (own_ret X411 Bd.notSynchronized (v := some (.ref r2)) (fun h => by rw [Bd.returns] at h; cases h) ?_ (by decide) (by decide) (fun fs hr => retOut X411 hx (t := (.object "java/lang/Object")) Bd.returns rfl (Or.inr (Or.inr (Or.inr (Or.inr ⟨rfl, rfl, rfl⟩)))) (hb hby d25_6) hr))
  show Q_ed3_2 Z a b k r0 r1 r2 h0 n0 _ T411.heap _
  rw [e411]
  exact ⟨rfl, N0, rfl⟩
def Q_get3_2 (Z : State) (a : Addr) (b : Addr) (k : ClassId) (r0 : Addr) (r1 : Addr) (r2 : Addr) (h0 : Heap) (n0 : Nat) (v : Option Value) (h : Heap) (L : List Loc) : Prop := v = some (.ref r2) ∧ Fr n0 L ∧ h = h0
set_option maxRecDepth 65536 in
set_option maxHeartbeats 40000000 in
theorem rm_get3_2 (l : Launch) (Z : State) (a0 : Array Value) (hw : ∀ d ∈ tables_1, d.before a0 Z = true) (ws : List Jvm.Cond) (a : Addr) (b : Addr) (k : ClassId) (r0 : Addr) (r1 : Addr) (r2 : Addr) (h0 : Heap) (n0 : Nat) (O0 : Old Z n0 h0) (u0 : Exa Z h0 a "java/util/ArrayList") (u1 : Fld Z h0 a "java/util/ArrayList" "elementData" "[Ljava/lang/Object;" (.ref b)) (u2 : Fld Z h0 a "java/util/ArrayList" "size" "I" (.int (3 : Int32))) (u3 : Arv Z h0 b k (.object "java/lang/Object") (10 : Int32) [(.ref r0), (.ref r1), (.ref r2), .null, .null, .null, .null, .null, .null, .null] .null) :
    MetFree l (⟨"java/util/ArrayList", "get", "(I)Ljava/lang/Object;"⟩ : MethodName) (head1 (Jvm.Cond.code (⟨"java/util/ArrayList", "get", "(I)Ljava/lang/Object;"⟩ : MethodName) jdk_38_method_20_code 2 (some (.object "java/lang/Object")) :: ws) ({ frames := 2, cells := 0, slots := 0, locals := 27 } : Room)) (fun aV U => aV = #[(.ref a), (.int (2 : Int32))] ∧ Z.Warmed39 U.vm ∧ U.heap = h0) (fun _ _ _ _ _ => True) (fun _ U o U' => ∃ v L, o = .returned v ∧ Q_get3_2 Z a b k r0 r1 r2 h0 n0 v U'.heap L ∧ FrameEnd U o U' L ({ frames := 2, cells := 0, slots := 0, locals := 27 } : Room).cells ({ frames := 2, cells := 0, slots := 0, locals := 27 } : Room).slots) := by
  refine MetFree.of_bodySF (plainFor_of_name pn_4) hisR ?_
  intro pr_ en_ st_ me_ args below meth_ co_ s₁ Bd hml0 hP hK
  obtain ⟨rfl, hZ, hh⟩ := hP
  have hx := Bd.exec
  have hby := Bd.bytes
  have hml : co_.maxLocals = 2 := hml0
  have hown : st_.vm.findClass "java/util/ArrayList" = some me_.cls := findClass_of_methodNamed Bd.named
  have hnm := (name_of_methodNamed Bd.named Bd.method).1
  have X0 : Stand pr_ l en_ ({ frames := 2, cells := 0, slots := 0, locals := 27 } : Room) st_ me_ #[(.ref a), (.int (2 : Int32))] below meth_ co_ s₁ [] 0 0 := Stand.of_body Bd
  have e0 : s₁.heap = h0 := by rw [← hh, Bd.state]; rfl
  have N0 := Fr.nil n0
  have K0 := Keep.refl h0 []
  obtain ⟨G, gv, gf, gb⟩ := own_G pr_.tables en_ below st_ (Q_get3_2 Z a b k r0 r1 r2 h0 n0) ({ frames := 2, cells := 0, slots := 0, locals := 27 } : Room).cells ({ frames := 2, cells := 0, slots := 0, locals := 27 } : Room).slots
  show own_Fin pr_.tables en_ below st_ (Q_get3_2 Z a b k r0 r1 r2 h0 n0) ({ frames := 2, cells := 0, slots := 0, locals := 27 } : Room).cells ({ frames := 2, cells := 0, slots := 0, locals := 27 } : Room).slots (s₁.setTop (entryFrame me_ #[(.ref a), (.int (2 : Int32))] 2))
  refine gb _ (gv (fun tQ kQ => castTop (ef_1 me_ a (2 : Int32)) kQ) ?_)
  show G (s₁.setTop (mkF me_ 0 #[.val (.ref a), .val (.int (2 : Int32))] []))
  refine gv (fun tQ kQ => XS.iloadN X0.here hx rfl (hb hby d22_0) rfl kQ) ?_
  show G (s₁.setTop (mkF me_ 1 #[.val (.ref a), .val (.int (2 : Int32))] [(.int (2 : Int32))]))
  refine gv (fun tQ kQ => XS.aloadN X0.here hx rfl (hb hby d22_1) rfl rfl kQ) ?_
  show G (s₁.setTop (mkF me_ 2 #[.val (.ref a), .val (.int (2 : Int32))] [(.ref a), (.int (2 : Int32))]))
  obtain ⟨T413, X413, e413, st413⟩ := getF X0 hx hZ hown (host := "") (Or.inl (hw _ (List.mem_of_getElem? (i := 65) rfl))) Via.refl e0 u2 (g := (mkF me_ 2 #[.val (.ref a), .val (.int (2 : Int32))] [(.ref a), (.int (2 : Int32))])) rfl rfl (hb hby d22_2)
  refine gv st413 ?_
  show G (T413.setTop (mkF me_ 5 #[.val (.ref a), .val (.int (2 : Int32))] [(.int (3 : Int32)), (.int (2 : Int32))]))
  obtain ⟨_, _, ⟨T414, L414, k414, n414⟩, -, X414, ⟨Lc414, hQ414, l414, y414, z414⟩, st414⟩ := Jvm.LawKit.callS X413 hx (y := (⟨"java/util/Objects", "checkIndex", "(II)I"⟩ : MethodName)) hown (mvT hZ (hw _ (List.mem_of_getElem? (i := 128) rfl))) (mvT hZ (hw _ (List.mem_of_getElem? (i := 129) rfl))) (mvT hZ (hw _ (List.mem_of_getElem? (i := 130) rfl))) (mvT hZ (hw _ (List.mem_of_getElem? (i := 131) rfl))) (by decide) (backOf (W := 0) (rm_oci3_2 l Z a0 hw []  h0 n0 O0 ) hZ (hw _ (List.mem_of_getElem? (i := 131) rfl)) (hw _ (List.mem_of_getElem? (i := 130) rfl)) (by decide) (by decide)) (g := (mkF me_ 5 #[.val (.ref a), .val (.int (2 : Int32))] [(.int (3 : Int32)), (.int (2 : Int32))])) rfl (by rw [hml]; rfl) (argsL := [(.int (2 : Int32)), (.int (3 : Int32))]) (rest := []) (lenOf pd_2 rfl) rfl (by show 2 * 0 + _ ≤ _; exact Nat.le_of_eq rfl) (hb hby d22_5) (fun _ _ => ⟨rfl, e413, (by decide : 0 + 0 ≤ _), (by decide : 0 + 0 ≤ _)⟩)
  dsimp only [Pt.U, Pt.locs, Pt.cells, Pt.slots] at X414 l414 y414 z414 st414 hQ414
  subst l414 y414 z414
  obtain ⟨rfl, Nq414, eq414⟩ := hQ414
  have N415 := Fr.app N0 Nq414
  refine gv st414 ?_
  show G (T414.setTop (mkF me_ 8 #[.val (.ref a), .val (.int (2 : Int32))] [(.int (2 : Int32))]))
  refine gv (fun tQ kQ => XS.pop X414.here hx rfl (hb hby d22_8) rfl rfl kQ) ?_
  show G (T414.setTop (mkF me_ 9 #[.val (.ref a), .val (.int (2 : Int32))] []))
  refine gv (fun tQ kQ => XS.aloadN X414.here hx rfl (hb hby d22_9) rfl rfl kQ) ?_
  show G (T414.setTop (mkF me_ 10 #[.val (.ref a), .val (.int (2 : Int32))] [(.ref a)]))
  refine gv (fun tQ kQ => XS.iloadN X414.here hx rfl (hb hby d22_10) rfl kQ) ?_
  show G (T414.setTop (mkF me_ 11 #[.val (.ref a), .val (.int (2 : Int32))] [(.int (2 : Int32)), (.ref a)]))
  obtain ⟨cq416, kq416, q416a, q416b, q416c⟩ := isOf hZ eq414 u0
  obtain ⟨_, _, ⟨T416, L416, k416, n416⟩, -, X416, ⟨Lc416, hQ416, l416, y416, z416⟩, st416⟩ := X414.virtualBack hx (y := (⟨"java/util/ArrayList", "elementData", "(I)Ljava/lang/Object;"⟩ : MethodName)) (z := (⟨"java/util/ArrayList", "elementData", "(I)Ljava/lang/Object;"⟩ : MethodName)) hown (mvT hZ (hw _ (List.mem_of_getElem? (i := 136) rfl))) (mvT hZ (hw _ (List.mem_of_getElem? (i := 137) rfl))) (notFace_of_selects (args := #[]) (mvT hZ (hw _ (List.mem_of_getElem? (i := 139) rfl)))) (mvT hZ (hw _ (List.mem_of_getElem? (i := 139) rfl))) (mvT hZ (hw _ (List.mem_of_getElem? (i := 138) rfl))) (by decide) (backOf (W := 0) (rm_ed3_2 l Z a0 hw [] a b k r0 r1 r2 h0 n0 O0 u1 u3) hZ (hw _ (List.mem_of_getElem? (i := 140) rfl)) (hw _ (List.mem_of_getElem? (i := 2) rfl)) (by decide) (by decide)) q416a q416c (g := (mkF me_ 11 #[.val (.ref a), .val (.int (2 : Int32))] [(.int (2 : Int32)), (.ref a)])) rfl (by rw [hml]; rfl) (Steps.refl _) (argsL := [(.int (2 : Int32))]) (rest := []) (lenOf pd_14 rfl) rfl (by show 2 * 0 + _ ≤ _; exact Nat.le_of_eq rfl) (hb hby d22_11) (fun _ _ => ⟨rfl, eq414, (by decide : 0 + 0 ≤ _), (by decide : 0 + 0 ≤ _)⟩)
  dsimp only [Pt.U, Pt.locs, Pt.cells, Pt.slots] at X416 l416 y416 z416 st416 hQ416
  subst l416 y416 z416
  obtain ⟨rfl, Nq416, eq416⟩ := hQ416
  have N417 := Fr.app N415 Nq416
  refine gv (fun tQ kQ => st416.trans kQ) ?_
  show G (T416.setTop (mkF me_ 14 #[.val (.ref a), .val (.int (2 : Int32))] [(.ref r2)]))
  refine gf _ (own_ret X416 Bd.notSynchronized (v := some (.ref r2)) (fun h => by rw [Bd.returns] at h; cases h) ?_ (by decide) (by decide) (fun fs hr => retOut X416 hx (t := (.object "java/lang/Object")) Bd.returns rfl (Or.inr (Or.inr (Or.inr (Or.inr ⟨rfl, rfl, rfl⟩)))) (hb hby d22_14) hr))
  show Q_get3_2 Z a b k r0 r1 r2 h0 n0 _ T416.heap _
  rw [eq416]
  exact ⟨rfl, N417, rfl⟩
theorem ef_13 (m : MethodId) (x0 : Int32) (x1 : Int32) (x2 : Int32) (x3 : Int32) (x4 : Int32) (x5 : Int32)  : entryFrame m #[(.int x0), (.int x1), (.int x2), (.int x3), (.int x4), (.int x5)] maxLocals = mkF m 0 #[.val (.int x0), .val (.int x1), .val (.int x2), .val (.int x3), .val (.int x4), .val (.int x5), .unset, .unset, .unset, .unset, .unset] [] := by first | (simp [entryFrame, mkF, argsToLocals, Value.category, maxLocals]; done) | rfl
theorem pn_11 : plainName "com/example/slot1/slot1/balance/OptionsArrayPinLaw" = true := by first | (simp [plainName, overriddenIn]; done) | decide +kernel
theorem pd_15 : parseMethodDescriptor "(C)Ljava/lang/String;" = some ⟨[.char], some (.object "java/lang/String")⟩ := by decide +kernel
theorem pd_16 : parseMethodDescriptor "(Ljava/lang/Object;Ljava/lang/String;)Ljava/util/List;" = some ⟨[(.object "java/lang/Object"), (.object "java/lang/String")], some (.object "java/util/List")⟩ := by decide +kernel
theorem pd_17 : parseMethodDescriptor "()I" = some ⟨[], some .int⟩ := by decide +kernel
theorem pd_18 : parseMethodDescriptor "([C)V" = some ⟨[(.array .char)], none⟩ := by decide +kernel
theorem pd_19 : parseMethodDescriptor "(I)Ljava/lang/Integer;" = some ⟨[.int], some (.object "java/lang/Integer")⟩ := by decide +kernel
theorem pd_20 : parseMethodDescriptor "(Ljava/lang/Object;)Z" = some ⟨[(.object "java/lang/Object")], some .boolean⟩ := by decide +kernel
def Q0 (Z : State) (p0 : Int32) (p1 : Int32) (p2 : Int32) (p3 : Int32) (p4 : Int32) (p5 : Int32) (cA : Addr) (bxc : Cell) (dA : Addr) (dk : ClassId) (cs : Int32) (h0 : Heap) (n0 : Nat) (v : Option Value) (h : Heap) (L : List Loc) : Prop := v = some (.int (1 : Int32)) ∧ Fr n0 L
set_option maxRecDepth 65536 in
set_option maxHeartbeats 40000000 in
theorem rm0 (l : Launch) (Z : State) (a0 : Array Value) (hw : ∀ d ∈ tables_1, d.before a0 Z = true) (ws : List Jvm.Cond) (p0 : Int32) (p1 : Int32) (p2 : Int32) (p3 : Int32) (p4 : Int32) (p5 : Int32) (cA : Addr) (bxc : Cell) (dA : Addr) (dk : ClassId) (cs : Int32) (h0 : Heap) (n0 : Nat) (O0 : Old Z n0 h0) (u0 : Sta Z Z.heap "java/lang/Integer$IntegerCache" "high" "I" (.int (127 : Int32))) (u1 : Sta Z Z.heap "java/lang/Integer$IntegerCache" "cache" "[Ljava/lang/Integer;" (.ref cA)) (u2 : (Bxs Z cA bxc "java/lang/Integer" "I" (256 : Int32) (fun j => Value.int (j - (128 : Int32))))) (u3 : Sta Z Z.heap "java/util/ArrayList" "DEFAULTCAPACITY_EMPTY_ELEMENTDATA" "[Ljava/lang/Object;" (.ref dA)) (u4 : Arv Z Z.heap dA dk (.object "java/lang/Object") (0 : Int32) [] .null) (u5 : Sta Z Z.heap "java/lang/String" "COMPACT_STRINGS" "Z" (.int cs)) (u6 : ¬ (cs = (0 : Int32))) :
    MetFree l x (head1 (Jvm.Cond.code x code maxLocals ret :: ws) room_1) (fun aV U => aV = #[(.int p0), (.int p1), (.int p2), (.int p3), (.int p4), (.int p5)] ∧ Z.Warmed39 U.vm ∧ U.heap = h0) (fun _ _ _ _ _ => True) (fun _ U o U' => ∃ v L, o = .returned v ∧ Q0 Z p0 p1 p2 p3 p4 p5 cA bxc dA dk cs h0 n0 v U'.heap L ∧ FrameEnd U o U' L room_1.cells room_1.slots) := by
  refine MetFree.of_bodySF (plainFor_of_name pn_11) hisR ?_
  intro pr_ en_ st_ me_ args below meth_ co_ s₁ Bd hml0 hP hK
  obtain ⟨rfl, hZ, hh⟩ := hP
  have hx := Bd.exec
  have hby := Bd.bytes
  have hml : co_.maxLocals = 11 := hml0
  have hown : st_.vm.findClass "com/example/slot1/slot1/balance/OptionsArrayPinLaw" = some me_.cls := findClass_of_methodNamed Bd.named
  have hnm := (name_of_methodNamed Bd.named Bd.method).1
  have X0 : Stand pr_ l en_ room_1 st_ me_ #[(.int p0), (.int p1), (.int p2), (.int p3), (.int p4), (.int p5)] below meth_ co_ s₁ [] 0 0 := Stand.of_body Bd
  have e0 : s₁.heap = h0 := by rw [← hh, Bd.state]; rfl
  have N0 := Fr.nil n0
  have K0 := Keep.refl h0 []
  obtain ⟨G, gv, gf, gb⟩ := own_G pr_.tables en_ below st_ (Q0 Z p0 p1 p2 p3 p4 p5 cA bxc dA dk cs h0 n0) room_1.cells room_1.slots
  show own_Fin pr_.tables en_ below st_ (Q0 Z p0 p1 p2 p3 p4 p5 cA bxc dA dk cs h0 n0) room_1.cells room_1.slots (s₁.setTop (entryFrame me_ #[(.int p0), (.int p1), (.int p2), (.int p3), (.int p4), (.int p5)] maxLocals))
  refine gb _ (gv (fun tQ kQ => castTop (ef_13 me_ p0 p1 p2 p3 p4 p5) kQ) ?_)
  show G (s₁.setTop (mkF me_ 0 #[.val (.int p0), .val (.int p1), .val (.int p2), .val (.int p3), .val (.int p4), .val (.int p5), .unset, .unset, .unset, .unset, .unset] []))
  refine gv (fun tQ kQ => XS.iloadN X0.here hx rfl (hb hby at_0) rfl kQ) ?_
  show G (s₁.setTop (mkF me_ 1 #[.val (.int p0), .val (.int p1), .val (.int p2), .val (.int p3), .val (.int p4), .val (.int p5), .unset, .unset, .unset, .unset, .unset] [(.int p0)]))
  refine gv (fun tQ kQ => XS.iconst X0.here hx rfl (hb hby at_1) kQ) ?_
  show G (s₁.setTop (mkF me_ 2 #[.val (.int p0), .val (.int p1), .val (.int p2), .val (.int p3), .val (.int p4), .val (.int p5), .unset, .unset, .unset, .unset, .unset] [(.int (3 : Int32)), (.int p0)]))
  refine gv (fun tQ kQ => XS.iand X0.here hx rfl (hb hby at_2) rfl kQ) ?_
  show G (s₁.setTop (mkF me_ 3 #[.val (.int p0), .val (.int p1), .val (.int p2), .val (.int p3), .val (.int p4), .val (.int p5), .unset, .unset, .unset, .unset, .unset] [(.int (p0 &&& (3 : Int32)))]))
  refine gv (fun tQ kQ => XS.istore X0.here hx rfl (hb hby at_3) rfl (l' := #[.val (.int p0), .val (.int p1), .val (.int p2), .val (.int p3), .val (.int p4), .val (.int p5), .val (.int (p0 &&& (3 : Int32))), .unset, .unset, .unset, .unset]) rfl kQ) ?_
  show G (s₁.setTop (mkF me_ 5 #[.val (.int p0), .val (.int p1), .val (.int p2), .val (.int p3), .val (.int p4), .val (.int p5), .val (.int (p0 &&& (3 : Int32))), .unset, .unset, .unset, .unset] []))
  rcases own_and3 p0 with q | q | q | q
  · rw [q]
    show G (s₁.setTop (mkF me_ 5 #[.val (.int p0), .val (.int p1), .val (.int p2), .val (.int p3), .val (.int p4), .val (.int p5), .val (.int (0 : Int32)), .unset, .unset, .unset, .unset] []))
    obtain ⟨T418, h418, X418, e418, E418, A418, D418, -, st418⟩ := newO X0 hx hZ hown (hw _ (List.mem_of_getElem? (i := 0) rfl)) (hw _ (List.mem_of_getElem? (i := 1) rfl)) (hw _ (List.mem_of_getElem? (i := 2) rfl)) e0 (g := (mkF me_ 5 #[.val (.int p0), .val (.int p1), .val (.int p2), .val (.int p3), .val (.int p4), .val (.int p5), .val (.int (0 : Int32)), .unset, .unset, .unset, .unset] [])) rfl (hb hby at_5) (by decide) (by decide)
    obtain ⟨b418, g418⟩ : ∃ z, z = h0.size := ⟨_, rfl⟩
    rw [← g418] at A418 D418 st418
    refine gv st418 ?_
    have ne419 : dA ≠ b418 := Nat.ne_of_lt (Nat.lt_of_lt_of_le (u4.ext O0.2).lt (Nat.le_of_eq g418.symm))
    have g420 : n0 ≤ b418 := Nat.le_trans (own_old O0) (Nat.le_of_eq g418.symm)
    have O422 := O0.ext E418
    have f423 : Fld Z h418 b418 "java/util/AbstractList" "modCount" "I" (.int (0 : Int32)) := D418 (Or.inl (hw _ (List.mem_of_getElem? (i := 22) rfl))) (ty := .int) (by decide)
    have f424 : Fld Z h418 b418 "java/util/ArrayList" "elementData" "[Ljava/lang/Object;" .null := D418 (Or.inl (hw _ (List.mem_of_getElem? (i := 25) rfl))) (ty := (.array (.object "java/lang/Object"))) (by decide)
    have f425 : Fld Z h418 b418 "java/util/ArrayList" "size" "I" (.int (0 : Int32)) := D418 (Or.inl (hw _ (List.mem_of_getElem? (i := 66) rfl))) (ty := .int) (by decide)
    show G (T418.setTop (mkF me_ 8 #[.val (.int p0), .val (.int p1), .val (.int p2), .val (.int p3), .val (.int p4), .val (.int p5), .val (.int (0 : Int32)), .unset, .unset, .unset, .unset] [(.ref b418)]))
    refine gv (fun tQ kQ => XS.dup X418.here hx rfl (hb hby at_8) rfl rfl kQ) ?_
    show G (T418.setTop (mkF me_ 9 #[.val (.int p0), .val (.int p1), .val (.int p2), .val (.int p3), .val (.int p4), .val (.int p5), .val (.int (0 : Int32)), .unset, .unset, .unset, .unset] [(.ref b418), (.ref b418)]))
    obtain ⟨_, _, ⟨T426, L426, k426, n426⟩, -, X426, ⟨Lc426, hQ426, l426, y426, z426⟩, st426⟩ := X418.specialBack hx (y := (⟨"java/util/ArrayList", "<init>", "()V"⟩ : MethodName)) rfl hown (mvT hZ (hw _ (List.mem_of_getElem? (i := 3) rfl))) (mvT hZ (hw _ (List.mem_of_getElem? (i := 4) rfl))) (mvT hZ (hw _ (List.mem_of_getElem? (i := 5) rfl))) (by decide) (backOf (W := 1) (rm_ali l Z a0 hw [] b418 dA dk h418 n0 O422 u3 u4 A418 f423 f424 f425 g420) hZ (hw _ (List.mem_of_getElem? (i := 5) rfl)) (hw _ (List.mem_of_getElem? (i := 2) rfl)) (by decide) (by decide)) (g := (mkF me_ 9 #[.val (.int p0), .val (.int p1), .val (.int p2), .val (.int p3), .val (.int p4), .val (.int p5), .val (.int (0 : Int32)), .unset, .unset, .unset, .unset] [(.ref b418), (.ref b418)])) rfl (by rw [hml]; rfl) (Steps.refl _) (a := b418) (argsL := []) (rest := [(.ref b418)]) (lenOf pd_0 rfl) rfl (by show 2 * 0 + _ ≤ _; exact Nat.le_of_eq rfl) (hb hby at_9) (fun _ _ => ⟨rfl, e418, (by decide : 1 + 0 ≤ _), (by decide : 3 + 0 ≤ _)⟩)
    dsimp only [Pt.U, Pt.locs, Pt.cells, Pt.slots] at X426 l426 y426 z426 st426 hQ426
    subst l426 y426 z426
    obtain ⟨rfl, Nq426, Kq426, w426_0, w426_1, w426_2, w426_3⟩ := hQ426
    have N427 := Fr.app N0 Nq426
    obtain ⟨h426, e426⟩ : ∃ z, T426.heap = z := ⟨_, rfl⟩
    rw [e426] at Kq426 w426_0 w426_1 w426_2 w426_3
    have f428 : Exa Z h426 b418 "java/util/ArrayList" := A418.keep Kq426
    have O429 := O422.keep Kq426 (allS g420 all0)
    refine gv (fun tQ kQ => st426.trans kQ) ?_
    show G (T426.setTop (mkF me_ 12 #[.val (.int p0), .val (.int p1), .val (.int p2), .val (.int p3), .val (.int p4), .val (.int p5), .val (.int (0 : Int32)), .unset, .unset, .unset, .unset] [(.ref b418)]))
    refine gv (fun tQ kQ => XS.astore X426.here hx rfl (hb hby at_12) rfl rfl (l' := #[.val (.int p0), .val (.int p1), .val (.int p2), .val (.int p3), .val (.int p4), .val (.int p5), .val (.int (0 : Int32)), .val (.ref b418), .unset, .unset, .unset]) rfl kQ) ?_
    show G (T426.setTop (mkF me_ 14 #[.val (.int p0), .val (.int p1), .val (.int p2), .val (.int p3), .val (.int p4), .val (.int p5), .val (.int (0 : Int32)), .val (.ref b418), .unset, .unset, .unset] []))
    refine gv (fun tQ kQ => XS.iload X426.here hx rfl (hb hby at_14) rfl kQ) ?_
    show G (T426.setTop (mkF me_ 16 #[.val (.int p0), .val (.int p1), .val (.int p2), .val (.int p3), .val (.int p4), .val (.int p5), .val (.int (0 : Int32)), .val (.ref b418), .unset, .unset, .unset] [(.int (0 : Int32))]))
    refine gv (fun tQ kQ => XS.ifYes X426.here hx rfl (pc0 := 16) (pc' := 29) rfl (hb hby at_16) rfl ((if0 _ _).trans (flt (by decide : ¬ ((0 : Int32) < (0 : Int32)))).2.2.2) (by decide) (by decide) kQ) ?_
    show G (T426.setTop (mkF me_ 29 #[.val (.int p0), .val (.int p1), .val (.int p2), .val (.int p3), .val (.int p4), .val (.int p5), .val (.int (0 : Int32)), .val (.ref b418), .unset, .unset, .unset] []))
    refine gv (fun tQ kQ => XS.iload X426.here hx rfl (hb hby at_29) rfl kQ) ?_
    show G (T426.setTop (mkF me_ 31 #[.val (.int p0), .val (.int p1), .val (.int p2), .val (.int p3), .val (.int p4), .val (.int p5), .val (.int (0 : Int32)), .val (.ref b418), .unset, .unset, .unset] [(.int (0 : Int32))]))
    refine gv (fun tQ kQ => XS.iconst X426.here hx rfl (hb hby at_31) kQ) ?_
    show G (T426.setTop (mkF me_ 32 #[.val (.int p0), .val (.int p1), .val (.int p2), .val (.int p3), .val (.int p4), .val (.int p5), .val (.int (0 : Int32)), .val (.ref b418), .unset, .unset, .unset] [(.int (1 : Int32)), (.int (0 : Int32))]))
    refine gv (fun tQ kQ => XS.icmpYes X426.here hx rfl (pc0 := 32) (pc' := 45) rfl (hb hby at_32) rfl (flt (by decide : ¬ ((1 : Int32) < (0 : Int32)))).2.2.2 (by decide) (by decide) kQ) ?_
    show G (T426.setTop (mkF me_ 45 #[.val (.int p0), .val (.int p1), .val (.int p2), .val (.int p3), .val (.int p4), .val (.int p5), .val (.int (0 : Int32)), .val (.ref b418), .unset, .unset, .unset] []))
    refine gv (fun tQ kQ => XS.iload X426.here hx rfl (hb hby at_45) rfl kQ) ?_
    show G (T426.setTop (mkF me_ 47 #[.val (.int p0), .val (.int p1), .val (.int p2), .val (.int p3), .val (.int p4), .val (.int p5), .val (.int (0 : Int32)), .val (.ref b418), .unset, .unset, .unset] [(.int (0 : Int32))]))
    refine gv (fun tQ kQ => XS.iconst X426.here hx rfl (hb hby at_47) kQ) ?_
    show G (T426.setTop (mkF me_ 48 #[.val (.int p0), .val (.int p1), .val (.int p2), .val (.int p3), .val (.int p4), .val (.int p5), .val (.int (0 : Int32)), .val (.ref b418), .unset, .unset, .unset] [(.int (2 : Int32)), (.int (0 : Int32))]))
    refine gv (fun tQ kQ => XS.icmpYes X426.here hx rfl (pc0 := 48) (pc' := 61) rfl (hb hby at_48) rfl (flt (by decide : ¬ ((2 : Int32) < (0 : Int32)))).2.2.2 (by decide) (by decide) kQ) ?_
    show G (T426.setTop (mkF me_ 61 #[.val (.int p0), .val (.int p1), .val (.int p2), .val (.int p3), .val (.int p4), .val (.int p5), .val (.int (0 : Int32)), .val (.ref b418), .unset, .unset, .unset] []))
    refine gv (fun tQ kQ => XS.iconst X426.here hx rfl (hb hby at_61) kQ) ?_
    show G (T426.setTop (mkF me_ 62 #[.val (.int p0), .val (.int p1), .val (.int p2), .val (.int p3), .val (.int p4), .val (.int p5), .val (.int (0 : Int32)), .val (.ref b418), .unset, .unset, .unset] [(.int (2 : Int32))]))
    obtain ⟨T430, h430, k430, X430, e430, E430, A430, st430⟩ := newP X426 hx hZ (hw _ (List.mem_of_getElem? (i := 26) rfl)) e426 (g := (mkF me_ 62 #[.val (.int p0), .val (.int p1), .val (.int p2), .val (.int p3), .val (.int p4), .val (.int p5), .val (.int (0 : Int32)), .val (.ref b418), .unset, .unset, .unset] [(.int (2 : Int32))])) rfl (hb hby at_62) rfl (by decide) (cap := 2) (by decide) (by decide) (by decide) (by decide)
    obtain ⟨b430, g430⟩ : ∃ z, z = h426.size := ⟨_, rfl⟩
    rw [← g430] at A430 st430
    refine gv st430 ?_
    have ne431 : dA ≠ b430 := Nat.ne_of_lt (Nat.lt_of_lt_of_le (u4.ext O429.2).lt (Nat.le_of_eq g430.symm))
    have ne432 : b418 ≠ b430 := Nat.ne_of_lt (Nat.lt_of_lt_of_le w426_0.lt (Nat.le_of_eq g430.symm))
    have g433 : n0 ≤ b430 := Nat.le_trans (own_old O429) (Nat.le_of_eq g430.symm)
    have f435 : Exa Z h430 b418 "java/util/ArrayList" := w426_0.ext E430
    have f436 : Fld Z h430 b418 "java/util/AbstractList" "modCount" "I" (.int (0 : Int32)) := w426_1.ext E430
    have f437 : Fld Z h430 b418 "java/util/ArrayList" "elementData" "[Ljava/lang/Object;" (.ref dA) := w426_2.ext E430
    have f438 : Fld Z h430 b418 "java/util/ArrayList" "size" "I" (.int (0 : Int32)) := w426_3.ext E430
    have O439 := O429.ext E430
    have V430 : Arv Z h430 b430 k430 .char (2 : Int32) [(.int (0 : Int32)), (.int (0 : Int32))] (.int (0 : Int32)) := (Arv.new A430 (by decide)).pad (pad_rep [] (.int (0 : Int32)) 2)
    show G (T430.setTop (mkF me_ 64 #[.val (.int p0), .val (.int p1), .val (.int p2), .val (.int p3), .val (.int p4), .val (.int p5), .val (.int (0 : Int32)), .val (.ref b418), .unset, .unset, .unset] [(.ref b430)]))
    refine gv (fun tQ kQ => XS.astore X430.here hx rfl (hb hby at_64) rfl rfl (l' := #[.val (.int p0), .val (.int p1), .val (.int p2), .val (.int p3), .val (.int p4), .val (.int p5), .val (.int (0 : Int32)), .val (.ref b418), .val (.ref b430), .unset, .unset]) rfl kQ) ?_
    show G (T430.setTop (mkF me_ 66 #[.val (.int p0), .val (.int p1), .val (.int p2), .val (.int p3), .val (.int p4), .val (.int p5), .val (.int (0 : Int32)), .val (.ref b418), .val (.ref b430), .unset, .unset] []))
    refine gv (fun tQ kQ => XS.aload X430.here hx rfl (hb hby at_66) rfl rfl kQ) ?_
    show G (T430.setTop (mkF me_ 68 #[.val (.int p0), .val (.int p1), .val (.int p2), .val (.int p3), .val (.int p4), .val (.int p5), .val (.int (0 : Int32)), .val (.ref b418), .val (.ref b430), .unset, .unset] [(.ref b430)]))
    refine gv (fun tQ kQ => XS.iconst X430.here hx rfl (hb hby at_68) kQ) ?_
    show G (T430.setTop (mkF me_ 69 #[.val (.int p0), .val (.int p1), .val (.int p2), .val (.int p3), .val (.int p4), .val (.int p5), .val (.int (0 : Int32)), .val (.ref b418), .val (.ref b430), .unset, .unset] [(.int (0 : Int32)), (.ref b430)]))
    refine gv (fun tQ kQ => XS.iload X430.here hx rfl (hb hby at_69) rfl kQ) ?_
    show G (T430.setTop (mkF me_ 71 #[.val (.int p0), .val (.int p1), .val (.int p2), .val (.int p3), .val (.int p4), .val (.int p5), .val (.int (0 : Int32)), .val (.ref b418), .val (.ref b430), .unset, .unset] [(.int p4), (.int (0 : Int32)), (.ref b430)]))
    refine gv (fun tQ kQ => XS.sipush X430.here hx rfl (hb hby at_71) kQ) ?_
    show G (T430.setTop (mkF me_ 74 #[.val (.int p0), .val (.int p1), .val (.int p2), .val (.int p3), .val (.int p4), .val (.int p5), .val (.int (0 : Int32)), .val (.ref b418), .val (.ref b430), .unset, .unset] [(.int (255 : Int32)), (.int p4), (.int (0 : Int32)), (.ref b430)]))
    refine gv (fun tQ kQ => XS.iand X430.here hx rfl (hb hby at_74) rfl kQ) ?_
    show G (T430.setTop (mkF me_ 75 #[.val (.int p0), .val (.int p1), .val (.int p2), .val (.int p3), .val (.int p4), .val (.int p5), .val (.int (0 : Int32)), .val (.ref b418), .val (.ref b430), .unset, .unset] [(.int (p4 &&& (255 : Int32))), (.int (0 : Int32)), (.ref b430)]))
    refine gv (fun tQ kQ => XS.i2c X430.here hx rfl (hb hby at_75) rfl kQ) ?_
    show G (T430.setTop (mkF me_ 76 #[.val (.int p0), .val (.int p1), .val (.int p2), .val (.int p3), .val (.int p4), .val (.int p5), .val (.int (0 : Int32)), .val (.ref b418), .val (.ref b430), .unset, .unset] [(.int ((p4 &&& (255 : Int32)).toUInt32.toUInt16.toUInt32.toInt32)), (.int (0 : Int32)), (.ref b430)]))
    obtain ⟨cl440, Ar440, q440, S440, n440, H440, G440⟩ := (id V430)
    have in440 : ¬ ((0 : Int32) < 0 ∨ cl440.slots.size ≤ ((0 : Int32)).toNatClampNeg) := inb_of S440 ⟨by decide, by decide⟩
    obtain ⟨T440, h440, X440, e440, W440, st440⟩ := stC X430 hx hZ e430 Ar440 (j := (0 : Int32)) in440 (g := (mkF me_ 76 #[.val (.int p0), .val (.int p1), .val (.int p2), .val (.int p3), .val (.int p4), .val (.int p5), .val (.int (0 : Int32)), .val (.ref b418), .val (.ref b430), .unset, .unset] [(.int ((p4 &&& (255 : Int32)).toUInt32.toUInt16.toUInt32.toInt32)), (.int (0 : Int32)), (.ref b430)])) rfl rfl (hb hby at_76)
    have W440 : Wr h430 h440 b430 ((0 : Int32)).toNatClampNeg (.int ((p4 &&& (255 : Int32)).toUInt32.toUInt16.toUInt32.toInt32)) := by have z := W440; rw [(own_narC _)] at z; exact z
    refine gv st440 ?_
    have f442 : Exa Z h440 b418 "java/util/ArrayList" := f435.wr W440
    have f443 : Fld Z h440 b418 "java/util/AbstractList" "modCount" "I" (.int (0 : Int32)) := f436.other W440 (Or.inl ne432)
    have f444 : Fld Z h440 b418 "java/util/ArrayList" "elementData" "[Ljava/lang/Object;" (.ref dA) := f437.other W440 (Or.inl ne432)
    have f445 : Fld Z h440 b418 "java/util/ArrayList" "size" "I" (.int (0 : Int32)) := f438.other W440 (Or.inl ne432)
    have O446 := O439.wr W440 g433
    have N447 := Fr.snoc X440 N427 g433
    have f441 : Arv Z h440 b430 k430 .char (2 : Int32) [(.int ((p4 &&& (255 : Int32)).toUInt32.toUInt16.toUInt32.toInt32)), (.int (0 : Int32))] (.int (0 : Int32)) := Arv.set Ar440 q440 S440 n440 H440 G440 (fits_nar_char _) W440 0 rfl (Nat.le_of_ble_eq_true rfl)
    show G (T440.setTop (mkF me_ 77 #[.val (.int p0), .val (.int p1), .val (.int p2), .val (.int p3), .val (.int p4), .val (.int p5), .val (.int (0 : Int32)), .val (.ref b418), .val (.ref b430), .unset, .unset] []))
    refine gv (fun tQ kQ => XS.aload X440.here hx rfl (hb hby at_77) rfl rfl kQ) ?_
    show G (T440.setTop (mkF me_ 79 #[.val (.int p0), .val (.int p1), .val (.int p2), .val (.int p3), .val (.int p4), .val (.int p5), .val (.int (0 : Int32)), .val (.ref b418), .val (.ref b430), .unset, .unset] [(.ref b430)]))
    refine gv (fun tQ kQ => XS.iconst X440.here hx rfl (hb hby at_79) kQ) ?_
    show G (T440.setTop (mkF me_ 80 #[.val (.int p0), .val (.int p1), .val (.int p2), .val (.int p3), .val (.int p4), .val (.int p5), .val (.int (0 : Int32)), .val (.ref b418), .val (.ref b430), .unset, .unset] [(.int (1 : Int32)), (.ref b430)]))
    refine gv (fun tQ kQ => XS.iload X440.here hx rfl (hb hby at_80) rfl kQ) ?_
    show G (T440.setTop (mkF me_ 82 #[.val (.int p0), .val (.int p1), .val (.int p2), .val (.int p3), .val (.int p4), .val (.int p5), .val (.int (0 : Int32)), .val (.ref b418), .val (.ref b430), .unset, .unset] [(.int p5), (.int (1 : Int32)), (.ref b430)]))
    refine gv (fun tQ kQ => XS.sipush X440.here hx rfl (hb hby at_82) kQ) ?_
    show G (T440.setTop (mkF me_ 85 #[.val (.int p0), .val (.int p1), .val (.int p2), .val (.int p3), .val (.int p4), .val (.int p5), .val (.int (0 : Int32)), .val (.ref b418), .val (.ref b430), .unset, .unset] [(.int (255 : Int32)), (.int p5), (.int (1 : Int32)), (.ref b430)]))
    refine gv (fun tQ kQ => XS.iand X440.here hx rfl (hb hby at_85) rfl kQ) ?_
    show G (T440.setTop (mkF me_ 86 #[.val (.int p0), .val (.int p1), .val (.int p2), .val (.int p3), .val (.int p4), .val (.int p5), .val (.int (0 : Int32)), .val (.ref b418), .val (.ref b430), .unset, .unset] [(.int (p5 &&& (255 : Int32))), (.int (1 : Int32)), (.ref b430)]))
    refine gv (fun tQ kQ => XS.i2c X440.here hx rfl (hb hby at_86) rfl kQ) ?_
    show G (T440.setTop (mkF me_ 87 #[.val (.int p0), .val (.int p1), .val (.int p2), .val (.int p3), .val (.int p4), .val (.int p5), .val (.int (0 : Int32)), .val (.ref b418), .val (.ref b430), .unset, .unset] [(.int ((p5 &&& (255 : Int32)).toUInt32.toUInt16.toUInt32.toInt32)), (.int (1 : Int32)), (.ref b430)]))
    obtain ⟨cl448, Ar448, q448, S448, n448, H448, G448⟩ := (id f441)
    have in448 : ¬ ((1 : Int32) < 0 ∨ cl448.slots.size ≤ ((1 : Int32)).toNatClampNeg) := inb_of S448 ⟨by decide, by decide⟩
    obtain ⟨T448, h448, X448, e448, W448, st448⟩ := stC X440 hx hZ e440 Ar448 (j := (1 : Int32)) in448 (g := (mkF me_ 87 #[.val (.int p0), .val (.int p1), .val (.int p2), .val (.int p3), .val (.int p4), .val (.int p5), .val (.int (0 : Int32)), .val (.ref b418), .val (.ref b430), .unset, .unset] [(.int ((p5 &&& (255 : Int32)).toUInt32.toUInt16.toUInt32.toInt32)), (.int (1 : Int32)), (.ref b430)])) rfl rfl (hb hby at_87)
    have W448 : Wr h440 h448 b430 ((1 : Int32)).toNatClampNeg (.int ((p5 &&& (255 : Int32)).toUInt32.toUInt16.toUInt32.toInt32)) := by have z := W448; rw [(own_narC _)] at z; exact z
    refine gv st448 ?_
    have f450 : Exa Z h448 b418 "java/util/ArrayList" := f442.wr W448
    have f451 : Fld Z h448 b418 "java/util/AbstractList" "modCount" "I" (.int (0 : Int32)) := f443.other W448 (Or.inl ne432)
    have f452 : Fld Z h448 b418 "java/util/ArrayList" "elementData" "[Ljava/lang/Object;" (.ref dA) := f444.other W448 (Or.inl ne432)
    have f453 : Fld Z h448 b418 "java/util/ArrayList" "size" "I" (.int (0 : Int32)) := f445.other W448 (Or.inl ne432)
    have O454 := O446.wr W448 g433
    have N455 := Fr.snoc X448 N447 g433
    have f449 : Arv Z h448 b430 k430 .char (2 : Int32) [(.int ((p4 &&& (255 : Int32)).toUInt32.toUInt16.toUInt32.toInt32)), (.int ((p5 &&& (255 : Int32)).toUInt32.toUInt16.toUInt32.toInt32))] (.int (0 : Int32)) := Arv.set Ar448 q448 S448 n448 H448 G448 (fits_nar_char _) W448 1 rfl (Nat.le_of_ble_eq_true rfl)
    show G (T448.setTop (mkF me_ 88 #[.val (.int p0), .val (.int p1), .val (.int p2), .val (.int p3), .val (.int p4), .val (.int p5), .val (.int (0 : Int32)), .val (.ref b418), .val (.ref b430), .unset, .unset] []))
    refine gv (fun tQ kQ => XS.iloadN X448.here hx rfl (hb hby at_88) rfl kQ) ?_
    show G (T448.setTop (mkF me_ 89 #[.val (.int p0), .val (.int p1), .val (.int p2), .val (.int p3), .val (.int p4), .val (.int p5), .val (.int (0 : Int32)), .val (.ref b418), .val (.ref b430), .unset, .unset] [(.int p0)]))
    refine gv (fun tQ kQ => XS.iconst X448.here hx rfl (hb hby at_89) kQ) ?_
    show G (T448.setTop (mkF me_ 90 #[.val (.int p0), .val (.int p1), .val (.int p2), .val (.int p3), .val (.int p4), .val (.int p5), .val (.int (0 : Int32)), .val (.ref b418), .val (.ref b430), .unset, .unset] [(.int (2 : Int32)), (.int p0)]))
    refine gv (fun tQ kQ => XS.iushr X448.here hx rfl (hb hby at_90) rfl kQ) ?_
    show G (T448.setTop (mkF me_ 91 #[.val (.int p0), .val (.int p1), .val (.int p2), .val (.int p3), .val (.int p4), .val (.int p5), .val (.int (0 : Int32)), .val (.ref b418), .val (.ref b430), .unset, .unset] [(.int ((p0.toUInt32 >>> ((2 : Int32) &&& 31).toUInt32).toInt32))]))
    refine gv (fun tQ kQ => XS.iconst X448.here hx rfl (hb hby at_91) kQ) ?_
    show G (T448.setTop (mkF me_ 92 #[.val (.int p0), .val (.int p1), .val (.int p2), .val (.int p3), .val (.int p4), .val (.int p5), .val (.int (0 : Int32)), .val (.ref b418), .val (.ref b430), .unset, .unset] [(.int (1 : Int32)), (.int ((p0.toUInt32 >>> ((2 : Int32) &&& 31).toUInt32).toInt32))]))
    refine gv (fun tQ kQ => XS.iand X448.here hx rfl (hb hby at_92) rfl kQ) ?_
    show G (T448.setTop (mkF me_ 93 #[.val (.int p0), .val (.int p1), .val (.int p2), .val (.int p3), .val (.int p4), .val (.int p5), .val (.int (0 : Int32)), .val (.ref b418), .val (.ref b430), .unset, .unset] [(.int (((p0.toUInt32 >>> ((2 : Int32) &&& 31).toUInt32).toInt32) &&& (1 : Int32)))]))
    by_cases hc456 : (((p0.toUInt32 >>> ((2 : Int32) &&& 31).toUInt32).toInt32) &&& (1 : Int32)) = (0 : Int32)
    · refine gv (fun tQ kQ => XS.ifYes X448.here hx rfl (pc0 := 93) (pc' := 108) rfl (hb hby at_93) rfl ((if0 _ _).trans (teq hc456).1) (by decide) (by decide) kQ) ?_
      show G (T448.setTop (mkF me_ 108 #[.val (.int p0), .val (.int p1), .val (.int p2), .val (.int p3), .val (.int p4), .val (.int p5), .val (.int (0 : Int32)), .val (.ref b418), .val (.ref b430), .unset, .unset] []))
      refine gv (fun tQ kQ => XS.aload X448.here hx rfl (hb hby at_108) rfl rfl kQ) ?_
      show G (T448.setTop (mkF me_ 110 #[.val (.int p0), .val (.int p1), .val (.int p2), .val (.int p3), .val (.int p4), .val (.int p5), .val (.int (0 : Int32)), .val (.ref b418), .val (.ref b430), .unset, .unset] [(.ref b430)]))
      refine gv (fun tQ kQ => XS.iconst X448.here hx rfl (hb hby at_110) kQ) ?_
      show G (T448.setTop (mkF me_ 111 #[.val (.int p0), .val (.int p1), .val (.int p2), .val (.int p3), .val (.int p4), .val (.int p5), .val (.int (0 : Int32)), .val (.ref b418), .val (.ref b430), .unset, .unset] [(.int (0 : Int32)), (.ref b430)]))
      obtain ⟨cl457, Ar457, q457, S457, n457, H457, G457⟩ := (id f449)
      have in457 : ¬ ((0 : Int32) < 0 ∨ cl457.slots.size ≤ ((0 : Int32)).toNatClampNeg) := inb_of S457 ⟨by decide, by decide⟩
      refine gv (X448.caload hx (j := (0 : Int32)) (v := (.int ((p4 &&& (255 : Int32)).toUInt32.toUInt16.toUInt32.toInt32))) (by rw [e448]; exact Ar457.1) (State.isArrayOf_alike hZ.alike Ar457.2.1) Ar457.2.2 in457 (Has.at H457 in457 rfl) (g := (mkF me_ 111 #[.val (.int p0), .val (.int p1), .val (.int p2), .val (.int p3), .val (.int p4), .val (.int p5), .val (.int (0 : Int32)), .val (.ref b418), .val (.ref b430), .unset, .unset] [(.int (0 : Int32)), (.ref b430)])) rfl rfl (hb hby at_111)) ?_
      show G (T448.setTop (mkF me_ 112 #[.val (.int p0), .val (.int p1), .val (.int p2), .val (.int p3), .val (.int p4), .val (.int p5), .val (.int (0 : Int32)), .val (.ref b418), .val (.ref b430), .unset, .unset] [(.int ((p4 &&& (255 : Int32)).toUInt32.toUInt16.toUInt32.toInt32))]))
      obtain ⟨_, _, ⟨T458, L458, k458, n458⟩, -, X458, ⟨Lc458, hQ458, l458, y458, z458⟩, st458⟩ := Jvm.LawKit.callS X448 hx (y := (⟨"java/lang/String", "valueOf", "(C)Ljava/lang/String;"⟩ : MethodName)) hown (mvT hZ (hw _ (List.mem_of_getElem? (i := 27) rfl))) (mvT hZ (hw _ (List.mem_of_getElem? (i := 28) rfl))) (mvT hZ (hw _ (List.mem_of_getElem? (i := 29) rfl))) (mvT hZ (hw _ (List.mem_of_getElem? (i := 30) rfl))) (by decide) (backOf (W := 0) (rm_voL l Z a0 hw [] ((p4 &&& (255 : Int32)).toUInt32.toUInt16.toUInt32.toInt32) cs h448 n0 O454 u5 u6 (own_lt255 p4)) hZ (hw _ (List.mem_of_getElem? (i := 30) rfl)) (hw _ (List.mem_of_getElem? (i := 29) rfl)) (by decide) (by decide)) (g := (mkF me_ 112 #[.val (.int p0), .val (.int p1), .val (.int p2), .val (.int p3), .val (.int p4), .val (.int p5), .val (.int (0 : Int32)), .val (.ref b418), .val (.ref b430), .unset, .unset] [(.int ((p4 &&& (255 : Int32)).toUInt32.toUInt16.toUInt32.toInt32))])) rfl (by rw [hml]; rfl) (argsL := [(.int ((p4 &&& (255 : Int32)).toUInt32.toUInt16.toUInt32.toInt32))]) (rest := []) (lenOf pd_15 rfl) rfl (by show 2 * 0 + _ ≤ _; exact Nat.le_of_eq rfl) (hb hby at_112) (fun _ _ => ⟨rfl, e448, (by decide : 2 + 2 ≤ _), (by decide : 5 + 5 ≤ _)⟩)
      dsimp only [Pt.U, Pt.locs, Pt.cells, Pt.slots] at X458 l458 y458 z458 st458 hQ458
      subst l458 y458 z458
      obtain ⟨s_458, b_458, k_458, rfl, Nq458, Kq458, w458_0, w458_1, w458_2, w458_3, w458_4, w458_5, w458_6⟩ := hQ458
      have N459 := Fr.app N455 Nq458
      obtain ⟨h458, e458⟩ : ∃ z, T458.heap = z := ⟨_, rfl⟩
      rw [e458] at Kq458 w458_3 w458_4 w458_5 w458_6
      have ne460 : dA ≠ s_458 := Nat.ne_of_lt (Nat.lt_of_lt_of_le (u4.ext O454.2).lt w458_0)
      have ne461 : b418 ≠ s_458 := Nat.ne_of_lt (Nat.lt_of_lt_of_le f450.lt w458_0)
      have ne462 : b430 ≠ s_458 := Nat.ne_of_lt (Nat.lt_of_lt_of_le f449.lt w458_0)
      have g463 : n0 ≤ s_458 := Nat.le_trans (own_old O454) w458_0
      have ne465 : dA ≠ b_458 := Nat.ne_of_lt (Nat.lt_of_lt_of_le (u4.ext O454.2).lt w458_1)
      have ne466 : b418 ≠ b_458 := Nat.ne_of_lt (Nat.lt_of_lt_of_le f450.lt w458_1)
      have ne467 : b430 ≠ b_458 := Nat.ne_of_lt (Nat.lt_of_lt_of_le f449.lt w458_1)
      have g468 : n0 ≤ b_458 := Nat.le_trans (own_old O454) w458_1
      have f470 : Exa Z h458 b418 "java/util/ArrayList" := f450.keep Kq458
      have f471 : Fld Z h458 b418 "java/util/AbstractList" "modCount" "I" (.int (0 : Int32)) := f451.keep Kq458 nin0
      have f472 : Fld Z h458 b418 "java/util/ArrayList" "elementData" "[Ljava/lang/Object;" (.ref dA) := f452.keep Kq458 nin0
      have f473 : Fld Z h458 b418 "java/util/ArrayList" "size" "I" (.int (0 : Int32)) := f453.keep Kq458 nin0
      have f474 : Arv Z h458 b430 k430 .char (2 : Int32) [(.int ((p4 &&& (255 : Int32)).toUInt32.toUInt16.toUInt32.toInt32)), (.int ((p5 &&& (255 : Int32)).toUInt32.toUInt16.toUInt32.toInt32))] (.int (0 : Int32)) := f449.keep Kq458 nin0
      have O475 := O454.keep Kq458 all0
      refine gv st458 ?_
      show G (T458.setTop (mkF me_ 115 #[.val (.int p0), .val (.int p1), .val (.int p2), .val (.int p3), .val (.int p4), .val (.int p5), .val (.int (0 : Int32)), .val (.ref b418), .val (.ref b430), .unset, .unset] [(.ref s_458)]))
      refine gv (fun tQ kQ => XS.astore X458.here hx rfl (hb hby at_115) rfl rfl (l' := #[.val (.int p0), .val (.int p1), .val (.int p2), .val (.int p3), .val (.int p4), .val (.int p5), .val (.int (0 : Int32)), .val (.ref b418), .val (.ref b430), .val (.ref s_458), .unset]) rfl kQ) ?_
      show G (T458.setTop (mkF me_ 117 #[.val (.int p0), .val (.int p1), .val (.int p2), .val (.int p3), .val (.int p4), .val (.int p5), .val (.int (0 : Int32)), .val (.ref b418), .val (.ref b430), .val (.ref s_458), .unset] []))
      refine gv (fun tQ kQ => XS.aload X458.here hx rfl (hb hby at_117) rfl rfl kQ) ?_
      show G (T458.setTop (mkF me_ 119 #[.val (.int p0), .val (.int p1), .val (.int p2), .val (.int p3), .val (.int p4), .val (.int p5), .val (.int (0 : Int32)), .val (.ref b418), .val (.ref b430), .val (.ref s_458), .unset] [(.ref b418)]))
      refine gv (fun tQ kQ => XS.aload X458.here hx rfl (hb hby at_119) rfl rfl kQ) ?_
      show G (T458.setTop (mkF me_ 121 #[.val (.int p0), .val (.int p1), .val (.int p2), .val (.int p3), .val (.int p4), .val (.int p5), .val (.int (0 : Int32)), .val (.ref b418), .val (.ref b430), .val (.ref s_458), .unset] [(.ref s_458), (.ref b418)]))
      obtain ⟨_, _, ⟨T476, L476, k476, n476⟩, -, X476, ⟨Lc476, hQ476, l476, y476, z476⟩, st476⟩ := Jvm.LawKit.callS X458 hx (y := (⟨"com/example/slot1/slot1/balance/Options", "array", "(Ljava/lang/Object;Ljava/lang/String;)Ljava/util/List;"⟩ : MethodName)) hown (mvT hZ (hw _ (List.mem_of_getElem? (i := 51) rfl))) (mvT hZ (hw _ (List.mem_of_getElem? (i := 52) rfl))) (mvT hZ (hw _ (List.mem_of_getElem? (i := 53) rfl))) (mvT hZ (hw _ (List.mem_of_getElem? (i := 54) rfl))) (by decide) (backOf (W := 0) (rm_arr l Z a0 hw [] b418 s_458 h458 n0 O475 f470) hZ (hw _ (List.mem_of_getElem? (i := 54) rfl)) (hw _ (List.mem_of_getElem? (i := 53) rfl)) (by decide) (by decide)) (g := (mkF me_ 121 #[.val (.int p0), .val (.int p1), .val (.int p2), .val (.int p3), .val (.int p4), .val (.int p5), .val (.int (0 : Int32)), .val (.ref b418), .val (.ref b430), .val (.ref s_458), .unset] [(.ref s_458), (.ref b418)])) rfl (by rw [hml]; rfl) (argsL := [(.ref b418), (.ref s_458)]) (rest := []) (lenOf pd_16 rfl) rfl (by show 2 * 0 + _ ≤ _; exact Nat.le_of_eq rfl) (hb hby at_121) (fun _ _ => ⟨rfl, e458, (by decide : 4 + 0 ≤ _), (by decide : 10 + 0 ≤ _)⟩)
      dsimp only [Pt.U, Pt.locs, Pt.cells, Pt.slots] at X476 l476 y476 z476 st476 hQ476
      subst l476 y476 z476
      obtain ⟨rfl, Nq476, eq476⟩ := hQ476
      have N477 := Fr.app N459 Nq476
      refine gv st476 ?_
      show G (T476.setTop (mkF me_ 124 #[.val (.int p0), .val (.int p1), .val (.int p2), .val (.int p3), .val (.int p4), .val (.int p5), .val (.int (0 : Int32)), .val (.ref b418), .val (.ref b430), .val (.ref s_458), .unset] [(.ref b418)]))
      refine gv (fun tQ kQ => XS.astore X476.here hx rfl (hb hby at_124) rfl rfl (l' := #[.val (.int p0), .val (.int p1), .val (.int p2), .val (.int p3), .val (.int p4), .val (.int p5), .val (.int (0 : Int32)), .val (.ref b418), .val (.ref b430), .val (.ref s_458), .val (.ref b418)]) rfl kQ) ?_
      show G (T476.setTop (mkF me_ 126 #[.val (.int p0), .val (.int p1), .val (.int p2), .val (.int p3), .val (.int p4), .val (.int p5), .val (.int (0 : Int32)), .val (.ref b418), .val (.ref b430), .val (.ref s_458), .val (.ref b418)] []))
      refine gv (fun tQ kQ => XS.aload X476.here hx rfl (hb hby at_126) rfl rfl kQ) ?_
      show G (T476.setTop (mkF me_ 128 #[.val (.int p0), .val (.int p1), .val (.int p2), .val (.int p3), .val (.int p4), .val (.int p5), .val (.int (0 : Int32)), .val (.ref b418), .val (.ref b430), .val (.ref s_458), .val (.ref b418)] [(.ref b418)]))
      refine gv (fun tQ kQ => XS.aload X476.here hx rfl (hb hby at_128) rfl rfl kQ) ?_
      show G (T476.setTop (mkF me_ 130 #[.val (.int p0), .val (.int p1), .val (.int p2), .val (.int p3), .val (.int p4), .val (.int p5), .val (.int (0 : Int32)), .val (.ref b418), .val (.ref b430), .val (.ref s_458), .val (.ref b418)] [(.ref b418), (.ref b418)]))
      refine gv (fun tQ kQ => Jvm.RoadKit.acmp (g := (mkF me_ 130 #[.val (.int p0), .val (.int p1), .val (.int p2), .val (.int p3), .val (.int p4), .val (.int p5), .val (.int (0 : Int32)), .val (.ref b418), .val (.ref b430), .val (.ref s_458), .val (.ref b418)] [(.ref b418), (.ref b418)])) X476 hx rfl rfl rfl (pc0 := 130) (pc' := 135) (same := true) rfl (hb hby at_130) rfl (decide_eq_true rfl) (by decide) (by decide) kQ) ?_
      show G (T476.setTop (mkF me_ 135 #[.val (.int p0), .val (.int p1), .val (.int p2), .val (.int p3), .val (.int p4), .val (.int p5), .val (.int (0 : Int32)), .val (.ref b418), .val (.ref b430), .val (.ref s_458), .val (.ref b418)] []))
      refine gv (fun tQ kQ => XS.aload X476.here hx rfl (hb hby at_135) rfl rfl kQ) ?_
      show G (T476.setTop (mkF me_ 137 #[.val (.int p0), .val (.int p1), .val (.int p2), .val (.int p3), .val (.int p4), .val (.int p5), .val (.int (0 : Int32)), .val (.ref b418), .val (.ref b430), .val (.ref s_458), .val (.ref b418)] [(.ref b418)]))
      obtain ⟨cq478, kq478, q478a, q478b, q478c⟩ := isOf hZ eq476 f470
      obtain ⟨_, _, ⟨T478, L478, k478, n478⟩, -, X478, ⟨Lc478, hQ478, l478, y478, z478⟩, st478⟩ := X476.interfaceBack hx (xi := (⟨"java/util/List", "size", "()I"⟩ : MethodName)) (y := (⟨"java/util/ArrayList", "size", "()I"⟩ : MethodName)) hown (mvT hZ (hw _ (List.mem_of_getElem? (i := 57) rfl))) (mvT hZ (hw _ (List.mem_of_getElem? (i := 58) rfl))) (mvT hZ (hw _ (List.mem_of_getElem? (i := 59) rfl))) (mvT hZ (hw _ (List.mem_of_getElem? (i := 60) rfl))) (mvT hZ (hw _ (List.mem_of_getElem? (i := 61) rfl))) (mvT hZ (hw _ (List.mem_of_getElem? (i := 62) rfl))) (mvT hZ (hw _ (List.mem_of_getElem? (i := 63) rfl))) (mvT hZ (hw _ (List.mem_of_getElem? (i := 56) rfl))) (by decide) (backOf (W := 0) (rm_size0 l Z a0 hw [] b418 h458 n0 O475 f473) hZ (hw _ (List.mem_of_getElem? (i := 64) rfl)) (hw _ (List.mem_of_getElem? (i := 2) rfl)) (by decide) (by decide)) q478a q478b q478c (g := (mkF me_ 137 #[.val (.int p0), .val (.int p1), .val (.int p2), .val (.int p3), .val (.int p4), .val (.int p5), .val (.int (0 : Int32)), .val (.ref b418), .val (.ref b430), .val (.ref s_458), .val (.ref b418)] [(.ref b418)])) rfl (by rw [hml]; rfl) (Steps.refl _) (argsL := []) (rest := []) (lenOf pd_17 rfl) rfl (by show 2 * 0 + _ ≤ _; exact Nat.le_of_eq rfl) (hb hby at_137) (fun _ _ => ⟨rfl, eq476, (by decide : 4 + 0 ≤ _), (by decide : 10 + 0 ≤ _)⟩)
      dsimp only [Pt.U, Pt.locs, Pt.cells, Pt.slots] at X478 l478 y478 z478 st478 hQ478
      subst l478 y478 z478
      obtain ⟨rfl, Nq478, eq478⟩ := hQ478
      have N479 := Fr.app N477 Nq478
      refine gv (fun tQ kQ => st478.trans kQ) ?_
      show G (T478.setTop (mkF me_ 142 #[.val (.int p0), .val (.int p1), .val (.int p2), .val (.int p3), .val (.int p4), .val (.int p5), .val (.int (0 : Int32)), .val (.ref b418), .val (.ref b430), .val (.ref s_458), .val (.ref b418)] [(.int (0 : Int32))]))
      refine gv (fun tQ kQ => XS.iload X478.here hx rfl (hb hby at_142) rfl kQ) ?_
      show G (T478.setTop (mkF me_ 144 #[.val (.int p0), .val (.int p1), .val (.int p2), .val (.int p3), .val (.int p4), .val (.int p5), .val (.int (0 : Int32)), .val (.ref b418), .val (.ref b430), .val (.ref s_458), .val (.ref b418)] [(.int (0 : Int32)), (.int (0 : Int32))]))
      refine gv (fun tQ kQ => XS.icmpYes X478.here hx rfl (pc0 := 144) (pc' := 149) rfl (hb hby at_144) rfl (teq (by decide : (0 : Int32) = (0 : Int32))).1 (by decide) (by decide) kQ) ?_
      show G (T478.setTop (mkF me_ 149 #[.val (.int p0), .val (.int p1), .val (.int p2), .val (.int p3), .val (.int p4), .val (.int p5), .val (.int (0 : Int32)), .val (.ref b418), .val (.ref b430), .val (.ref s_458), .val (.ref b418)] []))
      refine gv (fun tQ kQ => XS.iload X478.here hx rfl (hb hby at_149) rfl kQ) ?_
      show G (T478.setTop (mkF me_ 151 #[.val (.int p0), .val (.int p1), .val (.int p2), .val (.int p3), .val (.int p4), .val (.int p5), .val (.int (0 : Int32)), .val (.ref b418), .val (.ref b430), .val (.ref s_458), .val (.ref b418)] [(.int (0 : Int32))]))
      refine gv (fun tQ kQ => XS.ifYes X478.here hx rfl (pc0 := 151) (pc' := 174) rfl (hb hby at_151) rfl ((if0 _ _).trans (flt (by decide : ¬ ((0 : Int32) < (0 : Int32)))).2.2.2) (by decide) (by decide) kQ) ?_
      show G (T478.setTop (mkF me_ 174 #[.val (.int p0), .val (.int p1), .val (.int p2), .val (.int p3), .val (.int p4), .val (.int p5), .val (.int (0 : Int32)), .val (.ref b418), .val (.ref b430), .val (.ref s_458), .val (.ref b418)] []))
      refine gv (fun tQ kQ => XS.iload X478.here hx rfl (hb hby at_174) rfl kQ) ?_
      show G (T478.setTop (mkF me_ 176 #[.val (.int p0), .val (.int p1), .val (.int p2), .val (.int p3), .val (.int p4), .val (.int p5), .val (.int (0 : Int32)), .val (.ref b418), .val (.ref b430), .val (.ref s_458), .val (.ref b418)] [(.int (0 : Int32))]))
      refine gv (fun tQ kQ => XS.iconst X478.here hx rfl (hb hby at_176) kQ) ?_
      show G (T478.setTop (mkF me_ 177 #[.val (.int p0), .val (.int p1), .val (.int p2), .val (.int p3), .val (.int p4), .val (.int p5), .val (.int (0 : Int32)), .val (.ref b418), .val (.ref b430), .val (.ref s_458), .val (.ref b418)] [(.int (1 : Int32)), (.int (0 : Int32))]))
      refine gv (fun tQ kQ => XS.icmpYes X478.here hx rfl (pc0 := 177) (pc' := 200) rfl (hb hby at_177) rfl (flt (by decide : ¬ ((1 : Int32) < (0 : Int32)))).2.2.2 (by decide) (by decide) kQ) ?_
      show G (T478.setTop (mkF me_ 200 #[.val (.int p0), .val (.int p1), .val (.int p2), .val (.int p3), .val (.int p4), .val (.int p5), .val (.int (0 : Int32)), .val (.ref b418), .val (.ref b430), .val (.ref s_458), .val (.ref b418)] []))
      refine gv (fun tQ kQ => XS.iload X478.here hx rfl (hb hby at_200) rfl kQ) ?_
      show G (T478.setTop (mkF me_ 202 #[.val (.int p0), .val (.int p1), .val (.int p2), .val (.int p3), .val (.int p4), .val (.int p5), .val (.int (0 : Int32)), .val (.ref b418), .val (.ref b430), .val (.ref s_458), .val (.ref b418)] [(.int (0 : Int32))]))
      refine gv (fun tQ kQ => XS.iconst X478.here hx rfl (hb hby at_202) kQ) ?_
      show G (T478.setTop (mkF me_ 203 #[.val (.int p0), .val (.int p1), .val (.int p2), .val (.int p3), .val (.int p4), .val (.int p5), .val (.int (0 : Int32)), .val (.ref b418), .val (.ref b430), .val (.ref s_458), .val (.ref b418)] [(.int (2 : Int32)), (.int (0 : Int32))]))
      refine gv (fun tQ kQ => XS.icmpYes X478.here hx rfl (pc0 := 203) (pc' := 226) rfl (hb hby at_203) rfl (flt (by decide : ¬ ((2 : Int32) < (0 : Int32)))).2.2.2 (by decide) (by decide) kQ) ?_
      show G (T478.setTop (mkF me_ 226 #[.val (.int p0), .val (.int p1), .val (.int p2), .val (.int p3), .val (.int p4), .val (.int p5), .val (.int (0 : Int32)), .val (.ref b418), .val (.ref b430), .val (.ref s_458), .val (.ref b418)] []))
      refine gv (fun tQ kQ => XS.iconst X478.here hx rfl (hb hby at_226) kQ) ?_
      show G (T478.setTop (mkF me_ 227 #[.val (.int p0), .val (.int p1), .val (.int p2), .val (.int p3), .val (.int p4), .val (.int p5), .val (.int (0 : Int32)), .val (.ref b418), .val (.ref b430), .val (.ref s_458), .val (.ref b418)] [(.int (1 : Int32))]))
      refine gf _ (own_ret X478 Bd.notSynchronized (v := some (.int (1 : Int32))) (fun h => by rw [Bd.returns] at h; cases h) ?_ (by decide) (by decide) (fun fs hr => retN X478 hx (t := .boolean) Bd.returns (by simp) (hb hby at_227) hr))
      show Q0 Z p0 p1 p2 p3 p4 p5 cA bxc dA dk cs h0 n0 _ T478.heap _
      rw [eq478]
      exact ⟨rfl, N479⟩
    · refine gv (fun tQ kQ => XS.ifNo X448.here hx rfl (hb hby at_93) rfl ((if0 _ _).trans (feq hc456).1) kQ) ?_
      show G (T448.setTop (mkF me_ 96 #[.val (.int p0), .val (.int p1), .val (.int p2), .val (.int p3), .val (.int p4), .val (.int p5), .val (.int (0 : Int32)), .val (.ref b418), .val (.ref b430), .unset, .unset] []))
      obtain ⟨T480, h480, X480, e480, E480, A480, D480, -, st480⟩ := newO X448 hx hZ hown (hw _ (List.mem_of_getElem? (i := 67) rfl)) (hw _ (List.mem_of_getElem? (i := 37) rfl)) (hw _ (List.mem_of_getElem? (i := 29) rfl)) e448 (g := (mkF me_ 96 #[.val (.int p0), .val (.int p1), .val (.int p2), .val (.int p3), .val (.int p4), .val (.int p5), .val (.int (0 : Int32)), .val (.ref b418), .val (.ref b430), .unset, .unset] [])) rfl (hb hby at_96) (by decide) (by decide)
      obtain ⟨b480, g480⟩ : ∃ z, z = h448.size := ⟨_, rfl⟩
      rw [← g480] at A480 D480 st480
      refine gv st480 ?_
      have ne481 : dA ≠ b480 := Nat.ne_of_lt (Nat.lt_of_lt_of_le (u4.ext O454.2).lt (Nat.le_of_eq g480.symm))
      have ne482 : b418 ≠ b480 := Nat.ne_of_lt (Nat.lt_of_lt_of_le f450.lt (Nat.le_of_eq g480.symm))
      have ne483 : b430 ≠ b480 := Nat.ne_of_lt (Nat.lt_of_lt_of_le f449.lt (Nat.le_of_eq g480.symm))
      have g484 : n0 ≤ b480 := Nat.le_trans (own_old O454) (Nat.le_of_eq g480.symm)
      have f486 : Exa Z h480 b418 "java/util/ArrayList" := f450.ext E480
      have f487 : Fld Z h480 b418 "java/util/AbstractList" "modCount" "I" (.int (0 : Int32)) := f451.ext E480
      have f488 : Fld Z h480 b418 "java/util/ArrayList" "elementData" "[Ljava/lang/Object;" (.ref dA) := f452.ext E480
      have f489 : Fld Z h480 b418 "java/util/ArrayList" "size" "I" (.int (0 : Int32)) := f453.ext E480
      have f490 : Arv Z h480 b430 k430 .char (2 : Int32) [(.int ((p4 &&& (255 : Int32)).toUInt32.toUInt16.toUInt32.toInt32)), (.int ((p5 &&& (255 : Int32)).toUInt32.toUInt16.toUInt32.toInt32))] (.int (0 : Int32)) := f449.ext E480
      have O491 := O454.ext E480
      have f492 : Fld Z h480 b480 "java/lang/String" "value" "[B" .null := D480 (Or.inr (hw _ (List.mem_of_getElem? (i := 48) rfl))) (ty := (.array .byte)) (by decide)
      have f493 : Fld Z h480 b480 "java/lang/String" "coder" "B" (.int (0 : Int32)) := D480 (Or.inr (hw _ (List.mem_of_getElem? (i := 50) rfl))) (ty := .byte) (by decide)
      show G (T480.setTop (mkF me_ 99 #[.val (.int p0), .val (.int p1), .val (.int p2), .val (.int p3), .val (.int p4), .val (.int p5), .val (.int (0 : Int32)), .val (.ref b418), .val (.ref b430), .unset, .unset] [(.ref b480)]))
      refine gv (fun tQ kQ => XS.dup X480.here hx rfl (hb hby at_99) rfl rfl kQ) ?_
      show G (T480.setTop (mkF me_ 100 #[.val (.int p0), .val (.int p1), .val (.int p2), .val (.int p3), .val (.int p4), .val (.int p5), .val (.int (0 : Int32)), .val (.ref b418), .val (.ref b430), .unset, .unset] [(.ref b480), (.ref b480)]))
      refine gv (fun tQ kQ => XS.aload X480.here hx rfl (hb hby at_100) rfl rfl kQ) ?_
      show G (T480.setTop (mkF me_ 102 #[.val (.int p0), .val (.int p1), .val (.int p2), .val (.int p3), .val (.int p4), .val (.int p5), .val (.int (0 : Int32)), .val (.ref b418), .val (.ref b430), .unset, .unset] [(.ref b430), (.ref b480), (.ref b480)]))
      obtain ⟨_, _, ⟨T494, L494, k494, n494⟩, -, X494, ⟨Lc494, hQ494, l494, y494, z494⟩, st494⟩ := X480.specialBack hx (y := (⟨"java/lang/String", "<init>", "([C)V"⟩ : MethodName)) rfl hown (mvT hZ (hw _ (List.mem_of_getElem? (i := 68) rfl))) (mvT hZ (hw _ (List.mem_of_getElem? (i := 69) rfl))) (mvT hZ (hw _ (List.mem_of_getElem? (i := 70) rfl))) (by decide) (backOf (W := 1) (rm_sc l Z a0 hw [] b480 b430 k430 ((p4 &&& (255 : Int32)).toUInt32.toUInt16.toUInt32.toInt32) ((p5 &&& (255 : Int32)).toUInt32.toUInt16.toUInt32.toInt32) cs h480 n0 O491 u5 u6 (own_lt255 p4) (own_lt255 p5) A480 f492 f493 g484 f490 (Ne.symm ne483)) hZ (hw _ (List.mem_of_getElem? (i := 70) rfl)) (hw _ (List.mem_of_getElem? (i := 29) rfl)) (by decide) (by decide)) (g := (mkF me_ 102 #[.val (.int p0), .val (.int p1), .val (.int p2), .val (.int p3), .val (.int p4), .val (.int p5), .val (.int (0 : Int32)), .val (.ref b418), .val (.ref b430), .unset, .unset] [(.ref b430), (.ref b480), (.ref b480)])) rfl (by rw [hml]; rfl) (Steps.refl _) (a := b480) (argsL := [(.ref b430)]) (rest := [(.ref b480)]) (lenOf pd_18 rfl) rfl (by show 2 * 0 + _ ≤ _; exact Nat.le_of_eq rfl) (hb hby at_102) (fun _ _ => ⟨rfl, e480, (by decide : 3 + 1 ≤ _), (by decide : 9 + 2 ≤ _)⟩)
      dsimp only [Pt.U, Pt.locs, Pt.cells, Pt.slots] at X494 l494 y494 z494 st494 hQ494
      subst l494 y494 z494
      obtain ⟨b_494, k_494, rfl, Nq494, Kq494, w494_0, w494_1, w494_2, w494_3, w494_4⟩ := hQ494
      have N495 := Fr.app N455 Nq494
      obtain ⟨h494, e494⟩ : ∃ z, T494.heap = z := ⟨_, rfl⟩
      rw [e494] at Kq494 w494_1 w494_2 w494_3 w494_4
      have ne496 : dA ≠ b_494 := Nat.ne_of_lt (Nat.lt_of_lt_of_le (u4.ext O491.2).lt w494_0)
      have ne497 : b418 ≠ b_494 := Nat.ne_of_lt (Nat.lt_of_lt_of_le f486.lt w494_0)
      have ne498 : b430 ≠ b_494 := Nat.ne_of_lt (Nat.lt_of_lt_of_le f490.lt w494_0)
      have ne499 : b480 ≠ b_494 := Nat.ne_of_lt (Nat.lt_of_lt_of_le A480.lt w494_0)
      have g500 : n0 ≤ b_494 := Nat.le_trans (own_old O491) w494_0
      have f502 : Exa Z h494 b418 "java/util/ArrayList" := f486.keep Kq494
      have f503 : Fld Z h494 b418 "java/util/AbstractList" "modCount" "I" (.int (0 : Int32)) := f487.keep Kq494 (ninS ne482 nin0)
      have f504 : Fld Z h494 b418 "java/util/ArrayList" "elementData" "[Ljava/lang/Object;" (.ref dA) := f488.keep Kq494 (ninS ne482 nin0)
      have f505 : Fld Z h494 b418 "java/util/ArrayList" "size" "I" (.int (0 : Int32)) := f489.keep Kq494 (ninS ne482 nin0)
      have f506 : Arv Z h494 b430 k430 .char (2 : Int32) [(.int ((p4 &&& (255 : Int32)).toUInt32.toUInt16.toUInt32.toInt32)), (.int ((p5 &&& (255 : Int32)).toUInt32.toUInt16.toUInt32.toInt32))] (.int (0 : Int32)) := f490.keep Kq494 (ninS ne483 nin0)
      have f507 : Exa Z h494 b480 "java/lang/String" := A480.keep Kq494
      have O508 := O491.keep Kq494 (allS g484 all0)
      refine gv (fun tQ kQ => st494.trans kQ) ?_
      show G (T494.setTop (mkF me_ 105 #[.val (.int p0), .val (.int p1), .val (.int p2), .val (.int p3), .val (.int p4), .val (.int p5), .val (.int (0 : Int32)), .val (.ref b418), .val (.ref b430), .unset, .unset] [(.ref b480)]))
      refine gv (fun tQ kQ => XS.goto X494.here hx rfl (pc0 := 105) (pc' := 115) rfl (hb hby at_105) (by decide) (by decide) kQ) ?_
      show G (T494.setTop (mkF me_ 115 #[.val (.int p0), .val (.int p1), .val (.int p2), .val (.int p3), .val (.int p4), .val (.int p5), .val (.int (0 : Int32)), .val (.ref b418), .val (.ref b430), .unset, .unset] [(.ref b480)]))
      refine gv (fun tQ kQ => XS.astore X494.here hx rfl (hb hby at_115) rfl rfl (l' := #[.val (.int p0), .val (.int p1), .val (.int p2), .val (.int p3), .val (.int p4), .val (.int p5), .val (.int (0 : Int32)), .val (.ref b418), .val (.ref b430), .val (.ref b480), .unset]) rfl kQ) ?_
      show G (T494.setTop (mkF me_ 117 #[.val (.int p0), .val (.int p1), .val (.int p2), .val (.int p3), .val (.int p4), .val (.int p5), .val (.int (0 : Int32)), .val (.ref b418), .val (.ref b430), .val (.ref b480), .unset] []))
      refine gv (fun tQ kQ => XS.aload X494.here hx rfl (hb hby at_117) rfl rfl kQ) ?_
      show G (T494.setTop (mkF me_ 119 #[.val (.int p0), .val (.int p1), .val (.int p2), .val (.int p3), .val (.int p4), .val (.int p5), .val (.int (0 : Int32)), .val (.ref b418), .val (.ref b430), .val (.ref b480), .unset] [(.ref b418)]))
      refine gv (fun tQ kQ => XS.aload X494.here hx rfl (hb hby at_119) rfl rfl kQ) ?_
      show G (T494.setTop (mkF me_ 121 #[.val (.int p0), .val (.int p1), .val (.int p2), .val (.int p3), .val (.int p4), .val (.int p5), .val (.int (0 : Int32)), .val (.ref b418), .val (.ref b430), .val (.ref b480), .unset] [(.ref b480), (.ref b418)]))
      obtain ⟨_, _, ⟨T509, L509, k509, n509⟩, -, X509, ⟨Lc509, hQ509, l509, y509, z509⟩, st509⟩ := Jvm.LawKit.callS X494 hx (y := (⟨"com/example/slot1/slot1/balance/Options", "array", "(Ljava/lang/Object;Ljava/lang/String;)Ljava/util/List;"⟩ : MethodName)) hown (mvT hZ (hw _ (List.mem_of_getElem? (i := 51) rfl))) (mvT hZ (hw _ (List.mem_of_getElem? (i := 52) rfl))) (mvT hZ (hw _ (List.mem_of_getElem? (i := 53) rfl))) (mvT hZ (hw _ (List.mem_of_getElem? (i := 54) rfl))) (by decide) (backOf (W := 0) (rm_arr l Z a0 hw [] b418 b480 h494 n0 O508 f502) hZ (hw _ (List.mem_of_getElem? (i := 54) rfl)) (hw _ (List.mem_of_getElem? (i := 53) rfl)) (by decide) (by decide)) (g := (mkF me_ 121 #[.val (.int p0), .val (.int p1), .val (.int p2), .val (.int p3), .val (.int p4), .val (.int p5), .val (.int (0 : Int32)), .val (.ref b418), .val (.ref b430), .val (.ref b480), .unset] [(.ref b480), (.ref b418)])) rfl (by rw [hml]; rfl) (argsL := [(.ref b418), (.ref b480)]) (rest := []) (lenOf pd_16 rfl) rfl (by show 2 * 0 + _ ≤ _; exact Nat.le_of_eq rfl) (hb hby at_121) (fun _ _ => ⟨rfl, e494, (by decide : 4 + 0 ≤ _), (by decide : 11 + 0 ≤ _)⟩)
      dsimp only [Pt.U, Pt.locs, Pt.cells, Pt.slots] at X509 l509 y509 z509 st509 hQ509
      subst l509 y509 z509
      obtain ⟨rfl, Nq509, eq509⟩ := hQ509
      have N510 := Fr.app N495 Nq509
      refine gv st509 ?_
      show G (T509.setTop (mkF me_ 124 #[.val (.int p0), .val (.int p1), .val (.int p2), .val (.int p3), .val (.int p4), .val (.int p5), .val (.int (0 : Int32)), .val (.ref b418), .val (.ref b430), .val (.ref b480), .unset] [(.ref b418)]))
      refine gv (fun tQ kQ => XS.astore X509.here hx rfl (hb hby at_124) rfl rfl (l' := #[.val (.int p0), .val (.int p1), .val (.int p2), .val (.int p3), .val (.int p4), .val (.int p5), .val (.int (0 : Int32)), .val (.ref b418), .val (.ref b430), .val (.ref b480), .val (.ref b418)]) rfl kQ) ?_
      show G (T509.setTop (mkF me_ 126 #[.val (.int p0), .val (.int p1), .val (.int p2), .val (.int p3), .val (.int p4), .val (.int p5), .val (.int (0 : Int32)), .val (.ref b418), .val (.ref b430), .val (.ref b480), .val (.ref b418)] []))
      refine gv (fun tQ kQ => XS.aload X509.here hx rfl (hb hby at_126) rfl rfl kQ) ?_
      show G (T509.setTop (mkF me_ 128 #[.val (.int p0), .val (.int p1), .val (.int p2), .val (.int p3), .val (.int p4), .val (.int p5), .val (.int (0 : Int32)), .val (.ref b418), .val (.ref b430), .val (.ref b480), .val (.ref b418)] [(.ref b418)]))
      refine gv (fun tQ kQ => XS.aload X509.here hx rfl (hb hby at_128) rfl rfl kQ) ?_
      show G (T509.setTop (mkF me_ 130 #[.val (.int p0), .val (.int p1), .val (.int p2), .val (.int p3), .val (.int p4), .val (.int p5), .val (.int (0 : Int32)), .val (.ref b418), .val (.ref b430), .val (.ref b480), .val (.ref b418)] [(.ref b418), (.ref b418)]))
      refine gv (fun tQ kQ => Jvm.RoadKit.acmp (g := (mkF me_ 130 #[.val (.int p0), .val (.int p1), .val (.int p2), .val (.int p3), .val (.int p4), .val (.int p5), .val (.int (0 : Int32)), .val (.ref b418), .val (.ref b430), .val (.ref b480), .val (.ref b418)] [(.ref b418), (.ref b418)])) X509 hx rfl rfl rfl (pc0 := 130) (pc' := 135) (same := true) rfl (hb hby at_130) rfl (decide_eq_true rfl) (by decide) (by decide) kQ) ?_
      show G (T509.setTop (mkF me_ 135 #[.val (.int p0), .val (.int p1), .val (.int p2), .val (.int p3), .val (.int p4), .val (.int p5), .val (.int (0 : Int32)), .val (.ref b418), .val (.ref b430), .val (.ref b480), .val (.ref b418)] []))
      refine gv (fun tQ kQ => XS.aload X509.here hx rfl (hb hby at_135) rfl rfl kQ) ?_
      show G (T509.setTop (mkF me_ 137 #[.val (.int p0), .val (.int p1), .val (.int p2), .val (.int p3), .val (.int p4), .val (.int p5), .val (.int (0 : Int32)), .val (.ref b418), .val (.ref b430), .val (.ref b480), .val (.ref b418)] [(.ref b418)]))
      obtain ⟨cq511, kq511, q511a, q511b, q511c⟩ := isOf hZ eq509 f502
      obtain ⟨_, _, ⟨T511, L511, k511, n511⟩, -, X511, ⟨Lc511, hQ511, l511, y511, z511⟩, st511⟩ := X509.interfaceBack hx (xi := (⟨"java/util/List", "size", "()I"⟩ : MethodName)) (y := (⟨"java/util/ArrayList", "size", "()I"⟩ : MethodName)) hown (mvT hZ (hw _ (List.mem_of_getElem? (i := 57) rfl))) (mvT hZ (hw _ (List.mem_of_getElem? (i := 58) rfl))) (mvT hZ (hw _ (List.mem_of_getElem? (i := 59) rfl))) (mvT hZ (hw _ (List.mem_of_getElem? (i := 60) rfl))) (mvT hZ (hw _ (List.mem_of_getElem? (i := 61) rfl))) (mvT hZ (hw _ (List.mem_of_getElem? (i := 62) rfl))) (mvT hZ (hw _ (List.mem_of_getElem? (i := 63) rfl))) (mvT hZ (hw _ (List.mem_of_getElem? (i := 56) rfl))) (by decide) (backOf (W := 0) (rm_size0 l Z a0 hw [] b418 h494 n0 O508 f505) hZ (hw _ (List.mem_of_getElem? (i := 64) rfl)) (hw _ (List.mem_of_getElem? (i := 2) rfl)) (by decide) (by decide)) q511a q511b q511c (g := (mkF me_ 137 #[.val (.int p0), .val (.int p1), .val (.int p2), .val (.int p3), .val (.int p4), .val (.int p5), .val (.int (0 : Int32)), .val (.ref b418), .val (.ref b430), .val (.ref b480), .val (.ref b418)] [(.ref b418)])) rfl (by rw [hml]; rfl) (Steps.refl _) (argsL := []) (rest := []) (lenOf pd_17 rfl) rfl (by show 2 * 0 + _ ≤ _; exact Nat.le_of_eq rfl) (hb hby at_137) (fun _ _ => ⟨rfl, eq509, (by decide : 4 + 0 ≤ _), (by decide : 11 + 0 ≤ _)⟩)
      dsimp only [Pt.U, Pt.locs, Pt.cells, Pt.slots] at X511 l511 y511 z511 st511 hQ511
      subst l511 y511 z511
      obtain ⟨rfl, Nq511, eq511⟩ := hQ511
      have N512 := Fr.app N510 Nq511
      refine gv (fun tQ kQ => st511.trans kQ) ?_
      show G (T511.setTop (mkF me_ 142 #[.val (.int p0), .val (.int p1), .val (.int p2), .val (.int p3), .val (.int p4), .val (.int p5), .val (.int (0 : Int32)), .val (.ref b418), .val (.ref b430), .val (.ref b480), .val (.ref b418)] [(.int (0 : Int32))]))
      refine gv (fun tQ kQ => XS.iload X511.here hx rfl (hb hby at_142) rfl kQ) ?_
      show G (T511.setTop (mkF me_ 144 #[.val (.int p0), .val (.int p1), .val (.int p2), .val (.int p3), .val (.int p4), .val (.int p5), .val (.int (0 : Int32)), .val (.ref b418), .val (.ref b430), .val (.ref b480), .val (.ref b418)] [(.int (0 : Int32)), (.int (0 : Int32))]))
      refine gv (fun tQ kQ => XS.icmpYes X511.here hx rfl (pc0 := 144) (pc' := 149) rfl (hb hby at_144) rfl (teq (by decide : (0 : Int32) = (0 : Int32))).1 (by decide) (by decide) kQ) ?_
      show G (T511.setTop (mkF me_ 149 #[.val (.int p0), .val (.int p1), .val (.int p2), .val (.int p3), .val (.int p4), .val (.int p5), .val (.int (0 : Int32)), .val (.ref b418), .val (.ref b430), .val (.ref b480), .val (.ref b418)] []))
      refine gv (fun tQ kQ => XS.iload X511.here hx rfl (hb hby at_149) rfl kQ) ?_
      show G (T511.setTop (mkF me_ 151 #[.val (.int p0), .val (.int p1), .val (.int p2), .val (.int p3), .val (.int p4), .val (.int p5), .val (.int (0 : Int32)), .val (.ref b418), .val (.ref b430), .val (.ref b480), .val (.ref b418)] [(.int (0 : Int32))]))
      refine gv (fun tQ kQ => XS.ifYes X511.here hx rfl (pc0 := 151) (pc' := 174) rfl (hb hby at_151) rfl ((if0 _ _).trans (flt (by decide : ¬ ((0 : Int32) < (0 : Int32)))).2.2.2) (by decide) (by decide) kQ) ?_
      show G (T511.setTop (mkF me_ 174 #[.val (.int p0), .val (.int p1), .val (.int p2), .val (.int p3), .val (.int p4), .val (.int p5), .val (.int (0 : Int32)), .val (.ref b418), .val (.ref b430), .val (.ref b480), .val (.ref b418)] []))
      refine gv (fun tQ kQ => XS.iload X511.here hx rfl (hb hby at_174) rfl kQ) ?_
      show G (T511.setTop (mkF me_ 176 #[.val (.int p0), .val (.int p1), .val (.int p2), .val (.int p3), .val (.int p4), .val (.int p5), .val (.int (0 : Int32)), .val (.ref b418), .val (.ref b430), .val (.ref b480), .val (.ref b418)] [(.int (0 : Int32))]))
      refine gv (fun tQ kQ => XS.iconst X511.here hx rfl (hb hby at_176) kQ) ?_
      show G (T511.setTop (mkF me_ 177 #[.val (.int p0), .val (.int p1), .val (.int p2), .val (.int p3), .val (.int p4), .val (.int p5), .val (.int (0 : Int32)), .val (.ref b418), .val (.ref b430), .val (.ref b480), .val (.ref b418)] [(.int (1 : Int32)), (.int (0 : Int32))]))
      refine gv (fun tQ kQ => XS.icmpYes X511.here hx rfl (pc0 := 177) (pc' := 200) rfl (hb hby at_177) rfl (flt (by decide : ¬ ((1 : Int32) < (0 : Int32)))).2.2.2 (by decide) (by decide) kQ) ?_
      show G (T511.setTop (mkF me_ 200 #[.val (.int p0), .val (.int p1), .val (.int p2), .val (.int p3), .val (.int p4), .val (.int p5), .val (.int (0 : Int32)), .val (.ref b418), .val (.ref b430), .val (.ref b480), .val (.ref b418)] []))
      refine gv (fun tQ kQ => XS.iload X511.here hx rfl (hb hby at_200) rfl kQ) ?_
      show G (T511.setTop (mkF me_ 202 #[.val (.int p0), .val (.int p1), .val (.int p2), .val (.int p3), .val (.int p4), .val (.int p5), .val (.int (0 : Int32)), .val (.ref b418), .val (.ref b430), .val (.ref b480), .val (.ref b418)] [(.int (0 : Int32))]))
      refine gv (fun tQ kQ => XS.iconst X511.here hx rfl (hb hby at_202) kQ) ?_
      show G (T511.setTop (mkF me_ 203 #[.val (.int p0), .val (.int p1), .val (.int p2), .val (.int p3), .val (.int p4), .val (.int p5), .val (.int (0 : Int32)), .val (.ref b418), .val (.ref b430), .val (.ref b480), .val (.ref b418)] [(.int (2 : Int32)), (.int (0 : Int32))]))
      refine gv (fun tQ kQ => XS.icmpYes X511.here hx rfl (pc0 := 203) (pc' := 226) rfl (hb hby at_203) rfl (flt (by decide : ¬ ((2 : Int32) < (0 : Int32)))).2.2.2 (by decide) (by decide) kQ) ?_
      show G (T511.setTop (mkF me_ 226 #[.val (.int p0), .val (.int p1), .val (.int p2), .val (.int p3), .val (.int p4), .val (.int p5), .val (.int (0 : Int32)), .val (.ref b418), .val (.ref b430), .val (.ref b480), .val (.ref b418)] []))
      refine gv (fun tQ kQ => XS.iconst X511.here hx rfl (hb hby at_226) kQ) ?_
      show G (T511.setTop (mkF me_ 227 #[.val (.int p0), .val (.int p1), .val (.int p2), .val (.int p3), .val (.int p4), .val (.int p5), .val (.int (0 : Int32)), .val (.ref b418), .val (.ref b430), .val (.ref b480), .val (.ref b418)] [(.int (1 : Int32))]))
      refine gf _ (own_ret X511 Bd.notSynchronized (v := some (.int (1 : Int32))) (fun h => by rw [Bd.returns] at h; cases h) ?_ (by decide) (by decide) (fun fs hr => retN X511 hx (t := .boolean) Bd.returns (by simp) (hb hby at_227) hr))
      show Q0 Z p0 p1 p2 p3 p4 p5 cA bxc dA dk cs h0 n0 _ T511.heap _
      rw [eq511]
      exact ⟨rfl, N512⟩
  · rw [q]
    show G (s₁.setTop (mkF me_ 5 #[.val (.int p0), .val (.int p1), .val (.int p2), .val (.int p3), .val (.int p4), .val (.int p5), .val (.int (1 : Int32)), .unset, .unset, .unset, .unset] []))
    obtain ⟨T513, h513, X513, e513, E513, A513, D513, -, st513⟩ := newO X0 hx hZ hown (hw _ (List.mem_of_getElem? (i := 0) rfl)) (hw _ (List.mem_of_getElem? (i := 1) rfl)) (hw _ (List.mem_of_getElem? (i := 2) rfl)) e0 (g := (mkF me_ 5 #[.val (.int p0), .val (.int p1), .val (.int p2), .val (.int p3), .val (.int p4), .val (.int p5), .val (.int (1 : Int32)), .unset, .unset, .unset, .unset] [])) rfl (hb hby at_5) (by decide) (by decide)
    obtain ⟨b513, g513⟩ : ∃ z, z = h0.size := ⟨_, rfl⟩
    rw [← g513] at A513 D513 st513
    refine gv st513 ?_
    have ne514 : dA ≠ b513 := Nat.ne_of_lt (Nat.lt_of_lt_of_le (u4.ext O0.2).lt (Nat.le_of_eq g513.symm))
    have g515 : n0 ≤ b513 := Nat.le_trans (own_old O0) (Nat.le_of_eq g513.symm)
    have O517 := O0.ext E513
    have f518 : Fld Z h513 b513 "java/util/AbstractList" "modCount" "I" (.int (0 : Int32)) := D513 (Or.inl (hw _ (List.mem_of_getElem? (i := 22) rfl))) (ty := .int) (by decide)
    have f519 : Fld Z h513 b513 "java/util/ArrayList" "elementData" "[Ljava/lang/Object;" .null := D513 (Or.inl (hw _ (List.mem_of_getElem? (i := 25) rfl))) (ty := (.array (.object "java/lang/Object"))) (by decide)
    have f520 : Fld Z h513 b513 "java/util/ArrayList" "size" "I" (.int (0 : Int32)) := D513 (Or.inl (hw _ (List.mem_of_getElem? (i := 66) rfl))) (ty := .int) (by decide)
    show G (T513.setTop (mkF me_ 8 #[.val (.int p0), .val (.int p1), .val (.int p2), .val (.int p3), .val (.int p4), .val (.int p5), .val (.int (1 : Int32)), .unset, .unset, .unset, .unset] [(.ref b513)]))
    refine gv (fun tQ kQ => XS.dup X513.here hx rfl (hb hby at_8) rfl rfl kQ) ?_
    show G (T513.setTop (mkF me_ 9 #[.val (.int p0), .val (.int p1), .val (.int p2), .val (.int p3), .val (.int p4), .val (.int p5), .val (.int (1 : Int32)), .unset, .unset, .unset, .unset] [(.ref b513), (.ref b513)]))
    obtain ⟨_, _, ⟨T521, L521, k521, n521⟩, -, X521, ⟨Lc521, hQ521, l521, y521, z521⟩, st521⟩ := X513.specialBack hx (y := (⟨"java/util/ArrayList", "<init>", "()V"⟩ : MethodName)) rfl hown (mvT hZ (hw _ (List.mem_of_getElem? (i := 3) rfl))) (mvT hZ (hw _ (List.mem_of_getElem? (i := 4) rfl))) (mvT hZ (hw _ (List.mem_of_getElem? (i := 5) rfl))) (by decide) (backOf (W := 1) (rm_ali l Z a0 hw [] b513 dA dk h513 n0 O517 u3 u4 A513 f518 f519 f520 g515) hZ (hw _ (List.mem_of_getElem? (i := 5) rfl)) (hw _ (List.mem_of_getElem? (i := 2) rfl)) (by decide) (by decide)) (g := (mkF me_ 9 #[.val (.int p0), .val (.int p1), .val (.int p2), .val (.int p3), .val (.int p4), .val (.int p5), .val (.int (1 : Int32)), .unset, .unset, .unset, .unset] [(.ref b513), (.ref b513)])) rfl (by rw [hml]; rfl) (Steps.refl _) (a := b513) (argsL := []) (rest := [(.ref b513)]) (lenOf pd_0 rfl) rfl (by show 2 * 0 + _ ≤ _; exact Nat.le_of_eq rfl) (hb hby at_9) (fun _ _ => ⟨rfl, e513, (by decide : 1 + 0 ≤ _), (by decide : 3 + 0 ≤ _)⟩)
    dsimp only [Pt.U, Pt.locs, Pt.cells, Pt.slots] at X521 l521 y521 z521 st521 hQ521
    subst l521 y521 z521
    obtain ⟨rfl, Nq521, Kq521, w521_0, w521_1, w521_2, w521_3⟩ := hQ521
    have N522 := Fr.app N0 Nq521
    obtain ⟨h521, e521⟩ : ∃ z, T521.heap = z := ⟨_, rfl⟩
    rw [e521] at Kq521 w521_0 w521_1 w521_2 w521_3
    have f523 : Exa Z h521 b513 "java/util/ArrayList" := A513.keep Kq521
    have O524 := O517.keep Kq521 (allS g515 all0)
    refine gv (fun tQ kQ => st521.trans kQ) ?_
    show G (T521.setTop (mkF me_ 12 #[.val (.int p0), .val (.int p1), .val (.int p2), .val (.int p3), .val (.int p4), .val (.int p5), .val (.int (1 : Int32)), .unset, .unset, .unset, .unset] [(.ref b513)]))
    refine gv (fun tQ kQ => XS.astore X521.here hx rfl (hb hby at_12) rfl rfl (l' := #[.val (.int p0), .val (.int p1), .val (.int p2), .val (.int p3), .val (.int p4), .val (.int p5), .val (.int (1 : Int32)), .val (.ref b513), .unset, .unset, .unset]) rfl kQ) ?_
    show G (T521.setTop (mkF me_ 14 #[.val (.int p0), .val (.int p1), .val (.int p2), .val (.int p3), .val (.int p4), .val (.int p5), .val (.int (1 : Int32)), .val (.ref b513), .unset, .unset, .unset] []))
    refine gv (fun tQ kQ => XS.iload X521.here hx rfl (hb hby at_14) rfl kQ) ?_
    show G (T521.setTop (mkF me_ 16 #[.val (.int p0), .val (.int p1), .val (.int p2), .val (.int p3), .val (.int p4), .val (.int p5), .val (.int (1 : Int32)), .val (.ref b513), .unset, .unset, .unset] [(.int (1 : Int32))]))
    refine gv (fun tQ kQ => XS.ifNo X521.here hx rfl (hb hby at_16) rfl ((if0 _ _).trans (tlt (by decide : (0 : Int32) < (1 : Int32))).2.2.2) kQ) ?_
    show G (T521.setTop (mkF me_ 19 #[.val (.int p0), .val (.int p1), .val (.int p2), .val (.int p3), .val (.int p4), .val (.int p5), .val (.int (1 : Int32)), .val (.ref b513), .unset, .unset, .unset] []))
    refine gv (fun tQ kQ => XS.aload X521.here hx rfl (hb hby at_19) rfl rfl kQ) ?_
    show G (T521.setTop (mkF me_ 21 #[.val (.int p0), .val (.int p1), .val (.int p2), .val (.int p3), .val (.int p4), .val (.int p5), .val (.int (1 : Int32)), .val (.ref b513), .unset, .unset, .unset] [(.ref b513)]))
    refine gv (fun tQ kQ => XS.iloadN X521.here hx rfl (hb hby at_21) rfl kQ) ?_
    show G (T521.setTop (mkF me_ 22 #[.val (.int p0), .val (.int p1), .val (.int p2), .val (.int p3), .val (.int p4), .val (.int p5), .val (.int (1 : Int32)), .val (.ref b513), .unset, .unset, .unset] [(.int p1), (.ref b513)]))
    obtain ⟨_, _, ⟨T525, L525, k525, n525⟩, -, X525, ⟨Lc525, hQ525, l525, y525, z525⟩, st525⟩ := Jvm.LawKit.callS X521 hx (y := (⟨"java/lang/Integer", "valueOf", "(I)Ljava/lang/Integer;"⟩ : MethodName)) hown (mvT hZ (hw _ (List.mem_of_getElem? (i := 84) rfl))) (mvT hZ (hw _ (List.mem_of_getElem? (i := 85) rfl))) (mvT hZ (hw _ (List.mem_of_getElem? (i := 86) rfl))) (mvT hZ (hw _ (List.mem_of_getElem? (i := 87) rfl))) (by decide) (backOf (W := 1) (rm_vo l Z a0 hw [] p1 cA bxc h521 n0 O524 u0 u1 u2) hZ (hw _ (List.mem_of_getElem? (i := 87) rfl)) (hw _ (List.mem_of_getElem? (i := 86) rfl)) (by decide) (by decide)) (g := (mkF me_ 22 #[.val (.int p0), .val (.int p1), .val (.int p2), .val (.int p3), .val (.int p4), .val (.int p5), .val (.int (1 : Int32)), .val (.ref b513), .unset, .unset, .unset] [(.int p1), (.ref b513)])) rfl (by rw [hml]; rfl) (argsL := [(.int p1)]) (rest := [(.ref b513)]) (lenOf pd_19 rfl) rfl (by show 2 * 0 + _ ≤ _; exact Nat.le_of_eq rfl) (hb hby at_22) (fun _ _ => ⟨rfl, e521, (by decide : 1 + 1 ≤ _), (by decide : 3 + 1 ≤ _)⟩)
    dsimp only [Pt.U, Pt.locs, Pt.cells, Pt.slots] at X525 l525 y525 z525 st525 hQ525
    subst l525 y525 z525
    obtain ⟨r_525, rfl, Nq525, Kq525, w525_0, w525_1⟩ := hQ525
    have N526 := Fr.app N522 Nq525
    obtain ⟨h525, e525⟩ : ∃ z, T525.heap = z := ⟨_, rfl⟩
    rw [e525] at Kq525 w525_0 w525_1
    have f527 : Exa Z h525 b513 "java/util/ArrayList" := w521_0.keep Kq525
    have f528 : Fld Z h525 b513 "java/util/AbstractList" "modCount" "I" (.int (0 : Int32)) := w521_1.keep Kq525 nin0
    have f529 : Fld Z h525 b513 "java/util/ArrayList" "elementData" "[Ljava/lang/Object;" (.ref dA) := w521_2.keep Kq525 nin0
    have f530 : Fld Z h525 b513 "java/util/ArrayList" "size" "I" (.int (0 : Int32)) := w521_3.keep Kq525 nin0
    have O531 := O524.keep Kq525 all0
    refine gv st525 ?_
    show G (T525.setTop (mkF me_ 25 #[.val (.int p0), .val (.int p1), .val (.int p2), .val (.int p3), .val (.int p4), .val (.int p5), .val (.int (1 : Int32)), .val (.ref b513), .unset, .unset, .unset] [(.ref r_525), (.ref b513)]))
    obtain ⟨cq532, kq532, q532a, q532b, q532c⟩ := isOf hZ e525 f527
    obtain ⟨_, _, ⟨T532, L532, k532, n532⟩, -, X532, ⟨Lc532, hQ532, l532, y532, z532⟩, st532⟩ := X525.virtualBack hx (y := (⟨"java/util/ArrayList", "add", "(Ljava/lang/Object;)Z"⟩ : MethodName)) (z := (⟨"java/util/ArrayList", "add", "(Ljava/lang/Object;)Z"⟩ : MethodName)) hown (mvT hZ (hw _ (List.mem_of_getElem? (i := 91) rfl))) (mvT hZ (hw _ (List.mem_of_getElem? (i := 92) rfl))) (notFace_of_selects (args := #[]) (mvT hZ (hw _ (List.mem_of_getElem? (i := 94) rfl)))) (mvT hZ (hw _ (List.mem_of_getElem? (i := 94) rfl))) (mvT hZ (hw _ (List.mem_of_getElem? (i := 93) rfl))) (by decide) (backOf (W := 0) (rm_add0 l Z a0 hw [] b513 r_525 dA dk h525 n0 O531 u3 u4 f527 f529 f530 g515 w525_0 f528) hZ (hw _ (List.mem_of_getElem? (i := 95) rfl)) (hw _ (List.mem_of_getElem? (i := 2) rfl)) (by decide) (by decide)) q532a q532c (g := (mkF me_ 25 #[.val (.int p0), .val (.int p1), .val (.int p2), .val (.int p3), .val (.int p4), .val (.int p5), .val (.int (1 : Int32)), .val (.ref b513), .unset, .unset, .unset] [(.ref r_525), (.ref b513)])) rfl (by rw [hml]; rfl) (Steps.refl _) (argsL := [(.ref r_525)]) (rest := []) (lenOf pd_20 rfl) rfl (by show 2 * 0 + _ ≤ _; exact Nat.le_of_eq rfl) (hb hby at_25) (fun _ _ => ⟨rfl, e525, (by decide : 2 + 1 ≤ _), (by decide : 4 + 10 ≤ _)⟩)
    dsimp only [Pt.U, Pt.locs, Pt.cells, Pt.slots] at X532 l532 y532 z532 st532 hQ532
    subst l532 y532 z532
    obtain ⟨b_532, k_532, rfl, Nq532, Kq532, w532_0, w532_1, w532_2, w532_3, w532_4, w532_5, w532_6⟩ := hQ532
    have N533 := Fr.app N526 Nq532
    obtain ⟨h532, e532⟩ : ∃ z, T532.heap = z := ⟨_, rfl⟩
    rw [e532] at Kq532 w532_0 w532_1 w532_2 w532_4 w532_6
    have ne534 : dA ≠ b_532 := Nat.ne_of_lt (Nat.lt_of_lt_of_le (u4.ext O531.2).lt w532_3)
    have ne535 : b513 ≠ b_532 := Nat.ne_of_lt (Nat.lt_of_lt_of_le f527.lt w532_3)
    have ne536 : r_525 ≠ b_532 := Nat.ne_of_lt (Nat.lt_of_lt_of_le w525_0.lt w532_3)
    have g537 : n0 ≤ b_532 := Nat.le_trans (own_old O531) w532_3
    have f539 : Exa Z h532 b513 "java/util/ArrayList" := f527.keep Kq532
    have f540 : Exa Z h532 r_525 "java/lang/Integer" := w525_0.keep Kq532
    have f541 : Fld Z h532 r_525 "java/lang/Integer" "value" "I" (.int p1) := w525_1.keep Kq532 (ninS (ne_exa w525_0 f527 (by decide)) nin0)
    have O542 := O531.keep Kq532 (allS g515 all0)
    refine gv (fun tQ kQ => st532.trans kQ) ?_
    show G (T532.setTop (mkF me_ 28 #[.val (.int p0), .val (.int p1), .val (.int p2), .val (.int p3), .val (.int p4), .val (.int p5), .val (.int (1 : Int32)), .val (.ref b513), .unset, .unset, .unset] [(.int (1 : Int32))]))
    refine gv (fun tQ kQ => XS.pop X532.here hx rfl (hb hby at_28) rfl rfl kQ) ?_
    show G (T532.setTop (mkF me_ 29 #[.val (.int p0), .val (.int p1), .val (.int p2), .val (.int p3), .val (.int p4), .val (.int p5), .val (.int (1 : Int32)), .val (.ref b513), .unset, .unset, .unset] []))
    refine gv (fun tQ kQ => XS.iload X532.here hx rfl (hb hby at_29) rfl kQ) ?_
    show G (T532.setTop (mkF me_ 31 #[.val (.int p0), .val (.int p1), .val (.int p2), .val (.int p3), .val (.int p4), .val (.int p5), .val (.int (1 : Int32)), .val (.ref b513), .unset, .unset, .unset] [(.int (1 : Int32))]))
    refine gv (fun tQ kQ => XS.iconst X532.here hx rfl (hb hby at_31) kQ) ?_
    show G (T532.setTop (mkF me_ 32 #[.val (.int p0), .val (.int p1), .val (.int p2), .val (.int p3), .val (.int p4), .val (.int p5), .val (.int (1 : Int32)), .val (.ref b513), .unset, .unset, .unset] [(.int (1 : Int32)), (.int (1 : Int32))]))
    refine gv (fun tQ kQ => XS.icmpYes X532.here hx rfl (pc0 := 32) (pc' := 45) rfl (hb hby at_32) rfl (flt (by decide : ¬ ((1 : Int32) < (1 : Int32)))).2.2.2 (by decide) (by decide) kQ) ?_
    show G (T532.setTop (mkF me_ 45 #[.val (.int p0), .val (.int p1), .val (.int p2), .val (.int p3), .val (.int p4), .val (.int p5), .val (.int (1 : Int32)), .val (.ref b513), .unset, .unset, .unset] []))
    refine gv (fun tQ kQ => XS.iload X532.here hx rfl (hb hby at_45) rfl kQ) ?_
    show G (T532.setTop (mkF me_ 47 #[.val (.int p0), .val (.int p1), .val (.int p2), .val (.int p3), .val (.int p4), .val (.int p5), .val (.int (1 : Int32)), .val (.ref b513), .unset, .unset, .unset] [(.int (1 : Int32))]))
    refine gv (fun tQ kQ => XS.iconst X532.here hx rfl (hb hby at_47) kQ) ?_
    show G (T532.setTop (mkF me_ 48 #[.val (.int p0), .val (.int p1), .val (.int p2), .val (.int p3), .val (.int p4), .val (.int p5), .val (.int (1 : Int32)), .val (.ref b513), .unset, .unset, .unset] [(.int (2 : Int32)), (.int (1 : Int32))]))
    refine gv (fun tQ kQ => XS.icmpYes X532.here hx rfl (pc0 := 48) (pc' := 61) rfl (hb hby at_48) rfl (flt (by decide : ¬ ((2 : Int32) < (1 : Int32)))).2.2.2 (by decide) (by decide) kQ) ?_
    show G (T532.setTop (mkF me_ 61 #[.val (.int p0), .val (.int p1), .val (.int p2), .val (.int p3), .val (.int p4), .val (.int p5), .val (.int (1 : Int32)), .val (.ref b513), .unset, .unset, .unset] []))
    refine gv (fun tQ kQ => XS.iconst X532.here hx rfl (hb hby at_61) kQ) ?_
    show G (T532.setTop (mkF me_ 62 #[.val (.int p0), .val (.int p1), .val (.int p2), .val (.int p3), .val (.int p4), .val (.int p5), .val (.int (1 : Int32)), .val (.ref b513), .unset, .unset, .unset] [(.int (2 : Int32))]))
    obtain ⟨T543, h543, k543, X543, e543, E543, A543, st543⟩ := newP X532 hx hZ (hw _ (List.mem_of_getElem? (i := 26) rfl)) e532 (g := (mkF me_ 62 #[.val (.int p0), .val (.int p1), .val (.int p2), .val (.int p3), .val (.int p4), .val (.int p5), .val (.int (1 : Int32)), .val (.ref b513), .unset, .unset, .unset] [(.int (2 : Int32))])) rfl (hb hby at_62) rfl (by decide) (cap := 2) (by decide) (by decide) (by decide) (by decide)
    obtain ⟨b543, g543⟩ : ∃ z, z = h532.size := ⟨_, rfl⟩
    rw [← g543] at A543 st543
    refine gv st543 ?_
    have ne544 : dA ≠ b543 := Nat.ne_of_lt (Nat.lt_of_lt_of_le (u4.ext O542.2).lt (Nat.le_of_eq g543.symm))
    have ne545 : b513 ≠ b543 := Nat.ne_of_lt (Nat.lt_of_lt_of_le w532_0.lt (Nat.le_of_eq g543.symm))
    have ne546 : r_525 ≠ b543 := Nat.ne_of_lt (Nat.lt_of_lt_of_le f540.lt (Nat.le_of_eq g543.symm))
    have ne547 : b_532 ≠ b543 := Nat.ne_of_lt (Nat.lt_of_lt_of_le w532_4.lt (Nat.le_of_eq g543.symm))
    have g548 : n0 ≤ b543 := Nat.le_trans (own_old O542) (Nat.le_of_eq g543.symm)
    have f550 : Exa Z h543 b513 "java/util/ArrayList" := w532_0.ext E543
    have f551 : Exa Z h543 r_525 "java/lang/Integer" := f540.ext E543
    have f552 : Fld Z h543 r_525 "java/lang/Integer" "value" "I" (.int p1) := f541.ext E543
    have f553 : Fld Z h543 b513 "java/util/ArrayList" "elementData" "[Ljava/lang/Object;" (.ref b_532) := w532_1.ext E543
    have f554 : Fld Z h543 b513 "java/util/ArrayList" "size" "I" (.int (1 : Int32)) := w532_2.ext E543
    have f555 : Arv Z h543 b_532 k_532 (.object "java/lang/Object") (10 : Int32) [(.ref r_525), .null, .null, .null, .null, .null, .null, .null, .null, .null] .null := w532_4.ext E543
    have f556 : Fld Z h543 b513 "java/util/AbstractList" "modCount" "I" (.int (1 : Int32)) := w532_6.ext E543
    have O557 := O542.ext E543
    have V543 : Arv Z h543 b543 k543 .char (2 : Int32) [(.int (0 : Int32)), (.int (0 : Int32))] (.int (0 : Int32)) := (Arv.new A543 (by decide)).pad (pad_rep [] (.int (0 : Int32)) 2)
    show G (T543.setTop (mkF me_ 64 #[.val (.int p0), .val (.int p1), .val (.int p2), .val (.int p3), .val (.int p4), .val (.int p5), .val (.int (1 : Int32)), .val (.ref b513), .unset, .unset, .unset] [(.ref b543)]))
    refine gv (fun tQ kQ => XS.astore X543.here hx rfl (hb hby at_64) rfl rfl (l' := #[.val (.int p0), .val (.int p1), .val (.int p2), .val (.int p3), .val (.int p4), .val (.int p5), .val (.int (1 : Int32)), .val (.ref b513), .val (.ref b543), .unset, .unset]) rfl kQ) ?_
    show G (T543.setTop (mkF me_ 66 #[.val (.int p0), .val (.int p1), .val (.int p2), .val (.int p3), .val (.int p4), .val (.int p5), .val (.int (1 : Int32)), .val (.ref b513), .val (.ref b543), .unset, .unset] []))
    refine gv (fun tQ kQ => XS.aload X543.here hx rfl (hb hby at_66) rfl rfl kQ) ?_
    show G (T543.setTop (mkF me_ 68 #[.val (.int p0), .val (.int p1), .val (.int p2), .val (.int p3), .val (.int p4), .val (.int p5), .val (.int (1 : Int32)), .val (.ref b513), .val (.ref b543), .unset, .unset] [(.ref b543)]))
    refine gv (fun tQ kQ => XS.iconst X543.here hx rfl (hb hby at_68) kQ) ?_
    show G (T543.setTop (mkF me_ 69 #[.val (.int p0), .val (.int p1), .val (.int p2), .val (.int p3), .val (.int p4), .val (.int p5), .val (.int (1 : Int32)), .val (.ref b513), .val (.ref b543), .unset, .unset] [(.int (0 : Int32)), (.ref b543)]))
    refine gv (fun tQ kQ => XS.iload X543.here hx rfl (hb hby at_69) rfl kQ) ?_
    show G (T543.setTop (mkF me_ 71 #[.val (.int p0), .val (.int p1), .val (.int p2), .val (.int p3), .val (.int p4), .val (.int p5), .val (.int (1 : Int32)), .val (.ref b513), .val (.ref b543), .unset, .unset] [(.int p4), (.int (0 : Int32)), (.ref b543)]))
    refine gv (fun tQ kQ => XS.sipush X543.here hx rfl (hb hby at_71) kQ) ?_
    show G (T543.setTop (mkF me_ 74 #[.val (.int p0), .val (.int p1), .val (.int p2), .val (.int p3), .val (.int p4), .val (.int p5), .val (.int (1 : Int32)), .val (.ref b513), .val (.ref b543), .unset, .unset] [(.int (255 : Int32)), (.int p4), (.int (0 : Int32)), (.ref b543)]))
    refine gv (fun tQ kQ => XS.iand X543.here hx rfl (hb hby at_74) rfl kQ) ?_
    show G (T543.setTop (mkF me_ 75 #[.val (.int p0), .val (.int p1), .val (.int p2), .val (.int p3), .val (.int p4), .val (.int p5), .val (.int (1 : Int32)), .val (.ref b513), .val (.ref b543), .unset, .unset] [(.int (p4 &&& (255 : Int32))), (.int (0 : Int32)), (.ref b543)]))
    refine gv (fun tQ kQ => XS.i2c X543.here hx rfl (hb hby at_75) rfl kQ) ?_
    show G (T543.setTop (mkF me_ 76 #[.val (.int p0), .val (.int p1), .val (.int p2), .val (.int p3), .val (.int p4), .val (.int p5), .val (.int (1 : Int32)), .val (.ref b513), .val (.ref b543), .unset, .unset] [(.int ((p4 &&& (255 : Int32)).toUInt32.toUInt16.toUInt32.toInt32)), (.int (0 : Int32)), (.ref b543)]))
    obtain ⟨cl558, Ar558, q558, S558, n558, H558, G558⟩ := (id V543)
    have in558 : ¬ ((0 : Int32) < 0 ∨ cl558.slots.size ≤ ((0 : Int32)).toNatClampNeg) := inb_of S558 ⟨by decide, by decide⟩
    obtain ⟨T558, h558, X558, e558, W558, st558⟩ := stC X543 hx hZ e543 Ar558 (j := (0 : Int32)) in558 (g := (mkF me_ 76 #[.val (.int p0), .val (.int p1), .val (.int p2), .val (.int p3), .val (.int p4), .val (.int p5), .val (.int (1 : Int32)), .val (.ref b513), .val (.ref b543), .unset, .unset] [(.int ((p4 &&& (255 : Int32)).toUInt32.toUInt16.toUInt32.toInt32)), (.int (0 : Int32)), (.ref b543)])) rfl rfl (hb hby at_76)
    have W558 : Wr h543 h558 b543 ((0 : Int32)).toNatClampNeg (.int ((p4 &&& (255 : Int32)).toUInt32.toUInt16.toUInt32.toInt32)) := by have z := W558; rw [(own_narC _)] at z; exact z
    refine gv st558 ?_
    have f560 : Exa Z h558 b513 "java/util/ArrayList" := f550.wr W558
    have f561 : Exa Z h558 r_525 "java/lang/Integer" := f551.wr W558
    have f562 : Fld Z h558 r_525 "java/lang/Integer" "value" "I" (.int p1) := f552.other W558 (Or.inl ne546)
    have f563 : Fld Z h558 b513 "java/util/ArrayList" "elementData" "[Ljava/lang/Object;" (.ref b_532) := f553.other W558 (Or.inl ne545)
    have f564 : Fld Z h558 b513 "java/util/ArrayList" "size" "I" (.int (1 : Int32)) := f554.other W558 (Or.inl ne545)
    have f565 : Arv Z h558 b_532 k_532 (.object "java/lang/Object") (10 : Int32) [(.ref r_525), .null, .null, .null, .null, .null, .null, .null, .null, .null] .null := f555.other W558 ne547
    have f566 : Fld Z h558 b513 "java/util/AbstractList" "modCount" "I" (.int (1 : Int32)) := f556.other W558 (Or.inl ne545)
    have O567 := O557.wr W558 g548
    have N568 := Fr.snoc X558 N533 g548
    have f559 : Arv Z h558 b543 k543 .char (2 : Int32) [(.int ((p4 &&& (255 : Int32)).toUInt32.toUInt16.toUInt32.toInt32)), (.int (0 : Int32))] (.int (0 : Int32)) := Arv.set Ar558 q558 S558 n558 H558 G558 (fits_nar_char _) W558 0 rfl (Nat.le_of_ble_eq_true rfl)
    show G (T558.setTop (mkF me_ 77 #[.val (.int p0), .val (.int p1), .val (.int p2), .val (.int p3), .val (.int p4), .val (.int p5), .val (.int (1 : Int32)), .val (.ref b513), .val (.ref b543), .unset, .unset] []))
    refine gv (fun tQ kQ => XS.aload X558.here hx rfl (hb hby at_77) rfl rfl kQ) ?_
    show G (T558.setTop (mkF me_ 79 #[.val (.int p0), .val (.int p1), .val (.int p2), .val (.int p3), .val (.int p4), .val (.int p5), .val (.int (1 : Int32)), .val (.ref b513), .val (.ref b543), .unset, .unset] [(.ref b543)]))
    refine gv (fun tQ kQ => XS.iconst X558.here hx rfl (hb hby at_79) kQ) ?_
    show G (T558.setTop (mkF me_ 80 #[.val (.int p0), .val (.int p1), .val (.int p2), .val (.int p3), .val (.int p4), .val (.int p5), .val (.int (1 : Int32)), .val (.ref b513), .val (.ref b543), .unset, .unset] [(.int (1 : Int32)), (.ref b543)]))
    refine gv (fun tQ kQ => XS.iload X558.here hx rfl (hb hby at_80) rfl kQ) ?_
    show G (T558.setTop (mkF me_ 82 #[.val (.int p0), .val (.int p1), .val (.int p2), .val (.int p3), .val (.int p4), .val (.int p5), .val (.int (1 : Int32)), .val (.ref b513), .val (.ref b543), .unset, .unset] [(.int p5), (.int (1 : Int32)), (.ref b543)]))
    refine gv (fun tQ kQ => XS.sipush X558.here hx rfl (hb hby at_82) kQ) ?_
    show G (T558.setTop (mkF me_ 85 #[.val (.int p0), .val (.int p1), .val (.int p2), .val (.int p3), .val (.int p4), .val (.int p5), .val (.int (1 : Int32)), .val (.ref b513), .val (.ref b543), .unset, .unset] [(.int (255 : Int32)), (.int p5), (.int (1 : Int32)), (.ref b543)]))
    refine gv (fun tQ kQ => XS.iand X558.here hx rfl (hb hby at_85) rfl kQ) ?_
    show G (T558.setTop (mkF me_ 86 #[.val (.int p0), .val (.int p1), .val (.int p2), .val (.int p3), .val (.int p4), .val (.int p5), .val (.int (1 : Int32)), .val (.ref b513), .val (.ref b543), .unset, .unset] [(.int (p5 &&& (255 : Int32))), (.int (1 : Int32)), (.ref b543)]))
    refine gv (fun tQ kQ => XS.i2c X558.here hx rfl (hb hby at_86) rfl kQ) ?_
    show G (T558.setTop (mkF me_ 87 #[.val (.int p0), .val (.int p1), .val (.int p2), .val (.int p3), .val (.int p4), .val (.int p5), .val (.int (1 : Int32)), .val (.ref b513), .val (.ref b543), .unset, .unset] [(.int ((p5 &&& (255 : Int32)).toUInt32.toUInt16.toUInt32.toInt32)), (.int (1 : Int32)), (.ref b543)]))
    obtain ⟨cl569, Ar569, q569, S569, n569, H569, G569⟩ := (id f559)
    have in569 : ¬ ((1 : Int32) < 0 ∨ cl569.slots.size ≤ ((1 : Int32)).toNatClampNeg) := inb_of S569 ⟨by decide, by decide⟩
    obtain ⟨T569, h569, X569, e569, W569, st569⟩ := stC X558 hx hZ e558 Ar569 (j := (1 : Int32)) in569 (g := (mkF me_ 87 #[.val (.int p0), .val (.int p1), .val (.int p2), .val (.int p3), .val (.int p4), .val (.int p5), .val (.int (1 : Int32)), .val (.ref b513), .val (.ref b543), .unset, .unset] [(.int ((p5 &&& (255 : Int32)).toUInt32.toUInt16.toUInt32.toInt32)), (.int (1 : Int32)), (.ref b543)])) rfl rfl (hb hby at_87)
    have W569 : Wr h558 h569 b543 ((1 : Int32)).toNatClampNeg (.int ((p5 &&& (255 : Int32)).toUInt32.toUInt16.toUInt32.toInt32)) := by have z := W569; rw [(own_narC _)] at z; exact z
    refine gv st569 ?_
    have f571 : Exa Z h569 b513 "java/util/ArrayList" := f560.wr W569
    have f572 : Exa Z h569 r_525 "java/lang/Integer" := f561.wr W569
    have f573 : Fld Z h569 r_525 "java/lang/Integer" "value" "I" (.int p1) := f562.other W569 (Or.inl ne546)
    have f574 : Fld Z h569 b513 "java/util/ArrayList" "elementData" "[Ljava/lang/Object;" (.ref b_532) := f563.other W569 (Or.inl ne545)
    have f575 : Fld Z h569 b513 "java/util/ArrayList" "size" "I" (.int (1 : Int32)) := f564.other W569 (Or.inl ne545)
    have f576 : Arv Z h569 b_532 k_532 (.object "java/lang/Object") (10 : Int32) [(.ref r_525), .null, .null, .null, .null, .null, .null, .null, .null, .null] .null := f565.other W569 ne547
    have f577 : Fld Z h569 b513 "java/util/AbstractList" "modCount" "I" (.int (1 : Int32)) := f566.other W569 (Or.inl ne545)
    have O578 := O567.wr W569 g548
    have N579 := Fr.snoc X569 N568 g548
    have f570 : Arv Z h569 b543 k543 .char (2 : Int32) [(.int ((p4 &&& (255 : Int32)).toUInt32.toUInt16.toUInt32.toInt32)), (.int ((p5 &&& (255 : Int32)).toUInt32.toUInt16.toUInt32.toInt32))] (.int (0 : Int32)) := Arv.set Ar569 q569 S569 n569 H569 G569 (fits_nar_char _) W569 1 rfl (Nat.le_of_ble_eq_true rfl)
    show G (T569.setTop (mkF me_ 88 #[.val (.int p0), .val (.int p1), .val (.int p2), .val (.int p3), .val (.int p4), .val (.int p5), .val (.int (1 : Int32)), .val (.ref b513), .val (.ref b543), .unset, .unset] []))
    refine gv (fun tQ kQ => XS.iloadN X569.here hx rfl (hb hby at_88) rfl kQ) ?_
    show G (T569.setTop (mkF me_ 89 #[.val (.int p0), .val (.int p1), .val (.int p2), .val (.int p3), .val (.int p4), .val (.int p5), .val (.int (1 : Int32)), .val (.ref b513), .val (.ref b543), .unset, .unset] [(.int p0)]))
    refine gv (fun tQ kQ => XS.iconst X569.here hx rfl (hb hby at_89) kQ) ?_
    show G (T569.setTop (mkF me_ 90 #[.val (.int p0), .val (.int p1), .val (.int p2), .val (.int p3), .val (.int p4), .val (.int p5), .val (.int (1 : Int32)), .val (.ref b513), .val (.ref b543), .unset, .unset] [(.int (2 : Int32)), (.int p0)]))
    refine gv (fun tQ kQ => XS.iushr X569.here hx rfl (hb hby at_90) rfl kQ) ?_
    show G (T569.setTop (mkF me_ 91 #[.val (.int p0), .val (.int p1), .val (.int p2), .val (.int p3), .val (.int p4), .val (.int p5), .val (.int (1 : Int32)), .val (.ref b513), .val (.ref b543), .unset, .unset] [(.int ((p0.toUInt32 >>> ((2 : Int32) &&& 31).toUInt32).toInt32))]))
    refine gv (fun tQ kQ => XS.iconst X569.here hx rfl (hb hby at_91) kQ) ?_
    show G (T569.setTop (mkF me_ 92 #[.val (.int p0), .val (.int p1), .val (.int p2), .val (.int p3), .val (.int p4), .val (.int p5), .val (.int (1 : Int32)), .val (.ref b513), .val (.ref b543), .unset, .unset] [(.int (1 : Int32)), (.int ((p0.toUInt32 >>> ((2 : Int32) &&& 31).toUInt32).toInt32))]))
    refine gv (fun tQ kQ => XS.iand X569.here hx rfl (hb hby at_92) rfl kQ) ?_
    show G (T569.setTop (mkF me_ 93 #[.val (.int p0), .val (.int p1), .val (.int p2), .val (.int p3), .val (.int p4), .val (.int p5), .val (.int (1 : Int32)), .val (.ref b513), .val (.ref b543), .unset, .unset] [(.int (((p0.toUInt32 >>> ((2 : Int32) &&& 31).toUInt32).toInt32) &&& (1 : Int32)))]))
    by_cases hc580 : (((p0.toUInt32 >>> ((2 : Int32) &&& 31).toUInt32).toInt32) &&& (1 : Int32)) = (0 : Int32)
    · refine gv (fun tQ kQ => XS.ifYes X569.here hx rfl (pc0 := 93) (pc' := 108) rfl (hb hby at_93) rfl ((if0 _ _).trans (teq hc580).1) (by decide) (by decide) kQ) ?_
      show G (T569.setTop (mkF me_ 108 #[.val (.int p0), .val (.int p1), .val (.int p2), .val (.int p3), .val (.int p4), .val (.int p5), .val (.int (1 : Int32)), .val (.ref b513), .val (.ref b543), .unset, .unset] []))
      refine gv (fun tQ kQ => XS.aload X569.here hx rfl (hb hby at_108) rfl rfl kQ) ?_
      show G (T569.setTop (mkF me_ 110 #[.val (.int p0), .val (.int p1), .val (.int p2), .val (.int p3), .val (.int p4), .val (.int p5), .val (.int (1 : Int32)), .val (.ref b513), .val (.ref b543), .unset, .unset] [(.ref b543)]))
      refine gv (fun tQ kQ => XS.iconst X569.here hx rfl (hb hby at_110) kQ) ?_
      show G (T569.setTop (mkF me_ 111 #[.val (.int p0), .val (.int p1), .val (.int p2), .val (.int p3), .val (.int p4), .val (.int p5), .val (.int (1 : Int32)), .val (.ref b513), .val (.ref b543), .unset, .unset] [(.int (0 : Int32)), (.ref b543)]))
      obtain ⟨cl581, Ar581, q581, S581, n581, H581, G581⟩ := (id f570)
      have in581 : ¬ ((0 : Int32) < 0 ∨ cl581.slots.size ≤ ((0 : Int32)).toNatClampNeg) := inb_of S581 ⟨by decide, by decide⟩
      refine gv (X569.caload hx (j := (0 : Int32)) (v := (.int ((p4 &&& (255 : Int32)).toUInt32.toUInt16.toUInt32.toInt32))) (by rw [e569]; exact Ar581.1) (State.isArrayOf_alike hZ.alike Ar581.2.1) Ar581.2.2 in581 (Has.at H581 in581 rfl) (g := (mkF me_ 111 #[.val (.int p0), .val (.int p1), .val (.int p2), .val (.int p3), .val (.int p4), .val (.int p5), .val (.int (1 : Int32)), .val (.ref b513), .val (.ref b543), .unset, .unset] [(.int (0 : Int32)), (.ref b543)])) rfl rfl (hb hby at_111)) ?_
      show G (T569.setTop (mkF me_ 112 #[.val (.int p0), .val (.int p1), .val (.int p2), .val (.int p3), .val (.int p4), .val (.int p5), .val (.int (1 : Int32)), .val (.ref b513), .val (.ref b543), .unset, .unset] [(.int ((p4 &&& (255 : Int32)).toUInt32.toUInt16.toUInt32.toInt32))]))
      obtain ⟨_, _, ⟨T582, L582, k582, n582⟩, -, X582, ⟨Lc582, hQ582, l582, y582, z582⟩, st582⟩ := Jvm.LawKit.callS X569 hx (y := (⟨"java/lang/String", "valueOf", "(C)Ljava/lang/String;"⟩ : MethodName)) hown (mvT hZ (hw _ (List.mem_of_getElem? (i := 27) rfl))) (mvT hZ (hw _ (List.mem_of_getElem? (i := 28) rfl))) (mvT hZ (hw _ (List.mem_of_getElem? (i := 29) rfl))) (mvT hZ (hw _ (List.mem_of_getElem? (i := 30) rfl))) (by decide) (backOf (W := 0) (rm_voL l Z a0 hw [] ((p4 &&& (255 : Int32)).toUInt32.toUInt16.toUInt32.toInt32) cs h569 n0 O578 u5 u6 (own_lt255 p4)) hZ (hw _ (List.mem_of_getElem? (i := 30) rfl)) (hw _ (List.mem_of_getElem? (i := 29) rfl)) (by decide) (by decide)) (g := (mkF me_ 112 #[.val (.int p0), .val (.int p1), .val (.int p2), .val (.int p3), .val (.int p4), .val (.int p5), .val (.int (1 : Int32)), .val (.ref b513), .val (.ref b543), .unset, .unset] [(.int ((p4 &&& (255 : Int32)).toUInt32.toUInt16.toUInt32.toInt32))])) rfl (by rw [hml]; rfl) (argsL := [(.int ((p4 &&& (255 : Int32)).toUInt32.toUInt16.toUInt32.toInt32))]) (rest := []) (lenOf pd_15 rfl) rfl (by show 2 * 0 + _ ≤ _; exact Nat.le_of_eq rfl) (hb hby at_112) (fun _ _ => ⟨rfl, e569, (by decide : 4 + 2 ≤ _), (by decide : 16 + 5 ≤ _)⟩)
      dsimp only [Pt.U, Pt.locs, Pt.cells, Pt.slots] at X582 l582 y582 z582 st582 hQ582
      subst l582 y582 z582
      obtain ⟨s_582, b_582, k_582, rfl, Nq582, Kq582, w582_0, w582_1, w582_2, w582_3, w582_4, w582_5, w582_6⟩ := hQ582
      have N583 := Fr.app N579 Nq582
      obtain ⟨h582, e582⟩ : ∃ z, T582.heap = z := ⟨_, rfl⟩
      rw [e582] at Kq582 w582_3 w582_4 w582_5 w582_6
      have ne584 : dA ≠ s_582 := Nat.ne_of_lt (Nat.lt_of_lt_of_le (u4.ext O578.2).lt w582_0)
      have ne585 : b513 ≠ s_582 := Nat.ne_of_lt (Nat.lt_of_lt_of_le f571.lt w582_0)
      have ne586 : r_525 ≠ s_582 := Nat.ne_of_lt (Nat.lt_of_lt_of_le f572.lt w582_0)
      have ne587 : b_532 ≠ s_582 := Nat.ne_of_lt (Nat.lt_of_lt_of_le f576.lt w582_0)
      have ne588 : b543 ≠ s_582 := Nat.ne_of_lt (Nat.lt_of_lt_of_le f570.lt w582_0)
      have g589 : n0 ≤ s_582 := Nat.le_trans (own_old O578) w582_0
      have ne591 : dA ≠ b_582 := Nat.ne_of_lt (Nat.lt_of_lt_of_le (u4.ext O578.2).lt w582_1)
      have ne592 : b513 ≠ b_582 := Nat.ne_of_lt (Nat.lt_of_lt_of_le f571.lt w582_1)
      have ne593 : r_525 ≠ b_582 := Nat.ne_of_lt (Nat.lt_of_lt_of_le f572.lt w582_1)
      have ne594 : b_532 ≠ b_582 := Nat.ne_of_lt (Nat.lt_of_lt_of_le f576.lt w582_1)
      have ne595 : b543 ≠ b_582 := Nat.ne_of_lt (Nat.lt_of_lt_of_le f570.lt w582_1)
      have g596 : n0 ≤ b_582 := Nat.le_trans (own_old O578) w582_1
      have f598 : Exa Z h582 b513 "java/util/ArrayList" := f571.keep Kq582
      have f599 : Exa Z h582 r_525 "java/lang/Integer" := f572.keep Kq582
      have f600 : Fld Z h582 r_525 "java/lang/Integer" "value" "I" (.int p1) := f573.keep Kq582 nin0
      have f601 : Fld Z h582 b513 "java/util/ArrayList" "elementData" "[Ljava/lang/Object;" (.ref b_532) := f574.keep Kq582 nin0
      have f602 : Fld Z h582 b513 "java/util/ArrayList" "size" "I" (.int (1 : Int32)) := f575.keep Kq582 nin0
      have f603 : Arv Z h582 b_532 k_532 (.object "java/lang/Object") (10 : Int32) [(.ref r_525), .null, .null, .null, .null, .null, .null, .null, .null, .null] .null := f576.keep Kq582 nin0
      have f604 : Fld Z h582 b513 "java/util/AbstractList" "modCount" "I" (.int (1 : Int32)) := f577.keep Kq582 nin0
      have f605 : Arv Z h582 b543 k543 .char (2 : Int32) [(.int ((p4 &&& (255 : Int32)).toUInt32.toUInt16.toUInt32.toInt32)), (.int ((p5 &&& (255 : Int32)).toUInt32.toUInt16.toUInt32.toInt32))] (.int (0 : Int32)) := f570.keep Kq582 nin0
      have O606 := O578.keep Kq582 all0
      refine gv st582 ?_
      show G (T582.setTop (mkF me_ 115 #[.val (.int p0), .val (.int p1), .val (.int p2), .val (.int p3), .val (.int p4), .val (.int p5), .val (.int (1 : Int32)), .val (.ref b513), .val (.ref b543), .unset, .unset] [(.ref s_582)]))
      refine gv (fun tQ kQ => XS.astore X582.here hx rfl (hb hby at_115) rfl rfl (l' := #[.val (.int p0), .val (.int p1), .val (.int p2), .val (.int p3), .val (.int p4), .val (.int p5), .val (.int (1 : Int32)), .val (.ref b513), .val (.ref b543), .val (.ref s_582), .unset]) rfl kQ) ?_
      show G (T582.setTop (mkF me_ 117 #[.val (.int p0), .val (.int p1), .val (.int p2), .val (.int p3), .val (.int p4), .val (.int p5), .val (.int (1 : Int32)), .val (.ref b513), .val (.ref b543), .val (.ref s_582), .unset] []))
      refine gv (fun tQ kQ => XS.aload X582.here hx rfl (hb hby at_117) rfl rfl kQ) ?_
      show G (T582.setTop (mkF me_ 119 #[.val (.int p0), .val (.int p1), .val (.int p2), .val (.int p3), .val (.int p4), .val (.int p5), .val (.int (1 : Int32)), .val (.ref b513), .val (.ref b543), .val (.ref s_582), .unset] [(.ref b513)]))
      refine gv (fun tQ kQ => XS.aload X582.here hx rfl (hb hby at_119) rfl rfl kQ) ?_
      show G (T582.setTop (mkF me_ 121 #[.val (.int p0), .val (.int p1), .val (.int p2), .val (.int p3), .val (.int p4), .val (.int p5), .val (.int (1 : Int32)), .val (.ref b513), .val (.ref b543), .val (.ref s_582), .unset] [(.ref s_582), (.ref b513)]))
      obtain ⟨_, _, ⟨T607, L607, k607, n607⟩, -, X607, ⟨Lc607, hQ607, l607, y607, z607⟩, st607⟩ := Jvm.LawKit.callS X582 hx (y := (⟨"com/example/slot1/slot1/balance/Options", "array", "(Ljava/lang/Object;Ljava/lang/String;)Ljava/util/List;"⟩ : MethodName)) hown (mvT hZ (hw _ (List.mem_of_getElem? (i := 51) rfl))) (mvT hZ (hw _ (List.mem_of_getElem? (i := 52) rfl))) (mvT hZ (hw _ (List.mem_of_getElem? (i := 53) rfl))) (mvT hZ (hw _ (List.mem_of_getElem? (i := 54) rfl))) (by decide) (backOf (W := 0) (rm_arr l Z a0 hw [] b513 s_582 h582 n0 O606 f598) hZ (hw _ (List.mem_of_getElem? (i := 54) rfl)) (hw _ (List.mem_of_getElem? (i := 53) rfl)) (by decide) (by decide)) (g := (mkF me_ 121 #[.val (.int p0), .val (.int p1), .val (.int p2), .val (.int p3), .val (.int p4), .val (.int p5), .val (.int (1 : Int32)), .val (.ref b513), .val (.ref b543), .val (.ref s_582), .unset] [(.ref s_582), (.ref b513)])) rfl (by rw [hml]; rfl) (argsL := [(.ref b513), (.ref s_582)]) (rest := []) (lenOf pd_16 rfl) rfl (by show 2 * 0 + _ ≤ _; exact Nat.le_of_eq rfl) (hb hby at_121) (fun _ _ => ⟨rfl, e582, (by decide : 6 + 0 ≤ _), (by decide : 21 + 0 ≤ _)⟩)
      dsimp only [Pt.U, Pt.locs, Pt.cells, Pt.slots] at X607 l607 y607 z607 st607 hQ607
      subst l607 y607 z607
      obtain ⟨rfl, Nq607, eq607⟩ := hQ607
      have N608 := Fr.app N583 Nq607
      refine gv st607 ?_
      show G (T607.setTop (mkF me_ 124 #[.val (.int p0), .val (.int p1), .val (.int p2), .val (.int p3), .val (.int p4), .val (.int p5), .val (.int (1 : Int32)), .val (.ref b513), .val (.ref b543), .val (.ref s_582), .unset] [(.ref b513)]))
      refine gv (fun tQ kQ => XS.astore X607.here hx rfl (hb hby at_124) rfl rfl (l' := #[.val (.int p0), .val (.int p1), .val (.int p2), .val (.int p3), .val (.int p4), .val (.int p5), .val (.int (1 : Int32)), .val (.ref b513), .val (.ref b543), .val (.ref s_582), .val (.ref b513)]) rfl kQ) ?_
      show G (T607.setTop (mkF me_ 126 #[.val (.int p0), .val (.int p1), .val (.int p2), .val (.int p3), .val (.int p4), .val (.int p5), .val (.int (1 : Int32)), .val (.ref b513), .val (.ref b543), .val (.ref s_582), .val (.ref b513)] []))
      refine gv (fun tQ kQ => XS.aload X607.here hx rfl (hb hby at_126) rfl rfl kQ) ?_
      show G (T607.setTop (mkF me_ 128 #[.val (.int p0), .val (.int p1), .val (.int p2), .val (.int p3), .val (.int p4), .val (.int p5), .val (.int (1 : Int32)), .val (.ref b513), .val (.ref b543), .val (.ref s_582), .val (.ref b513)] [(.ref b513)]))
      refine gv (fun tQ kQ => XS.aload X607.here hx rfl (hb hby at_128) rfl rfl kQ) ?_
      show G (T607.setTop (mkF me_ 130 #[.val (.int p0), .val (.int p1), .val (.int p2), .val (.int p3), .val (.int p4), .val (.int p5), .val (.int (1 : Int32)), .val (.ref b513), .val (.ref b543), .val (.ref s_582), .val (.ref b513)] [(.ref b513), (.ref b513)]))
      refine gv (fun tQ kQ => Jvm.RoadKit.acmp (g := (mkF me_ 130 #[.val (.int p0), .val (.int p1), .val (.int p2), .val (.int p3), .val (.int p4), .val (.int p5), .val (.int (1 : Int32)), .val (.ref b513), .val (.ref b543), .val (.ref s_582), .val (.ref b513)] [(.ref b513), (.ref b513)])) X607 hx rfl rfl rfl (pc0 := 130) (pc' := 135) (same := true) rfl (hb hby at_130) rfl (decide_eq_true rfl) (by decide) (by decide) kQ) ?_
      show G (T607.setTop (mkF me_ 135 #[.val (.int p0), .val (.int p1), .val (.int p2), .val (.int p3), .val (.int p4), .val (.int p5), .val (.int (1 : Int32)), .val (.ref b513), .val (.ref b543), .val (.ref s_582), .val (.ref b513)] []))
      refine gv (fun tQ kQ => XS.aload X607.here hx rfl (hb hby at_135) rfl rfl kQ) ?_
      show G (T607.setTop (mkF me_ 137 #[.val (.int p0), .val (.int p1), .val (.int p2), .val (.int p3), .val (.int p4), .val (.int p5), .val (.int (1 : Int32)), .val (.ref b513), .val (.ref b543), .val (.ref s_582), .val (.ref b513)] [(.ref b513)]))
      obtain ⟨cq609, kq609, q609a, q609b, q609c⟩ := isOf hZ eq607 f598
      obtain ⟨_, _, ⟨T609, L609, k609, n609⟩, -, X609, ⟨Lc609, hQ609, l609, y609, z609⟩, st609⟩ := X607.interfaceBack hx (xi := (⟨"java/util/List", "size", "()I"⟩ : MethodName)) (y := (⟨"java/util/ArrayList", "size", "()I"⟩ : MethodName)) hown (mvT hZ (hw _ (List.mem_of_getElem? (i := 57) rfl))) (mvT hZ (hw _ (List.mem_of_getElem? (i := 58) rfl))) (mvT hZ (hw _ (List.mem_of_getElem? (i := 59) rfl))) (mvT hZ (hw _ (List.mem_of_getElem? (i := 60) rfl))) (mvT hZ (hw _ (List.mem_of_getElem? (i := 61) rfl))) (mvT hZ (hw _ (List.mem_of_getElem? (i := 62) rfl))) (mvT hZ (hw _ (List.mem_of_getElem? (i := 63) rfl))) (mvT hZ (hw _ (List.mem_of_getElem? (i := 56) rfl))) (by decide) (backOf (W := 0) (rm_size1 l Z a0 hw [] b513 h582 n0 O606 f602) hZ (hw _ (List.mem_of_getElem? (i := 64) rfl)) (hw _ (List.mem_of_getElem? (i := 2) rfl)) (by decide) (by decide)) q609a q609b q609c (g := (mkF me_ 137 #[.val (.int p0), .val (.int p1), .val (.int p2), .val (.int p3), .val (.int p4), .val (.int p5), .val (.int (1 : Int32)), .val (.ref b513), .val (.ref b543), .val (.ref s_582), .val (.ref b513)] [(.ref b513)])) rfl (by rw [hml]; rfl) (Steps.refl _) (argsL := []) (rest := []) (lenOf pd_17 rfl) rfl (by show 2 * 0 + _ ≤ _; exact Nat.le_of_eq rfl) (hb hby at_137) (fun _ _ => ⟨rfl, eq607, (by decide : 6 + 0 ≤ _), (by decide : 21 + 0 ≤ _)⟩)
      dsimp only [Pt.U, Pt.locs, Pt.cells, Pt.slots] at X609 l609 y609 z609 st609 hQ609
      subst l609 y609 z609
      obtain ⟨rfl, Nq609, eq609⟩ := hQ609
      have N610 := Fr.app N608 Nq609
      refine gv (fun tQ kQ => st609.trans kQ) ?_
      show G (T609.setTop (mkF me_ 142 #[.val (.int p0), .val (.int p1), .val (.int p2), .val (.int p3), .val (.int p4), .val (.int p5), .val (.int (1 : Int32)), .val (.ref b513), .val (.ref b543), .val (.ref s_582), .val (.ref b513)] [(.int (1 : Int32))]))
      refine gv (fun tQ kQ => XS.iload X609.here hx rfl (hb hby at_142) rfl kQ) ?_
      show G (T609.setTop (mkF me_ 144 #[.val (.int p0), .val (.int p1), .val (.int p2), .val (.int p3), .val (.int p4), .val (.int p5), .val (.int (1 : Int32)), .val (.ref b513), .val (.ref b543), .val (.ref s_582), .val (.ref b513)] [(.int (1 : Int32)), (.int (1 : Int32))]))
      refine gv (fun tQ kQ => XS.icmpYes X609.here hx rfl (pc0 := 144) (pc' := 149) rfl (hb hby at_144) rfl (teq (by decide : (1 : Int32) = (1 : Int32))).1 (by decide) (by decide) kQ) ?_
      show G (T609.setTop (mkF me_ 149 #[.val (.int p0), .val (.int p1), .val (.int p2), .val (.int p3), .val (.int p4), .val (.int p5), .val (.int (1 : Int32)), .val (.ref b513), .val (.ref b543), .val (.ref s_582), .val (.ref b513)] []))
      refine gv (fun tQ kQ => XS.iload X609.here hx rfl (hb hby at_149) rfl kQ) ?_
      show G (T609.setTop (mkF me_ 151 #[.val (.int p0), .val (.int p1), .val (.int p2), .val (.int p3), .val (.int p4), .val (.int p5), .val (.int (1 : Int32)), .val (.ref b513), .val (.ref b543), .val (.ref s_582), .val (.ref b513)] [(.int (1 : Int32))]))
      refine gv (fun tQ kQ => XS.ifNo X609.here hx rfl (hb hby at_151) rfl ((if0 _ _).trans (tlt (by decide : (0 : Int32) < (1 : Int32))).2.2.2) kQ) ?_
      show G (T609.setTop (mkF me_ 154 #[.val (.int p0), .val (.int p1), .val (.int p2), .val (.int p3), .val (.int p4), .val (.int p5), .val (.int (1 : Int32)), .val (.ref b513), .val (.ref b543), .val (.ref s_582), .val (.ref b513)] []))
      refine gv (fun tQ kQ => XS.aload X609.here hx rfl (hb hby at_154) rfl rfl kQ) ?_
      show G (T609.setTop (mkF me_ 156 #[.val (.int p0), .val (.int p1), .val (.int p2), .val (.int p3), .val (.int p4), .val (.int p5), .val (.int (1 : Int32)), .val (.ref b513), .val (.ref b543), .val (.ref s_582), .val (.ref b513)] [(.ref b513)]))
      refine gv (fun tQ kQ => XS.iconst X609.here hx rfl (hb hby at_156) kQ) ?_
      show G (T609.setTop (mkF me_ 157 #[.val (.int p0), .val (.int p1), .val (.int p2), .val (.int p3), .val (.int p4), .val (.int p5), .val (.int (1 : Int32)), .val (.ref b513), .val (.ref b543), .val (.ref s_582), .val (.ref b513)] [(.int (0 : Int32)), (.ref b513)]))
      obtain ⟨cq611, kq611, q611a, q611b, q611c⟩ := isOf hZ eq609 f598
      obtain ⟨_, _, ⟨T611, L611, k611, n611⟩, -, X611, ⟨Lc611, hQ611, l611, y611, z611⟩, st611⟩ := X609.interfaceBack hx (xi := (⟨"java/util/List", "get", "(I)Ljava/lang/Object;"⟩ : MethodName)) (y := (⟨"java/util/ArrayList", "get", "(I)Ljava/lang/Object;"⟩ : MethodName)) hown (mvT hZ (hw _ (List.mem_of_getElem? (i := 120) rfl))) (mvT hZ (hw _ (List.mem_of_getElem? (i := 121) rfl))) (mvT hZ (hw _ (List.mem_of_getElem? (i := 122) rfl))) (mvT hZ (hw _ (List.mem_of_getElem? (i := 123) rfl))) (mvT hZ (hw _ (List.mem_of_getElem? (i := 124) rfl))) (mvT hZ (hw _ (List.mem_of_getElem? (i := 125) rfl))) (mvT hZ (hw _ (List.mem_of_getElem? (i := 126) rfl))) (mvT hZ (hw _ (List.mem_of_getElem? (i := 56) rfl))) (by decide) (backOf (W := 0) (rm_get1_0 l Z a0 hw [] b513 b_532 k_532 r_525 h582 n0 O606 f598 f601 f602 f603) hZ (hw _ (List.mem_of_getElem? (i := 127) rfl)) (hw _ (List.mem_of_getElem? (i := 2) rfl)) (by decide) (by decide)) q611a q611b q611c (g := (mkF me_ 157 #[.val (.int p0), .val (.int p1), .val (.int p2), .val (.int p3), .val (.int p4), .val (.int p5), .val (.int (1 : Int32)), .val (.ref b513), .val (.ref b543), .val (.ref s_582), .val (.ref b513)] [(.int (0 : Int32)), (.ref b513)])) rfl (by rw [hml]; rfl) (Steps.refl _) (argsL := [(.int (0 : Int32))]) (rest := []) (lenOf pd_14 rfl) rfl (by show 2 * 0 + _ ≤ _; exact Nat.le_of_eq rfl) (hb hby at_157) (fun _ _ => ⟨rfl, eq609, (by decide : 6 + 0 ≤ _), (by decide : 21 + 0 ≤ _)⟩)
      dsimp only [Pt.U, Pt.locs, Pt.cells, Pt.slots] at X611 l611 y611 z611 st611 hQ611
      subst l611 y611 z611
      obtain ⟨rfl, Nq611, eq611⟩ := hQ611
      have N612 := Fr.app N610 Nq611
      refine gv (fun tQ kQ => st611.trans kQ) ?_
      show G (T611.setTop (mkF me_ 162 #[.val (.int p0), .val (.int p1), .val (.int p2), .val (.int p3), .val (.int p4), .val (.int p5), .val (.int (1 : Int32)), .val (.ref b513), .val (.ref b543), .val (.ref s_582), .val (.ref b513)] [(.ref r_525)]))
      obtain ⟨T613, X613, e613, st613⟩ := castY X611 hx hZ hown (hw _ (List.mem_of_getElem? (i := 141) rfl)) eq611 (Ins.self f599) (g := (mkF me_ 162 #[.val (.int p0), .val (.int p1), .val (.int p2), .val (.int p3), .val (.int p4), .val (.int p5), .val (.int (1 : Int32)), .val (.ref b513), .val (.ref b543), .val (.ref s_582), .val (.ref b513)] [(.ref r_525)])) rfl rfl (hb hby at_162)
      refine gv st613 ?_
      show G (T613.setTop (mkF me_ 165 #[.val (.int p0), .val (.int p1), .val (.int p2), .val (.int p3), .val (.int p4), .val (.int p5), .val (.int (1 : Int32)), .val (.ref b513), .val (.ref b543), .val (.ref s_582), .val (.ref b513)] [(.ref r_525)]))
      obtain ⟨cq614, kq614, q614a, q614b, q614c⟩ := isOf hZ e613 f599
      obtain ⟨_, _, ⟨T614, L614, k614, n614⟩, -, X614, ⟨Lc614, hQ614, l614, y614, z614⟩, st614⟩ := X613.virtualBack hx (y := (⟨"java/lang/Integer", "intValue", "()I"⟩ : MethodName)) (z := (⟨"java/lang/Integer", "intValue", "()I"⟩ : MethodName)) hown (mvT hZ (hw _ (List.mem_of_getElem? (i := 143) rfl))) (mvT hZ (hw _ (List.mem_of_getElem? (i := 144) rfl))) (notFace_of_selects (args := #[]) (mvT hZ (hw _ (List.mem_of_getElem? (i := 146) rfl)))) (mvT hZ (hw _ (List.mem_of_getElem? (i := 146) rfl))) (mvT hZ (hw _ (List.mem_of_getElem? (i := 145) rfl))) (by decide) (backOf (W := 0) (rm_iv l Z a0 hw [] r_525 p1 h582 n0 O606 f600) hZ (hw _ (List.mem_of_getElem? (i := 147) rfl)) (hw _ (List.mem_of_getElem? (i := 86) rfl)) (by decide) (by decide)) q614a q614c (g := (mkF me_ 165 #[.val (.int p0), .val (.int p1), .val (.int p2), .val (.int p3), .val (.int p4), .val (.int p5), .val (.int (1 : Int32)), .val (.ref b513), .val (.ref b543), .val (.ref s_582), .val (.ref b513)] [(.ref r_525)])) rfl (by rw [hml]; rfl) (Steps.refl _) (argsL := []) (rest := []) (lenOf pd_17 rfl) rfl (by show 2 * 0 + _ ≤ _; exact Nat.le_of_eq rfl) (hb hby at_165) (fun _ _ => ⟨rfl, e613, (by decide : 6 + 0 ≤ _), (by decide : 21 + 0 ≤ _)⟩)
      dsimp only [Pt.U, Pt.locs, Pt.cells, Pt.slots] at X614 l614 y614 z614 st614 hQ614
      subst l614 y614 z614
      obtain ⟨rfl, Nq614, eq614⟩ := hQ614
      have N615 := Fr.app N612 Nq614
      refine gv (fun tQ kQ => st614.trans kQ) ?_
      show G (T614.setTop (mkF me_ 168 #[.val (.int p0), .val (.int p1), .val (.int p2), .val (.int p3), .val (.int p4), .val (.int p5), .val (.int (1 : Int32)), .val (.ref b513), .val (.ref b543), .val (.ref s_582), .val (.ref b513)] [(.int p1)]))
      refine gv (fun tQ kQ => XS.iloadN X614.here hx rfl (hb hby at_168) rfl kQ) ?_
      show G (T614.setTop (mkF me_ 169 #[.val (.int p0), .val (.int p1), .val (.int p2), .val (.int p3), .val (.int p4), .val (.int p5), .val (.int (1 : Int32)), .val (.ref b513), .val (.ref b543), .val (.ref s_582), .val (.ref b513)] [(.int p1), (.int p1)]))
      refine gv (fun tQ kQ => XS.icmpYes X614.here hx rfl (pc0 := 169) (pc' := 174) rfl (hb hby at_169) rfl (teq (rfl : p1 = p1)).1 (by decide) (by decide) kQ) ?_
      show G (T614.setTop (mkF me_ 174 #[.val (.int p0), .val (.int p1), .val (.int p2), .val (.int p3), .val (.int p4), .val (.int p5), .val (.int (1 : Int32)), .val (.ref b513), .val (.ref b543), .val (.ref s_582), .val (.ref b513)] []))
      refine gv (fun tQ kQ => XS.iload X614.here hx rfl (hb hby at_174) rfl kQ) ?_
      show G (T614.setTop (mkF me_ 176 #[.val (.int p0), .val (.int p1), .val (.int p2), .val (.int p3), .val (.int p4), .val (.int p5), .val (.int (1 : Int32)), .val (.ref b513), .val (.ref b543), .val (.ref s_582), .val (.ref b513)] [(.int (1 : Int32))]))
      refine gv (fun tQ kQ => XS.iconst X614.here hx rfl (hb hby at_176) kQ) ?_
      show G (T614.setTop (mkF me_ 177 #[.val (.int p0), .val (.int p1), .val (.int p2), .val (.int p3), .val (.int p4), .val (.int p5), .val (.int (1 : Int32)), .val (.ref b513), .val (.ref b543), .val (.ref s_582), .val (.ref b513)] [(.int (1 : Int32)), (.int (1 : Int32))]))
      refine gv (fun tQ kQ => XS.icmpYes X614.here hx rfl (pc0 := 177) (pc' := 200) rfl (hb hby at_177) rfl (flt (by decide : ¬ ((1 : Int32) < (1 : Int32)))).2.2.2 (by decide) (by decide) kQ) ?_
      show G (T614.setTop (mkF me_ 200 #[.val (.int p0), .val (.int p1), .val (.int p2), .val (.int p3), .val (.int p4), .val (.int p5), .val (.int (1 : Int32)), .val (.ref b513), .val (.ref b543), .val (.ref s_582), .val (.ref b513)] []))
      refine gv (fun tQ kQ => XS.iload X614.here hx rfl (hb hby at_200) rfl kQ) ?_
      show G (T614.setTop (mkF me_ 202 #[.val (.int p0), .val (.int p1), .val (.int p2), .val (.int p3), .val (.int p4), .val (.int p5), .val (.int (1 : Int32)), .val (.ref b513), .val (.ref b543), .val (.ref s_582), .val (.ref b513)] [(.int (1 : Int32))]))
      refine gv (fun tQ kQ => XS.iconst X614.here hx rfl (hb hby at_202) kQ) ?_
      show G (T614.setTop (mkF me_ 203 #[.val (.int p0), .val (.int p1), .val (.int p2), .val (.int p3), .val (.int p4), .val (.int p5), .val (.int (1 : Int32)), .val (.ref b513), .val (.ref b543), .val (.ref s_582), .val (.ref b513)] [(.int (2 : Int32)), (.int (1 : Int32))]))
      refine gv (fun tQ kQ => XS.icmpYes X614.here hx rfl (pc0 := 203) (pc' := 226) rfl (hb hby at_203) rfl (flt (by decide : ¬ ((2 : Int32) < (1 : Int32)))).2.2.2 (by decide) (by decide) kQ) ?_
      show G (T614.setTop (mkF me_ 226 #[.val (.int p0), .val (.int p1), .val (.int p2), .val (.int p3), .val (.int p4), .val (.int p5), .val (.int (1 : Int32)), .val (.ref b513), .val (.ref b543), .val (.ref s_582), .val (.ref b513)] []))
      refine gv (fun tQ kQ => XS.iconst X614.here hx rfl (hb hby at_226) kQ) ?_
      show G (T614.setTop (mkF me_ 227 #[.val (.int p0), .val (.int p1), .val (.int p2), .val (.int p3), .val (.int p4), .val (.int p5), .val (.int (1 : Int32)), .val (.ref b513), .val (.ref b543), .val (.ref s_582), .val (.ref b513)] [(.int (1 : Int32))]))
      refine gf _ (own_ret X614 Bd.notSynchronized (v := some (.int (1 : Int32))) (fun h => by rw [Bd.returns] at h; cases h) ?_ (by decide) (by decide) (fun fs hr => retN X614 hx (t := .boolean) Bd.returns (by simp) (hb hby at_227) hr))
      show Q0 Z p0 p1 p2 p3 p4 p5 cA bxc dA dk cs h0 n0 _ T614.heap _
      rw [eq614]
      exact ⟨rfl, N615⟩
    · refine gv (fun tQ kQ => XS.ifNo X569.here hx rfl (hb hby at_93) rfl ((if0 _ _).trans (feq hc580).1) kQ) ?_
      show G (T569.setTop (mkF me_ 96 #[.val (.int p0), .val (.int p1), .val (.int p2), .val (.int p3), .val (.int p4), .val (.int p5), .val (.int (1 : Int32)), .val (.ref b513), .val (.ref b543), .unset, .unset] []))
      obtain ⟨T616, h616, X616, e616, E616, A616, D616, -, st616⟩ := newO X569 hx hZ hown (hw _ (List.mem_of_getElem? (i := 67) rfl)) (hw _ (List.mem_of_getElem? (i := 37) rfl)) (hw _ (List.mem_of_getElem? (i := 29) rfl)) e569 (g := (mkF me_ 96 #[.val (.int p0), .val (.int p1), .val (.int p2), .val (.int p3), .val (.int p4), .val (.int p5), .val (.int (1 : Int32)), .val (.ref b513), .val (.ref b543), .unset, .unset] [])) rfl (hb hby at_96) (by decide) (by decide)
      obtain ⟨b616, g616⟩ : ∃ z, z = h569.size := ⟨_, rfl⟩
      rw [← g616] at A616 D616 st616
      refine gv st616 ?_
      have ne617 : dA ≠ b616 := Nat.ne_of_lt (Nat.lt_of_lt_of_le (u4.ext O578.2).lt (Nat.le_of_eq g616.symm))
      have ne618 : b513 ≠ b616 := Nat.ne_of_lt (Nat.lt_of_lt_of_le f571.lt (Nat.le_of_eq g616.symm))
      have ne619 : r_525 ≠ b616 := Nat.ne_of_lt (Nat.lt_of_lt_of_le f572.lt (Nat.le_of_eq g616.symm))
      have ne620 : b_532 ≠ b616 := Nat.ne_of_lt (Nat.lt_of_lt_of_le f576.lt (Nat.le_of_eq g616.symm))
      have ne621 : b543 ≠ b616 := Nat.ne_of_lt (Nat.lt_of_lt_of_le f570.lt (Nat.le_of_eq g616.symm))
      have g622 : n0 ≤ b616 := Nat.le_trans (own_old O578) (Nat.le_of_eq g616.symm)
      have f624 : Exa Z h616 b513 "java/util/ArrayList" := f571.ext E616
      have f625 : Exa Z h616 r_525 "java/lang/Integer" := f572.ext E616
      have f626 : Fld Z h616 r_525 "java/lang/Integer" "value" "I" (.int p1) := f573.ext E616
      have f627 : Fld Z h616 b513 "java/util/ArrayList" "elementData" "[Ljava/lang/Object;" (.ref b_532) := f574.ext E616
      have f628 : Fld Z h616 b513 "java/util/ArrayList" "size" "I" (.int (1 : Int32)) := f575.ext E616
      have f629 : Arv Z h616 b_532 k_532 (.object "java/lang/Object") (10 : Int32) [(.ref r_525), .null, .null, .null, .null, .null, .null, .null, .null, .null] .null := f576.ext E616
      have f630 : Fld Z h616 b513 "java/util/AbstractList" "modCount" "I" (.int (1 : Int32)) := f577.ext E616
      have f631 : Arv Z h616 b543 k543 .char (2 : Int32) [(.int ((p4 &&& (255 : Int32)).toUInt32.toUInt16.toUInt32.toInt32)), (.int ((p5 &&& (255 : Int32)).toUInt32.toUInt16.toUInt32.toInt32))] (.int (0 : Int32)) := f570.ext E616
      have O632 := O578.ext E616
      have f633 : Fld Z h616 b616 "java/lang/String" "value" "[B" .null := D616 (Or.inr (hw _ (List.mem_of_getElem? (i := 48) rfl))) (ty := (.array .byte)) (by decide)
      have f634 : Fld Z h616 b616 "java/lang/String" "coder" "B" (.int (0 : Int32)) := D616 (Or.inr (hw _ (List.mem_of_getElem? (i := 50) rfl))) (ty := .byte) (by decide)
      show G (T616.setTop (mkF me_ 99 #[.val (.int p0), .val (.int p1), .val (.int p2), .val (.int p3), .val (.int p4), .val (.int p5), .val (.int (1 : Int32)), .val (.ref b513), .val (.ref b543), .unset, .unset] [(.ref b616)]))
      refine gv (fun tQ kQ => XS.dup X616.here hx rfl (hb hby at_99) rfl rfl kQ) ?_
      show G (T616.setTop (mkF me_ 100 #[.val (.int p0), .val (.int p1), .val (.int p2), .val (.int p3), .val (.int p4), .val (.int p5), .val (.int (1 : Int32)), .val (.ref b513), .val (.ref b543), .unset, .unset] [(.ref b616), (.ref b616)]))
      refine gv (fun tQ kQ => XS.aload X616.here hx rfl (hb hby at_100) rfl rfl kQ) ?_
      show G (T616.setTop (mkF me_ 102 #[.val (.int p0), .val (.int p1), .val (.int p2), .val (.int p3), .val (.int p4), .val (.int p5), .val (.int (1 : Int32)), .val (.ref b513), .val (.ref b543), .unset, .unset] [(.ref b543), (.ref b616), (.ref b616)]))
      obtain ⟨_, _, ⟨T635, L635, k635, n635⟩, -, X635, ⟨Lc635, hQ635, l635, y635, z635⟩, st635⟩ := X616.specialBack hx (y := (⟨"java/lang/String", "<init>", "([C)V"⟩ : MethodName)) rfl hown (mvT hZ (hw _ (List.mem_of_getElem? (i := 68) rfl))) (mvT hZ (hw _ (List.mem_of_getElem? (i := 69) rfl))) (mvT hZ (hw _ (List.mem_of_getElem? (i := 70) rfl))) (by decide) (backOf (W := 1) (rm_sc l Z a0 hw [] b616 b543 k543 ((p4 &&& (255 : Int32)).toUInt32.toUInt16.toUInt32.toInt32) ((p5 &&& (255 : Int32)).toUInt32.toUInt16.toUInt32.toInt32) cs h616 n0 O632 u5 u6 (own_lt255 p4) (own_lt255 p5) A616 f633 f634 g622 f631 (Ne.symm ne621)) hZ (hw _ (List.mem_of_getElem? (i := 70) rfl)) (hw _ (List.mem_of_getElem? (i := 29) rfl)) (by decide) (by decide)) (g := (mkF me_ 102 #[.val (.int p0), .val (.int p1), .val (.int p2), .val (.int p3), .val (.int p4), .val (.int p5), .val (.int (1 : Int32)), .val (.ref b513), .val (.ref b543), .unset, .unset] [(.ref b543), (.ref b616), (.ref b616)])) rfl (by rw [hml]; rfl) (Steps.refl _) (a := b616) (argsL := [(.ref b543)]) (rest := [(.ref b616)]) (lenOf pd_18 rfl) rfl (by show 2 * 0 + _ ≤ _; exact Nat.le_of_eq rfl) (hb hby at_102) (fun _ _ => ⟨rfl, e616, (by decide : 5 + 1 ≤ _), (by decide : 20 + 2 ≤ _)⟩)
      dsimp only [Pt.U, Pt.locs, Pt.cells, Pt.slots] at X635 l635 y635 z635 st635 hQ635
      subst l635 y635 z635
      obtain ⟨b_635, k_635, rfl, Nq635, Kq635, w635_0, w635_1, w635_2, w635_3, w635_4⟩ := hQ635
      have N636 := Fr.app N579 Nq635
      obtain ⟨h635, e635⟩ : ∃ z, T635.heap = z := ⟨_, rfl⟩
      rw [e635] at Kq635 w635_1 w635_2 w635_3 w635_4
      have ne637 : dA ≠ b_635 := Nat.ne_of_lt (Nat.lt_of_lt_of_le (u4.ext O632.2).lt w635_0)
      have ne638 : b513 ≠ b_635 := Nat.ne_of_lt (Nat.lt_of_lt_of_le f624.lt w635_0)
      have ne639 : r_525 ≠ b_635 := Nat.ne_of_lt (Nat.lt_of_lt_of_le f625.lt w635_0)
      have ne640 : b_532 ≠ b_635 := Nat.ne_of_lt (Nat.lt_of_lt_of_le f629.lt w635_0)
      have ne641 : b543 ≠ b_635 := Nat.ne_of_lt (Nat.lt_of_lt_of_le f631.lt w635_0)
      have ne642 : b616 ≠ b_635 := Nat.ne_of_lt (Nat.lt_of_lt_of_le A616.lt w635_0)
      have g643 : n0 ≤ b_635 := Nat.le_trans (own_old O632) w635_0
      have f645 : Exa Z h635 b513 "java/util/ArrayList" := f624.keep Kq635
      have f646 : Exa Z h635 r_525 "java/lang/Integer" := f625.keep Kq635
      have f647 : Fld Z h635 r_525 "java/lang/Integer" "value" "I" (.int p1) := f626.keep Kq635 (ninS ne619 nin0)
      have f648 : Fld Z h635 b513 "java/util/ArrayList" "elementData" "[Ljava/lang/Object;" (.ref b_532) := f627.keep Kq635 (ninS ne618 nin0)
      have f649 : Fld Z h635 b513 "java/util/ArrayList" "size" "I" (.int (1 : Int32)) := f628.keep Kq635 (ninS ne618 nin0)
      have f650 : Arv Z h635 b_532 k_532 (.object "java/lang/Object") (10 : Int32) [(.ref r_525), .null, .null, .null, .null, .null, .null, .null, .null, .null] .null := f629.keep Kq635 (ninS ne620 nin0)
      have f651 : Fld Z h635 b513 "java/util/AbstractList" "modCount" "I" (.int (1 : Int32)) := f630.keep Kq635 (ninS ne618 nin0)
      have f652 : Arv Z h635 b543 k543 .char (2 : Int32) [(.int ((p4 &&& (255 : Int32)).toUInt32.toUInt16.toUInt32.toInt32)), (.int ((p5 &&& (255 : Int32)).toUInt32.toUInt16.toUInt32.toInt32))] (.int (0 : Int32)) := f631.keep Kq635 (ninS ne621 nin0)
      have f653 : Exa Z h635 b616 "java/lang/String" := A616.keep Kq635
      have O654 := O632.keep Kq635 (allS g622 all0)
      refine gv (fun tQ kQ => st635.trans kQ) ?_
      show G (T635.setTop (mkF me_ 105 #[.val (.int p0), .val (.int p1), .val (.int p2), .val (.int p3), .val (.int p4), .val (.int p5), .val (.int (1 : Int32)), .val (.ref b513), .val (.ref b543), .unset, .unset] [(.ref b616)]))
      refine gv (fun tQ kQ => XS.goto X635.here hx rfl (pc0 := 105) (pc' := 115) rfl (hb hby at_105) (by decide) (by decide) kQ) ?_
      show G (T635.setTop (mkF me_ 115 #[.val (.int p0), .val (.int p1), .val (.int p2), .val (.int p3), .val (.int p4), .val (.int p5), .val (.int (1 : Int32)), .val (.ref b513), .val (.ref b543), .unset, .unset] [(.ref b616)]))
      refine gv (fun tQ kQ => XS.astore X635.here hx rfl (hb hby at_115) rfl rfl (l' := #[.val (.int p0), .val (.int p1), .val (.int p2), .val (.int p3), .val (.int p4), .val (.int p5), .val (.int (1 : Int32)), .val (.ref b513), .val (.ref b543), .val (.ref b616), .unset]) rfl kQ) ?_
      show G (T635.setTop (mkF me_ 117 #[.val (.int p0), .val (.int p1), .val (.int p2), .val (.int p3), .val (.int p4), .val (.int p5), .val (.int (1 : Int32)), .val (.ref b513), .val (.ref b543), .val (.ref b616), .unset] []))
      refine gv (fun tQ kQ => XS.aload X635.here hx rfl (hb hby at_117) rfl rfl kQ) ?_
      show G (T635.setTop (mkF me_ 119 #[.val (.int p0), .val (.int p1), .val (.int p2), .val (.int p3), .val (.int p4), .val (.int p5), .val (.int (1 : Int32)), .val (.ref b513), .val (.ref b543), .val (.ref b616), .unset] [(.ref b513)]))
      refine gv (fun tQ kQ => XS.aload X635.here hx rfl (hb hby at_119) rfl rfl kQ) ?_
      show G (T635.setTop (mkF me_ 121 #[.val (.int p0), .val (.int p1), .val (.int p2), .val (.int p3), .val (.int p4), .val (.int p5), .val (.int (1 : Int32)), .val (.ref b513), .val (.ref b543), .val (.ref b616), .unset] [(.ref b616), (.ref b513)]))
      obtain ⟨_, _, ⟨T655, L655, k655, n655⟩, -, X655, ⟨Lc655, hQ655, l655, y655, z655⟩, st655⟩ := Jvm.LawKit.callS X635 hx (y := (⟨"com/example/slot1/slot1/balance/Options", "array", "(Ljava/lang/Object;Ljava/lang/String;)Ljava/util/List;"⟩ : MethodName)) hown (mvT hZ (hw _ (List.mem_of_getElem? (i := 51) rfl))) (mvT hZ (hw _ (List.mem_of_getElem? (i := 52) rfl))) (mvT hZ (hw _ (List.mem_of_getElem? (i := 53) rfl))) (mvT hZ (hw _ (List.mem_of_getElem? (i := 54) rfl))) (by decide) (backOf (W := 0) (rm_arr l Z a0 hw [] b513 b616 h635 n0 O654 f645) hZ (hw _ (List.mem_of_getElem? (i := 54) rfl)) (hw _ (List.mem_of_getElem? (i := 53) rfl)) (by decide) (by decide)) (g := (mkF me_ 121 #[.val (.int p0), .val (.int p1), .val (.int p2), .val (.int p3), .val (.int p4), .val (.int p5), .val (.int (1 : Int32)), .val (.ref b513), .val (.ref b543), .val (.ref b616), .unset] [(.ref b616), (.ref b513)])) rfl (by rw [hml]; rfl) (argsL := [(.ref b513), (.ref b616)]) (rest := []) (lenOf pd_16 rfl) rfl (by show 2 * 0 + _ ≤ _; exact Nat.le_of_eq rfl) (hb hby at_121) (fun _ _ => ⟨rfl, e635, (by decide : 6 + 0 ≤ _), (by decide : 22 + 0 ≤ _)⟩)
      dsimp only [Pt.U, Pt.locs, Pt.cells, Pt.slots] at X655 l655 y655 z655 st655 hQ655
      subst l655 y655 z655
      obtain ⟨rfl, Nq655, eq655⟩ := hQ655
      have N656 := Fr.app N636 Nq655
      refine gv st655 ?_
      show G (T655.setTop (mkF me_ 124 #[.val (.int p0), .val (.int p1), .val (.int p2), .val (.int p3), .val (.int p4), .val (.int p5), .val (.int (1 : Int32)), .val (.ref b513), .val (.ref b543), .val (.ref b616), .unset] [(.ref b513)]))
      refine gv (fun tQ kQ => XS.astore X655.here hx rfl (hb hby at_124) rfl rfl (l' := #[.val (.int p0), .val (.int p1), .val (.int p2), .val (.int p3), .val (.int p4), .val (.int p5), .val (.int (1 : Int32)), .val (.ref b513), .val (.ref b543), .val (.ref b616), .val (.ref b513)]) rfl kQ) ?_
      show G (T655.setTop (mkF me_ 126 #[.val (.int p0), .val (.int p1), .val (.int p2), .val (.int p3), .val (.int p4), .val (.int p5), .val (.int (1 : Int32)), .val (.ref b513), .val (.ref b543), .val (.ref b616), .val (.ref b513)] []))
      refine gv (fun tQ kQ => XS.aload X655.here hx rfl (hb hby at_126) rfl rfl kQ) ?_
      show G (T655.setTop (mkF me_ 128 #[.val (.int p0), .val (.int p1), .val (.int p2), .val (.int p3), .val (.int p4), .val (.int p5), .val (.int (1 : Int32)), .val (.ref b513), .val (.ref b543), .val (.ref b616), .val (.ref b513)] [(.ref b513)]))
      refine gv (fun tQ kQ => XS.aload X655.here hx rfl (hb hby at_128) rfl rfl kQ) ?_
      show G (T655.setTop (mkF me_ 130 #[.val (.int p0), .val (.int p1), .val (.int p2), .val (.int p3), .val (.int p4), .val (.int p5), .val (.int (1 : Int32)), .val (.ref b513), .val (.ref b543), .val (.ref b616), .val (.ref b513)] [(.ref b513), (.ref b513)]))
      refine gv (fun tQ kQ => Jvm.RoadKit.acmp (g := (mkF me_ 130 #[.val (.int p0), .val (.int p1), .val (.int p2), .val (.int p3), .val (.int p4), .val (.int p5), .val (.int (1 : Int32)), .val (.ref b513), .val (.ref b543), .val (.ref b616), .val (.ref b513)] [(.ref b513), (.ref b513)])) X655 hx rfl rfl rfl (pc0 := 130) (pc' := 135) (same := true) rfl (hb hby at_130) rfl (decide_eq_true rfl) (by decide) (by decide) kQ) ?_
      show G (T655.setTop (mkF me_ 135 #[.val (.int p0), .val (.int p1), .val (.int p2), .val (.int p3), .val (.int p4), .val (.int p5), .val (.int (1 : Int32)), .val (.ref b513), .val (.ref b543), .val (.ref b616), .val (.ref b513)] []))
      refine gv (fun tQ kQ => XS.aload X655.here hx rfl (hb hby at_135) rfl rfl kQ) ?_
      show G (T655.setTop (mkF me_ 137 #[.val (.int p0), .val (.int p1), .val (.int p2), .val (.int p3), .val (.int p4), .val (.int p5), .val (.int (1 : Int32)), .val (.ref b513), .val (.ref b543), .val (.ref b616), .val (.ref b513)] [(.ref b513)]))
      obtain ⟨cq657, kq657, q657a, q657b, q657c⟩ := isOf hZ eq655 f645
      obtain ⟨_, _, ⟨T657, L657, k657, n657⟩, -, X657, ⟨Lc657, hQ657, l657, y657, z657⟩, st657⟩ := X655.interfaceBack hx (xi := (⟨"java/util/List", "size", "()I"⟩ : MethodName)) (y := (⟨"java/util/ArrayList", "size", "()I"⟩ : MethodName)) hown (mvT hZ (hw _ (List.mem_of_getElem? (i := 57) rfl))) (mvT hZ (hw _ (List.mem_of_getElem? (i := 58) rfl))) (mvT hZ (hw _ (List.mem_of_getElem? (i := 59) rfl))) (mvT hZ (hw _ (List.mem_of_getElem? (i := 60) rfl))) (mvT hZ (hw _ (List.mem_of_getElem? (i := 61) rfl))) (mvT hZ (hw _ (List.mem_of_getElem? (i := 62) rfl))) (mvT hZ (hw _ (List.mem_of_getElem? (i := 63) rfl))) (mvT hZ (hw _ (List.mem_of_getElem? (i := 56) rfl))) (by decide) (backOf (W := 0) (rm_size1 l Z a0 hw [] b513 h635 n0 O654 f649) hZ (hw _ (List.mem_of_getElem? (i := 64) rfl)) (hw _ (List.mem_of_getElem? (i := 2) rfl)) (by decide) (by decide)) q657a q657b q657c (g := (mkF me_ 137 #[.val (.int p0), .val (.int p1), .val (.int p2), .val (.int p3), .val (.int p4), .val (.int p5), .val (.int (1 : Int32)), .val (.ref b513), .val (.ref b543), .val (.ref b616), .val (.ref b513)] [(.ref b513)])) rfl (by rw [hml]; rfl) (Steps.refl _) (argsL := []) (rest := []) (lenOf pd_17 rfl) rfl (by show 2 * 0 + _ ≤ _; exact Nat.le_of_eq rfl) (hb hby at_137) (fun _ _ => ⟨rfl, eq655, (by decide : 6 + 0 ≤ _), (by decide : 22 + 0 ≤ _)⟩)
      dsimp only [Pt.U, Pt.locs, Pt.cells, Pt.slots] at X657 l657 y657 z657 st657 hQ657
      subst l657 y657 z657
      obtain ⟨rfl, Nq657, eq657⟩ := hQ657
      have N658 := Fr.app N656 Nq657
      refine gv (fun tQ kQ => st657.trans kQ) ?_
      show G (T657.setTop (mkF me_ 142 #[.val (.int p0), .val (.int p1), .val (.int p2), .val (.int p3), .val (.int p4), .val (.int p5), .val (.int (1 : Int32)), .val (.ref b513), .val (.ref b543), .val (.ref b616), .val (.ref b513)] [(.int (1 : Int32))]))
      refine gv (fun tQ kQ => XS.iload X657.here hx rfl (hb hby at_142) rfl kQ) ?_
      show G (T657.setTop (mkF me_ 144 #[.val (.int p0), .val (.int p1), .val (.int p2), .val (.int p3), .val (.int p4), .val (.int p5), .val (.int (1 : Int32)), .val (.ref b513), .val (.ref b543), .val (.ref b616), .val (.ref b513)] [(.int (1 : Int32)), (.int (1 : Int32))]))
      refine gv (fun tQ kQ => XS.icmpYes X657.here hx rfl (pc0 := 144) (pc' := 149) rfl (hb hby at_144) rfl (teq (by decide : (1 : Int32) = (1 : Int32))).1 (by decide) (by decide) kQ) ?_
      show G (T657.setTop (mkF me_ 149 #[.val (.int p0), .val (.int p1), .val (.int p2), .val (.int p3), .val (.int p4), .val (.int p5), .val (.int (1 : Int32)), .val (.ref b513), .val (.ref b543), .val (.ref b616), .val (.ref b513)] []))
      refine gv (fun tQ kQ => XS.iload X657.here hx rfl (hb hby at_149) rfl kQ) ?_
      show G (T657.setTop (mkF me_ 151 #[.val (.int p0), .val (.int p1), .val (.int p2), .val (.int p3), .val (.int p4), .val (.int p5), .val (.int (1 : Int32)), .val (.ref b513), .val (.ref b543), .val (.ref b616), .val (.ref b513)] [(.int (1 : Int32))]))
      refine gv (fun tQ kQ => XS.ifNo X657.here hx rfl (hb hby at_151) rfl ((if0 _ _).trans (tlt (by decide : (0 : Int32) < (1 : Int32))).2.2.2) kQ) ?_
      show G (T657.setTop (mkF me_ 154 #[.val (.int p0), .val (.int p1), .val (.int p2), .val (.int p3), .val (.int p4), .val (.int p5), .val (.int (1 : Int32)), .val (.ref b513), .val (.ref b543), .val (.ref b616), .val (.ref b513)] []))
      refine gv (fun tQ kQ => XS.aload X657.here hx rfl (hb hby at_154) rfl rfl kQ) ?_
      show G (T657.setTop (mkF me_ 156 #[.val (.int p0), .val (.int p1), .val (.int p2), .val (.int p3), .val (.int p4), .val (.int p5), .val (.int (1 : Int32)), .val (.ref b513), .val (.ref b543), .val (.ref b616), .val (.ref b513)] [(.ref b513)]))
      refine gv (fun tQ kQ => XS.iconst X657.here hx rfl (hb hby at_156) kQ) ?_
      show G (T657.setTop (mkF me_ 157 #[.val (.int p0), .val (.int p1), .val (.int p2), .val (.int p3), .val (.int p4), .val (.int p5), .val (.int (1 : Int32)), .val (.ref b513), .val (.ref b543), .val (.ref b616), .val (.ref b513)] [(.int (0 : Int32)), (.ref b513)]))
      obtain ⟨cq659, kq659, q659a, q659b, q659c⟩ := isOf hZ eq657 f645
      obtain ⟨_, _, ⟨T659, L659, k659, n659⟩, -, X659, ⟨Lc659, hQ659, l659, y659, z659⟩, st659⟩ := X657.interfaceBack hx (xi := (⟨"java/util/List", "get", "(I)Ljava/lang/Object;"⟩ : MethodName)) (y := (⟨"java/util/ArrayList", "get", "(I)Ljava/lang/Object;"⟩ : MethodName)) hown (mvT hZ (hw _ (List.mem_of_getElem? (i := 120) rfl))) (mvT hZ (hw _ (List.mem_of_getElem? (i := 121) rfl))) (mvT hZ (hw _ (List.mem_of_getElem? (i := 122) rfl))) (mvT hZ (hw _ (List.mem_of_getElem? (i := 123) rfl))) (mvT hZ (hw _ (List.mem_of_getElem? (i := 124) rfl))) (mvT hZ (hw _ (List.mem_of_getElem? (i := 125) rfl))) (mvT hZ (hw _ (List.mem_of_getElem? (i := 126) rfl))) (mvT hZ (hw _ (List.mem_of_getElem? (i := 56) rfl))) (by decide) (backOf (W := 0) (rm_get1_0 l Z a0 hw [] b513 b_532 k_532 r_525 h635 n0 O654 f645 f648 f649 f650) hZ (hw _ (List.mem_of_getElem? (i := 127) rfl)) (hw _ (List.mem_of_getElem? (i := 2) rfl)) (by decide) (by decide)) q659a q659b q659c (g := (mkF me_ 157 #[.val (.int p0), .val (.int p1), .val (.int p2), .val (.int p3), .val (.int p4), .val (.int p5), .val (.int (1 : Int32)), .val (.ref b513), .val (.ref b543), .val (.ref b616), .val (.ref b513)] [(.int (0 : Int32)), (.ref b513)])) rfl (by rw [hml]; rfl) (Steps.refl _) (argsL := [(.int (0 : Int32))]) (rest := []) (lenOf pd_14 rfl) rfl (by show 2 * 0 + _ ≤ _; exact Nat.le_of_eq rfl) (hb hby at_157) (fun _ _ => ⟨rfl, eq657, (by decide : 6 + 0 ≤ _), (by decide : 22 + 0 ≤ _)⟩)
      dsimp only [Pt.U, Pt.locs, Pt.cells, Pt.slots] at X659 l659 y659 z659 st659 hQ659
      subst l659 y659 z659
      obtain ⟨rfl, Nq659, eq659⟩ := hQ659
      have N660 := Fr.app N658 Nq659
      refine gv (fun tQ kQ => st659.trans kQ) ?_
      show G (T659.setTop (mkF me_ 162 #[.val (.int p0), .val (.int p1), .val (.int p2), .val (.int p3), .val (.int p4), .val (.int p5), .val (.int (1 : Int32)), .val (.ref b513), .val (.ref b543), .val (.ref b616), .val (.ref b513)] [(.ref r_525)]))
      obtain ⟨T661, X661, e661, st661⟩ := castY X659 hx hZ hown (hw _ (List.mem_of_getElem? (i := 141) rfl)) eq659 (Ins.self f646) (g := (mkF me_ 162 #[.val (.int p0), .val (.int p1), .val (.int p2), .val (.int p3), .val (.int p4), .val (.int p5), .val (.int (1 : Int32)), .val (.ref b513), .val (.ref b543), .val (.ref b616), .val (.ref b513)] [(.ref r_525)])) rfl rfl (hb hby at_162)
      refine gv st661 ?_
      show G (T661.setTop (mkF me_ 165 #[.val (.int p0), .val (.int p1), .val (.int p2), .val (.int p3), .val (.int p4), .val (.int p5), .val (.int (1 : Int32)), .val (.ref b513), .val (.ref b543), .val (.ref b616), .val (.ref b513)] [(.ref r_525)]))
      obtain ⟨cq662, kq662, q662a, q662b, q662c⟩ := isOf hZ e661 f646
      obtain ⟨_, _, ⟨T662, L662, k662, n662⟩, -, X662, ⟨Lc662, hQ662, l662, y662, z662⟩, st662⟩ := X661.virtualBack hx (y := (⟨"java/lang/Integer", "intValue", "()I"⟩ : MethodName)) (z := (⟨"java/lang/Integer", "intValue", "()I"⟩ : MethodName)) hown (mvT hZ (hw _ (List.mem_of_getElem? (i := 143) rfl))) (mvT hZ (hw _ (List.mem_of_getElem? (i := 144) rfl))) (notFace_of_selects (args := #[]) (mvT hZ (hw _ (List.mem_of_getElem? (i := 146) rfl)))) (mvT hZ (hw _ (List.mem_of_getElem? (i := 146) rfl))) (mvT hZ (hw _ (List.mem_of_getElem? (i := 145) rfl))) (by decide) (backOf (W := 0) (rm_iv l Z a0 hw [] r_525 p1 h635 n0 O654 f647) hZ (hw _ (List.mem_of_getElem? (i := 147) rfl)) (hw _ (List.mem_of_getElem? (i := 86) rfl)) (by decide) (by decide)) q662a q662c (g := (mkF me_ 165 #[.val (.int p0), .val (.int p1), .val (.int p2), .val (.int p3), .val (.int p4), .val (.int p5), .val (.int (1 : Int32)), .val (.ref b513), .val (.ref b543), .val (.ref b616), .val (.ref b513)] [(.ref r_525)])) rfl (by rw [hml]; rfl) (Steps.refl _) (argsL := []) (rest := []) (lenOf pd_17 rfl) rfl (by show 2 * 0 + _ ≤ _; exact Nat.le_of_eq rfl) (hb hby at_165) (fun _ _ => ⟨rfl, e661, (by decide : 6 + 0 ≤ _), (by decide : 22 + 0 ≤ _)⟩)
      dsimp only [Pt.U, Pt.locs, Pt.cells, Pt.slots] at X662 l662 y662 z662 st662 hQ662
      subst l662 y662 z662
      obtain ⟨rfl, Nq662, eq662⟩ := hQ662
      have N663 := Fr.app N660 Nq662
      refine gv (fun tQ kQ => st662.trans kQ) ?_
      show G (T662.setTop (mkF me_ 168 #[.val (.int p0), .val (.int p1), .val (.int p2), .val (.int p3), .val (.int p4), .val (.int p5), .val (.int (1 : Int32)), .val (.ref b513), .val (.ref b543), .val (.ref b616), .val (.ref b513)] [(.int p1)]))
      refine gv (fun tQ kQ => XS.iloadN X662.here hx rfl (hb hby at_168) rfl kQ) ?_
      show G (T662.setTop (mkF me_ 169 #[.val (.int p0), .val (.int p1), .val (.int p2), .val (.int p3), .val (.int p4), .val (.int p5), .val (.int (1 : Int32)), .val (.ref b513), .val (.ref b543), .val (.ref b616), .val (.ref b513)] [(.int p1), (.int p1)]))
      refine gv (fun tQ kQ => XS.icmpYes X662.here hx rfl (pc0 := 169) (pc' := 174) rfl (hb hby at_169) rfl (teq (rfl : p1 = p1)).1 (by decide) (by decide) kQ) ?_
      show G (T662.setTop (mkF me_ 174 #[.val (.int p0), .val (.int p1), .val (.int p2), .val (.int p3), .val (.int p4), .val (.int p5), .val (.int (1 : Int32)), .val (.ref b513), .val (.ref b543), .val (.ref b616), .val (.ref b513)] []))
      refine gv (fun tQ kQ => XS.iload X662.here hx rfl (hb hby at_174) rfl kQ) ?_
      show G (T662.setTop (mkF me_ 176 #[.val (.int p0), .val (.int p1), .val (.int p2), .val (.int p3), .val (.int p4), .val (.int p5), .val (.int (1 : Int32)), .val (.ref b513), .val (.ref b543), .val (.ref b616), .val (.ref b513)] [(.int (1 : Int32))]))
      refine gv (fun tQ kQ => XS.iconst X662.here hx rfl (hb hby at_176) kQ) ?_
      show G (T662.setTop (mkF me_ 177 #[.val (.int p0), .val (.int p1), .val (.int p2), .val (.int p3), .val (.int p4), .val (.int p5), .val (.int (1 : Int32)), .val (.ref b513), .val (.ref b543), .val (.ref b616), .val (.ref b513)] [(.int (1 : Int32)), (.int (1 : Int32))]))
      refine gv (fun tQ kQ => XS.icmpYes X662.here hx rfl (pc0 := 177) (pc' := 200) rfl (hb hby at_177) rfl (flt (by decide : ¬ ((1 : Int32) < (1 : Int32)))).2.2.2 (by decide) (by decide) kQ) ?_
      show G (T662.setTop (mkF me_ 200 #[.val (.int p0), .val (.int p1), .val (.int p2), .val (.int p3), .val (.int p4), .val (.int p5), .val (.int (1 : Int32)), .val (.ref b513), .val (.ref b543), .val (.ref b616), .val (.ref b513)] []))
      refine gv (fun tQ kQ => XS.iload X662.here hx rfl (hb hby at_200) rfl kQ) ?_
      show G (T662.setTop (mkF me_ 202 #[.val (.int p0), .val (.int p1), .val (.int p2), .val (.int p3), .val (.int p4), .val (.int p5), .val (.int (1 : Int32)), .val (.ref b513), .val (.ref b543), .val (.ref b616), .val (.ref b513)] [(.int (1 : Int32))]))
      refine gv (fun tQ kQ => XS.iconst X662.here hx rfl (hb hby at_202) kQ) ?_
      show G (T662.setTop (mkF me_ 203 #[.val (.int p0), .val (.int p1), .val (.int p2), .val (.int p3), .val (.int p4), .val (.int p5), .val (.int (1 : Int32)), .val (.ref b513), .val (.ref b543), .val (.ref b616), .val (.ref b513)] [(.int (2 : Int32)), (.int (1 : Int32))]))
      refine gv (fun tQ kQ => XS.icmpYes X662.here hx rfl (pc0 := 203) (pc' := 226) rfl (hb hby at_203) rfl (flt (by decide : ¬ ((2 : Int32) < (1 : Int32)))).2.2.2 (by decide) (by decide) kQ) ?_
      show G (T662.setTop (mkF me_ 226 #[.val (.int p0), .val (.int p1), .val (.int p2), .val (.int p3), .val (.int p4), .val (.int p5), .val (.int (1 : Int32)), .val (.ref b513), .val (.ref b543), .val (.ref b616), .val (.ref b513)] []))
      refine gv (fun tQ kQ => XS.iconst X662.here hx rfl (hb hby at_226) kQ) ?_
      show G (T662.setTop (mkF me_ 227 #[.val (.int p0), .val (.int p1), .val (.int p2), .val (.int p3), .val (.int p4), .val (.int p5), .val (.int (1 : Int32)), .val (.ref b513), .val (.ref b543), .val (.ref b616), .val (.ref b513)] [(.int (1 : Int32))]))
      refine gf _ (own_ret X662 Bd.notSynchronized (v := some (.int (1 : Int32))) (fun h => by rw [Bd.returns] at h; cases h) ?_ (by decide) (by decide) (fun fs hr => retN X662 hx (t := .boolean) Bd.returns (by simp) (hb hby at_227) hr))
      show Q0 Z p0 p1 p2 p3 p4 p5 cA bxc dA dk cs h0 n0 _ T662.heap _
      rw [eq662]
      exact ⟨rfl, N663⟩
  · rw [q]
    show G (s₁.setTop (mkF me_ 5 #[.val (.int p0), .val (.int p1), .val (.int p2), .val (.int p3), .val (.int p4), .val (.int p5), .val (.int (2 : Int32)), .unset, .unset, .unset, .unset] []))
    obtain ⟨T664, h664, X664, e664, E664, A664, D664, -, st664⟩ := newO X0 hx hZ hown (hw _ (List.mem_of_getElem? (i := 0) rfl)) (hw _ (List.mem_of_getElem? (i := 1) rfl)) (hw _ (List.mem_of_getElem? (i := 2) rfl)) e0 (g := (mkF me_ 5 #[.val (.int p0), .val (.int p1), .val (.int p2), .val (.int p3), .val (.int p4), .val (.int p5), .val (.int (2 : Int32)), .unset, .unset, .unset, .unset] [])) rfl (hb hby at_5) (by decide) (by decide)
    obtain ⟨b664, g664⟩ : ∃ z, z = h0.size := ⟨_, rfl⟩
    rw [← g664] at A664 D664 st664
    refine gv st664 ?_
    have ne665 : dA ≠ b664 := Nat.ne_of_lt (Nat.lt_of_lt_of_le (u4.ext O0.2).lt (Nat.le_of_eq g664.symm))
    have g666 : n0 ≤ b664 := Nat.le_trans (own_old O0) (Nat.le_of_eq g664.symm)
    have O668 := O0.ext E664
    have f669 : Fld Z h664 b664 "java/util/AbstractList" "modCount" "I" (.int (0 : Int32)) := D664 (Or.inl (hw _ (List.mem_of_getElem? (i := 22) rfl))) (ty := .int) (by decide)
    have f670 : Fld Z h664 b664 "java/util/ArrayList" "elementData" "[Ljava/lang/Object;" .null := D664 (Or.inl (hw _ (List.mem_of_getElem? (i := 25) rfl))) (ty := (.array (.object "java/lang/Object"))) (by decide)
    have f671 : Fld Z h664 b664 "java/util/ArrayList" "size" "I" (.int (0 : Int32)) := D664 (Or.inl (hw _ (List.mem_of_getElem? (i := 66) rfl))) (ty := .int) (by decide)
    show G (T664.setTop (mkF me_ 8 #[.val (.int p0), .val (.int p1), .val (.int p2), .val (.int p3), .val (.int p4), .val (.int p5), .val (.int (2 : Int32)), .unset, .unset, .unset, .unset] [(.ref b664)]))
    refine gv (fun tQ kQ => XS.dup X664.here hx rfl (hb hby at_8) rfl rfl kQ) ?_
    show G (T664.setTop (mkF me_ 9 #[.val (.int p0), .val (.int p1), .val (.int p2), .val (.int p3), .val (.int p4), .val (.int p5), .val (.int (2 : Int32)), .unset, .unset, .unset, .unset] [(.ref b664), (.ref b664)]))
    obtain ⟨_, _, ⟨T672, L672, k672, n672⟩, -, X672, ⟨Lc672, hQ672, l672, y672, z672⟩, st672⟩ := X664.specialBack hx (y := (⟨"java/util/ArrayList", "<init>", "()V"⟩ : MethodName)) rfl hown (mvT hZ (hw _ (List.mem_of_getElem? (i := 3) rfl))) (mvT hZ (hw _ (List.mem_of_getElem? (i := 4) rfl))) (mvT hZ (hw _ (List.mem_of_getElem? (i := 5) rfl))) (by decide) (backOf (W := 1) (rm_ali l Z a0 hw [] b664 dA dk h664 n0 O668 u3 u4 A664 f669 f670 f671 g666) hZ (hw _ (List.mem_of_getElem? (i := 5) rfl)) (hw _ (List.mem_of_getElem? (i := 2) rfl)) (by decide) (by decide)) (g := (mkF me_ 9 #[.val (.int p0), .val (.int p1), .val (.int p2), .val (.int p3), .val (.int p4), .val (.int p5), .val (.int (2 : Int32)), .unset, .unset, .unset, .unset] [(.ref b664), (.ref b664)])) rfl (by rw [hml]; rfl) (Steps.refl _) (a := b664) (argsL := []) (rest := [(.ref b664)]) (lenOf pd_0 rfl) rfl (by show 2 * 0 + _ ≤ _; exact Nat.le_of_eq rfl) (hb hby at_9) (fun _ _ => ⟨rfl, e664, (by decide : 1 + 0 ≤ _), (by decide : 3 + 0 ≤ _)⟩)
    dsimp only [Pt.U, Pt.locs, Pt.cells, Pt.slots] at X672 l672 y672 z672 st672 hQ672
    subst l672 y672 z672
    obtain ⟨rfl, Nq672, Kq672, w672_0, w672_1, w672_2, w672_3⟩ := hQ672
    have N673 := Fr.app N0 Nq672
    obtain ⟨h672, e672⟩ : ∃ z, T672.heap = z := ⟨_, rfl⟩
    rw [e672] at Kq672 w672_0 w672_1 w672_2 w672_3
    have f674 : Exa Z h672 b664 "java/util/ArrayList" := A664.keep Kq672
    have O675 := O668.keep Kq672 (allS g666 all0)
    refine gv (fun tQ kQ => st672.trans kQ) ?_
    show G (T672.setTop (mkF me_ 12 #[.val (.int p0), .val (.int p1), .val (.int p2), .val (.int p3), .val (.int p4), .val (.int p5), .val (.int (2 : Int32)), .unset, .unset, .unset, .unset] [(.ref b664)]))
    refine gv (fun tQ kQ => XS.astore X672.here hx rfl (hb hby at_12) rfl rfl (l' := #[.val (.int p0), .val (.int p1), .val (.int p2), .val (.int p3), .val (.int p4), .val (.int p5), .val (.int (2 : Int32)), .val (.ref b664), .unset, .unset, .unset]) rfl kQ) ?_
    show G (T672.setTop (mkF me_ 14 #[.val (.int p0), .val (.int p1), .val (.int p2), .val (.int p3), .val (.int p4), .val (.int p5), .val (.int (2 : Int32)), .val (.ref b664), .unset, .unset, .unset] []))
    refine gv (fun tQ kQ => XS.iload X672.here hx rfl (hb hby at_14) rfl kQ) ?_
    show G (T672.setTop (mkF me_ 16 #[.val (.int p0), .val (.int p1), .val (.int p2), .val (.int p3), .val (.int p4), .val (.int p5), .val (.int (2 : Int32)), .val (.ref b664), .unset, .unset, .unset] [(.int (2 : Int32))]))
    refine gv (fun tQ kQ => XS.ifNo X672.here hx rfl (hb hby at_16) rfl ((if0 _ _).trans (tlt (by decide : (0 : Int32) < (2 : Int32))).2.2.2) kQ) ?_
    show G (T672.setTop (mkF me_ 19 #[.val (.int p0), .val (.int p1), .val (.int p2), .val (.int p3), .val (.int p4), .val (.int p5), .val (.int (2 : Int32)), .val (.ref b664), .unset, .unset, .unset] []))
    refine gv (fun tQ kQ => XS.aload X672.here hx rfl (hb hby at_19) rfl rfl kQ) ?_
    show G (T672.setTop (mkF me_ 21 #[.val (.int p0), .val (.int p1), .val (.int p2), .val (.int p3), .val (.int p4), .val (.int p5), .val (.int (2 : Int32)), .val (.ref b664), .unset, .unset, .unset] [(.ref b664)]))
    refine gv (fun tQ kQ => XS.iloadN X672.here hx rfl (hb hby at_21) rfl kQ) ?_
    show G (T672.setTop (mkF me_ 22 #[.val (.int p0), .val (.int p1), .val (.int p2), .val (.int p3), .val (.int p4), .val (.int p5), .val (.int (2 : Int32)), .val (.ref b664), .unset, .unset, .unset] [(.int p1), (.ref b664)]))
    obtain ⟨_, _, ⟨T676, L676, k676, n676⟩, -, X676, ⟨Lc676, hQ676, l676, y676, z676⟩, st676⟩ := Jvm.LawKit.callS X672 hx (y := (⟨"java/lang/Integer", "valueOf", "(I)Ljava/lang/Integer;"⟩ : MethodName)) hown (mvT hZ (hw _ (List.mem_of_getElem? (i := 84) rfl))) (mvT hZ (hw _ (List.mem_of_getElem? (i := 85) rfl))) (mvT hZ (hw _ (List.mem_of_getElem? (i := 86) rfl))) (mvT hZ (hw _ (List.mem_of_getElem? (i := 87) rfl))) (by decide) (backOf (W := 1) (rm_vo l Z a0 hw [] p1 cA bxc h672 n0 O675 u0 u1 u2) hZ (hw _ (List.mem_of_getElem? (i := 87) rfl)) (hw _ (List.mem_of_getElem? (i := 86) rfl)) (by decide) (by decide)) (g := (mkF me_ 22 #[.val (.int p0), .val (.int p1), .val (.int p2), .val (.int p3), .val (.int p4), .val (.int p5), .val (.int (2 : Int32)), .val (.ref b664), .unset, .unset, .unset] [(.int p1), (.ref b664)])) rfl (by rw [hml]; rfl) (argsL := [(.int p1)]) (rest := [(.ref b664)]) (lenOf pd_19 rfl) rfl (by show 2 * 0 + _ ≤ _; exact Nat.le_of_eq rfl) (hb hby at_22) (fun _ _ => ⟨rfl, e672, (by decide : 1 + 1 ≤ _), (by decide : 3 + 1 ≤ _)⟩)
    dsimp only [Pt.U, Pt.locs, Pt.cells, Pt.slots] at X676 l676 y676 z676 st676 hQ676
    subst l676 y676 z676
    obtain ⟨r_676, rfl, Nq676, Kq676, w676_0, w676_1⟩ := hQ676
    have N677 := Fr.app N673 Nq676
    obtain ⟨h676, e676⟩ : ∃ z, T676.heap = z := ⟨_, rfl⟩
    rw [e676] at Kq676 w676_0 w676_1
    have f678 : Exa Z h676 b664 "java/util/ArrayList" := w672_0.keep Kq676
    have f679 : Fld Z h676 b664 "java/util/AbstractList" "modCount" "I" (.int (0 : Int32)) := w672_1.keep Kq676 nin0
    have f680 : Fld Z h676 b664 "java/util/ArrayList" "elementData" "[Ljava/lang/Object;" (.ref dA) := w672_2.keep Kq676 nin0
    have f681 : Fld Z h676 b664 "java/util/ArrayList" "size" "I" (.int (0 : Int32)) := w672_3.keep Kq676 nin0
    have O682 := O675.keep Kq676 all0
    refine gv st676 ?_
    show G (T676.setTop (mkF me_ 25 #[.val (.int p0), .val (.int p1), .val (.int p2), .val (.int p3), .val (.int p4), .val (.int p5), .val (.int (2 : Int32)), .val (.ref b664), .unset, .unset, .unset] [(.ref r_676), (.ref b664)]))
    obtain ⟨cq683, kq683, q683a, q683b, q683c⟩ := isOf hZ e676 f678
    obtain ⟨_, _, ⟨T683, L683, k683, n683⟩, -, X683, ⟨Lc683, hQ683, l683, y683, z683⟩, st683⟩ := X676.virtualBack hx (y := (⟨"java/util/ArrayList", "add", "(Ljava/lang/Object;)Z"⟩ : MethodName)) (z := (⟨"java/util/ArrayList", "add", "(Ljava/lang/Object;)Z"⟩ : MethodName)) hown (mvT hZ (hw _ (List.mem_of_getElem? (i := 91) rfl))) (mvT hZ (hw _ (List.mem_of_getElem? (i := 92) rfl))) (notFace_of_selects (args := #[]) (mvT hZ (hw _ (List.mem_of_getElem? (i := 94) rfl)))) (mvT hZ (hw _ (List.mem_of_getElem? (i := 94) rfl))) (mvT hZ (hw _ (List.mem_of_getElem? (i := 93) rfl))) (by decide) (backOf (W := 0) (rm_add0 l Z a0 hw [] b664 r_676 dA dk h676 n0 O682 u3 u4 f678 f680 f681 g666 w676_0 f679) hZ (hw _ (List.mem_of_getElem? (i := 95) rfl)) (hw _ (List.mem_of_getElem? (i := 2) rfl)) (by decide) (by decide)) q683a q683c (g := (mkF me_ 25 #[.val (.int p0), .val (.int p1), .val (.int p2), .val (.int p3), .val (.int p4), .val (.int p5), .val (.int (2 : Int32)), .val (.ref b664), .unset, .unset, .unset] [(.ref r_676), (.ref b664)])) rfl (by rw [hml]; rfl) (Steps.refl _) (argsL := [(.ref r_676)]) (rest := []) (lenOf pd_20 rfl) rfl (by show 2 * 0 + _ ≤ _; exact Nat.le_of_eq rfl) (hb hby at_25) (fun _ _ => ⟨rfl, e676, (by decide : 2 + 1 ≤ _), (by decide : 4 + 10 ≤ _)⟩)
    dsimp only [Pt.U, Pt.locs, Pt.cells, Pt.slots] at X683 l683 y683 z683 st683 hQ683
    subst l683 y683 z683
    obtain ⟨b_683, k_683, rfl, Nq683, Kq683, w683_0, w683_1, w683_2, w683_3, w683_4, w683_5, w683_6⟩ := hQ683
    have N684 := Fr.app N677 Nq683
    obtain ⟨h683, e683⟩ : ∃ z, T683.heap = z := ⟨_, rfl⟩
    rw [e683] at Kq683 w683_0 w683_1 w683_2 w683_4 w683_6
    have ne685 : dA ≠ b_683 := Nat.ne_of_lt (Nat.lt_of_lt_of_le (u4.ext O682.2).lt w683_3)
    have ne686 : b664 ≠ b_683 := Nat.ne_of_lt (Nat.lt_of_lt_of_le f678.lt w683_3)
    have ne687 : r_676 ≠ b_683 := Nat.ne_of_lt (Nat.lt_of_lt_of_le w676_0.lt w683_3)
    have g688 : n0 ≤ b_683 := Nat.le_trans (own_old O682) w683_3
    have f690 : Exa Z h683 b664 "java/util/ArrayList" := f678.keep Kq683
    have f691 : Exa Z h683 r_676 "java/lang/Integer" := w676_0.keep Kq683
    have f692 : Fld Z h683 r_676 "java/lang/Integer" "value" "I" (.int p1) := w676_1.keep Kq683 (ninS (ne_exa w676_0 f678 (by decide)) nin0)
    have O693 := O682.keep Kq683 (allS g666 all0)
    refine gv (fun tQ kQ => st683.trans kQ) ?_
    show G (T683.setTop (mkF me_ 28 #[.val (.int p0), .val (.int p1), .val (.int p2), .val (.int p3), .val (.int p4), .val (.int p5), .val (.int (2 : Int32)), .val (.ref b664), .unset, .unset, .unset] [(.int (1 : Int32))]))
    refine gv (fun tQ kQ => XS.pop X683.here hx rfl (hb hby at_28) rfl rfl kQ) ?_
    show G (T683.setTop (mkF me_ 29 #[.val (.int p0), .val (.int p1), .val (.int p2), .val (.int p3), .val (.int p4), .val (.int p5), .val (.int (2 : Int32)), .val (.ref b664), .unset, .unset, .unset] []))
    refine gv (fun tQ kQ => XS.iload X683.here hx rfl (hb hby at_29) rfl kQ) ?_
    show G (T683.setTop (mkF me_ 31 #[.val (.int p0), .val (.int p1), .val (.int p2), .val (.int p3), .val (.int p4), .val (.int p5), .val (.int (2 : Int32)), .val (.ref b664), .unset, .unset, .unset] [(.int (2 : Int32))]))
    refine gv (fun tQ kQ => XS.iconst X683.here hx rfl (hb hby at_31) kQ) ?_
    show G (T683.setTop (mkF me_ 32 #[.val (.int p0), .val (.int p1), .val (.int p2), .val (.int p3), .val (.int p4), .val (.int p5), .val (.int (2 : Int32)), .val (.ref b664), .unset, .unset, .unset] [(.int (1 : Int32)), (.int (2 : Int32))]))
    refine gv (fun tQ kQ => XS.icmpNo X683.here hx rfl (hb hby at_32) rfl (tlt (by decide : (1 : Int32) < (2 : Int32))).2.2.2 kQ) ?_
    show G (T683.setTop (mkF me_ 35 #[.val (.int p0), .val (.int p1), .val (.int p2), .val (.int p3), .val (.int p4), .val (.int p5), .val (.int (2 : Int32)), .val (.ref b664), .unset, .unset, .unset] []))
    refine gv (fun tQ kQ => XS.aload X683.here hx rfl (hb hby at_35) rfl rfl kQ) ?_
    show G (T683.setTop (mkF me_ 37 #[.val (.int p0), .val (.int p1), .val (.int p2), .val (.int p3), .val (.int p4), .val (.int p5), .val (.int (2 : Int32)), .val (.ref b664), .unset, .unset, .unset] [(.ref b664)]))
    refine gv (fun tQ kQ => XS.iloadN X683.here hx rfl (hb hby at_37) rfl kQ) ?_
    show G (T683.setTop (mkF me_ 38 #[.val (.int p0), .val (.int p1), .val (.int p2), .val (.int p3), .val (.int p4), .val (.int p5), .val (.int (2 : Int32)), .val (.ref b664), .unset, .unset, .unset] [(.int p2), (.ref b664)]))
    obtain ⟨_, _, ⟨T694, L694, k694, n694⟩, -, X694, ⟨Lc694, hQ694, l694, y694, z694⟩, st694⟩ := Jvm.LawKit.callS X683 hx (y := (⟨"java/lang/Integer", "valueOf", "(I)Ljava/lang/Integer;"⟩ : MethodName)) hown (mvT hZ (hw _ (List.mem_of_getElem? (i := 84) rfl))) (mvT hZ (hw _ (List.mem_of_getElem? (i := 85) rfl))) (mvT hZ (hw _ (List.mem_of_getElem? (i := 86) rfl))) (mvT hZ (hw _ (List.mem_of_getElem? (i := 87) rfl))) (by decide) (backOf (W := 1) (rm_vo l Z a0 hw [] p2 cA bxc h683 n0 O693 u0 u1 u2) hZ (hw _ (List.mem_of_getElem? (i := 87) rfl)) (hw _ (List.mem_of_getElem? (i := 86) rfl)) (by decide) (by decide)) (g := (mkF me_ 38 #[.val (.int p0), .val (.int p1), .val (.int p2), .val (.int p3), .val (.int p4), .val (.int p5), .val (.int (2 : Int32)), .val (.ref b664), .unset, .unset, .unset] [(.int p2), (.ref b664)])) rfl (by rw [hml]; rfl) (argsL := [(.int p2)]) (rest := [(.ref b664)]) (lenOf pd_19 rfl) rfl (by show 2 * 0 + _ ≤ _; exact Nat.le_of_eq rfl) (hb hby at_38) (fun _ _ => ⟨rfl, e683, (by decide : 3 + 1 ≤ _), (by decide : 14 + 1 ≤ _)⟩)
    dsimp only [Pt.U, Pt.locs, Pt.cells, Pt.slots] at X694 l694 y694 z694 st694 hQ694
    subst l694 y694 z694
    obtain ⟨r_694, rfl, Nq694, Kq694, w694_0, w694_1⟩ := hQ694
    have N695 := Fr.app N684 Nq694
    obtain ⟨h694, e694⟩ : ∃ z, T694.heap = z := ⟨_, rfl⟩
    rw [e694] at Kq694 w694_0 w694_1
    have f696 : Exa Z h694 b664 "java/util/ArrayList" := w683_0.keep Kq694
    have f697 : Exa Z h694 r_676 "java/lang/Integer" := f691.keep Kq694
    have f698 : Fld Z h694 r_676 "java/lang/Integer" "value" "I" (.int p1) := f692.keep Kq694 nin0
    have f699 : Fld Z h694 b664 "java/util/ArrayList" "elementData" "[Ljava/lang/Object;" (.ref b_683) := w683_1.keep Kq694 nin0
    have f700 : Fld Z h694 b664 "java/util/ArrayList" "size" "I" (.int (1 : Int32)) := w683_2.keep Kq694 nin0
    have f701 : Arv Z h694 b_683 k_683 (.object "java/lang/Object") (10 : Int32) [(.ref r_676), .null, .null, .null, .null, .null, .null, .null, .null, .null] .null := w683_4.keep Kq694 nin0
    have f702 : Fld Z h694 b664 "java/util/AbstractList" "modCount" "I" (.int (1 : Int32)) := w683_6.keep Kq694 nin0
    have O703 := O693.keep Kq694 all0
    refine gv st694 ?_
    show G (T694.setTop (mkF me_ 41 #[.val (.int p0), .val (.int p1), .val (.int p2), .val (.int p3), .val (.int p4), .val (.int p5), .val (.int (2 : Int32)), .val (.ref b664), .unset, .unset, .unset] [(.ref r_694), (.ref b664)]))
    obtain ⟨cq704, kq704, q704a, q704b, q704c⟩ := isOf hZ e694 f696
    obtain ⟨_, _, ⟨T704, L704, k704, n704⟩, -, X704, ⟨Lc704, hQ704, l704, y704, z704⟩, st704⟩ := X694.virtualBack hx (y := (⟨"java/util/ArrayList", "add", "(Ljava/lang/Object;)Z"⟩ : MethodName)) (z := (⟨"java/util/ArrayList", "add", "(Ljava/lang/Object;)Z"⟩ : MethodName)) hown (mvT hZ (hw _ (List.mem_of_getElem? (i := 91) rfl))) (mvT hZ (hw _ (List.mem_of_getElem? (i := 92) rfl))) (notFace_of_selects (args := #[]) (mvT hZ (hw _ (List.mem_of_getElem? (i := 94) rfl)))) (mvT hZ (hw _ (List.mem_of_getElem? (i := 94) rfl))) (mvT hZ (hw _ (List.mem_of_getElem? (i := 93) rfl))) (by decide) (backOf (W := 0) (rm_add1 l Z a0 hw [] b664 r_694 b_683 k_683 r_676 h694 n0 O703 f696 f699 f700 g666 f701 g688 w683_5 w694_0 f702) hZ (hw _ (List.mem_of_getElem? (i := 95) rfl)) (hw _ (List.mem_of_getElem? (i := 2) rfl)) (by decide) (by decide)) q704a q704c (g := (mkF me_ 41 #[.val (.int p0), .val (.int p1), .val (.int p2), .val (.int p3), .val (.int p4), .val (.int p5), .val (.int (2 : Int32)), .val (.ref b664), .unset, .unset, .unset] [(.ref r_694), (.ref b664)])) rfl (by rw [hml]; rfl) (Steps.refl _) (argsL := [(.ref r_694)]) (rest := []) (lenOf pd_20 rfl) rfl (by show 2 * 0 + _ ≤ _; exact Nat.le_of_eq rfl) (hb hby at_41) (fun _ _ => ⟨rfl, e694, (by decide : 4 + 0 ≤ _), (by decide : 15 + 0 ≤ _)⟩)
    dsimp only [Pt.U, Pt.locs, Pt.cells, Pt.slots] at X704 l704 y704 z704 st704 hQ704
    subst l704 y704 z704
    obtain ⟨rfl, Nq704, Kq704, w704_0, w704_1, w704_2, w704_3, w704_4⟩ := hQ704
    have N705 := Fr.app N695 Nq704
    obtain ⟨h704, e704⟩ : ∃ z, T704.heap = z := ⟨_, rfl⟩
    rw [e704] at Kq704 w704_0 w704_1 w704_2 w704_3 w704_4
    have f706 : Exa Z h704 b664 "java/util/ArrayList" := f696.keep Kq704
    have f707 : Exa Z h704 r_676 "java/lang/Integer" := f697.keep Kq704
    have f708 : Fld Z h704 r_676 "java/lang/Integer" "value" "I" (.int p1) := f698.keep Kq704 (ninS (ne_exa f697 f696 (by decide)) (ninS ne687 nin0))
    have f709 : Exa Z h704 r_694 "java/lang/Integer" := w694_0.keep Kq704
    have f710 : Fld Z h704 r_694 "java/lang/Integer" "value" "I" (.int p2) := w694_1.keep Kq704 (ninS (ne_exa w694_0 f696 (by decide)) (ninS (own_ne_arv w694_0 (hw _ (List.mem_of_getElem? (i := 151) rfl)) f701) nin0))
    have O711 := O703.keep Kq704 (allS g666 (allS g688 all0))
    refine gv (fun tQ kQ => st704.trans kQ) ?_
    show G (T704.setTop (mkF me_ 44 #[.val (.int p0), .val (.int p1), .val (.int p2), .val (.int p3), .val (.int p4), .val (.int p5), .val (.int (2 : Int32)), .val (.ref b664), .unset, .unset, .unset] [(.int (1 : Int32))]))
    refine gv (fun tQ kQ => XS.pop X704.here hx rfl (hb hby at_44) rfl rfl kQ) ?_
    show G (T704.setTop (mkF me_ 45 #[.val (.int p0), .val (.int p1), .val (.int p2), .val (.int p3), .val (.int p4), .val (.int p5), .val (.int (2 : Int32)), .val (.ref b664), .unset, .unset, .unset] []))
    refine gv (fun tQ kQ => XS.iload X704.here hx rfl (hb hby at_45) rfl kQ) ?_
    show G (T704.setTop (mkF me_ 47 #[.val (.int p0), .val (.int p1), .val (.int p2), .val (.int p3), .val (.int p4), .val (.int p5), .val (.int (2 : Int32)), .val (.ref b664), .unset, .unset, .unset] [(.int (2 : Int32))]))
    refine gv (fun tQ kQ => XS.iconst X704.here hx rfl (hb hby at_47) kQ) ?_
    show G (T704.setTop (mkF me_ 48 #[.val (.int p0), .val (.int p1), .val (.int p2), .val (.int p3), .val (.int p4), .val (.int p5), .val (.int (2 : Int32)), .val (.ref b664), .unset, .unset, .unset] [(.int (2 : Int32)), (.int (2 : Int32))]))
    refine gv (fun tQ kQ => XS.icmpYes X704.here hx rfl (pc0 := 48) (pc' := 61) rfl (hb hby at_48) rfl (flt (by decide : ¬ ((2 : Int32) < (2 : Int32)))).2.2.2 (by decide) (by decide) kQ) ?_
    show G (T704.setTop (mkF me_ 61 #[.val (.int p0), .val (.int p1), .val (.int p2), .val (.int p3), .val (.int p4), .val (.int p5), .val (.int (2 : Int32)), .val (.ref b664), .unset, .unset, .unset] []))
    refine gv (fun tQ kQ => XS.iconst X704.here hx rfl (hb hby at_61) kQ) ?_
    show G (T704.setTop (mkF me_ 62 #[.val (.int p0), .val (.int p1), .val (.int p2), .val (.int p3), .val (.int p4), .val (.int p5), .val (.int (2 : Int32)), .val (.ref b664), .unset, .unset, .unset] [(.int (2 : Int32))]))
    obtain ⟨T712, h712, k712, X712, e712, E712, A712, st712⟩ := newP X704 hx hZ (hw _ (List.mem_of_getElem? (i := 26) rfl)) e704 (g := (mkF me_ 62 #[.val (.int p0), .val (.int p1), .val (.int p2), .val (.int p3), .val (.int p4), .val (.int p5), .val (.int (2 : Int32)), .val (.ref b664), .unset, .unset, .unset] [(.int (2 : Int32))])) rfl (hb hby at_62) rfl (by decide) (cap := 2) (by decide) (by decide) (by decide) (by decide)
    obtain ⟨b712, g712⟩ : ∃ z, z = h704.size := ⟨_, rfl⟩
    rw [← g712] at A712 st712
    refine gv st712 ?_
    have ne713 : dA ≠ b712 := Nat.ne_of_lt (Nat.lt_of_lt_of_le (u4.ext O711.2).lt (Nat.le_of_eq g712.symm))
    have ne714 : b664 ≠ b712 := Nat.ne_of_lt (Nat.lt_of_lt_of_le w704_0.lt (Nat.le_of_eq g712.symm))
    have ne715 : r_676 ≠ b712 := Nat.ne_of_lt (Nat.lt_of_lt_of_le f707.lt (Nat.le_of_eq g712.symm))
    have ne716 : r_694 ≠ b712 := Nat.ne_of_lt (Nat.lt_of_lt_of_le f709.lt (Nat.le_of_eq g712.symm))
    have ne717 : b_683 ≠ b712 := Nat.ne_of_lt (Nat.lt_of_lt_of_le w704_3.lt (Nat.le_of_eq g712.symm))
    have g718 : n0 ≤ b712 := Nat.le_trans (own_old O711) (Nat.le_of_eq g712.symm)
    have f720 : Exa Z h712 b664 "java/util/ArrayList" := w704_0.ext E712
    have f721 : Exa Z h712 r_676 "java/lang/Integer" := f707.ext E712
    have f722 : Fld Z h712 r_676 "java/lang/Integer" "value" "I" (.int p1) := f708.ext E712
    have f723 : Exa Z h712 r_694 "java/lang/Integer" := f709.ext E712
    have f724 : Fld Z h712 r_694 "java/lang/Integer" "value" "I" (.int p2) := f710.ext E712
    have f725 : Fld Z h712 b664 "java/util/ArrayList" "elementData" "[Ljava/lang/Object;" (.ref b_683) := w704_1.ext E712
    have f726 : Fld Z h712 b664 "java/util/ArrayList" "size" "I" (.int (2 : Int32)) := w704_2.ext E712
    have f727 : Arv Z h712 b_683 k_683 (.object "java/lang/Object") (10 : Int32) [(.ref r_676), (.ref r_694), .null, .null, .null, .null, .null, .null, .null, .null] .null := w704_3.ext E712
    have f728 : Fld Z h712 b664 "java/util/AbstractList" "modCount" "I" (.int (2 : Int32)) := w704_4.ext E712
    have O729 := O711.ext E712
    have V712 : Arv Z h712 b712 k712 .char (2 : Int32) [(.int (0 : Int32)), (.int (0 : Int32))] (.int (0 : Int32)) := (Arv.new A712 (by decide)).pad (pad_rep [] (.int (0 : Int32)) 2)
    show G (T712.setTop (mkF me_ 64 #[.val (.int p0), .val (.int p1), .val (.int p2), .val (.int p3), .val (.int p4), .val (.int p5), .val (.int (2 : Int32)), .val (.ref b664), .unset, .unset, .unset] [(.ref b712)]))
    refine gv (fun tQ kQ => XS.astore X712.here hx rfl (hb hby at_64) rfl rfl (l' := #[.val (.int p0), .val (.int p1), .val (.int p2), .val (.int p3), .val (.int p4), .val (.int p5), .val (.int (2 : Int32)), .val (.ref b664), .val (.ref b712), .unset, .unset]) rfl kQ) ?_
    show G (T712.setTop (mkF me_ 66 #[.val (.int p0), .val (.int p1), .val (.int p2), .val (.int p3), .val (.int p4), .val (.int p5), .val (.int (2 : Int32)), .val (.ref b664), .val (.ref b712), .unset, .unset] []))
    refine gv (fun tQ kQ => XS.aload X712.here hx rfl (hb hby at_66) rfl rfl kQ) ?_
    show G (T712.setTop (mkF me_ 68 #[.val (.int p0), .val (.int p1), .val (.int p2), .val (.int p3), .val (.int p4), .val (.int p5), .val (.int (2 : Int32)), .val (.ref b664), .val (.ref b712), .unset, .unset] [(.ref b712)]))
    refine gv (fun tQ kQ => XS.iconst X712.here hx rfl (hb hby at_68) kQ) ?_
    show G (T712.setTop (mkF me_ 69 #[.val (.int p0), .val (.int p1), .val (.int p2), .val (.int p3), .val (.int p4), .val (.int p5), .val (.int (2 : Int32)), .val (.ref b664), .val (.ref b712), .unset, .unset] [(.int (0 : Int32)), (.ref b712)]))
    refine gv (fun tQ kQ => XS.iload X712.here hx rfl (hb hby at_69) rfl kQ) ?_
    show G (T712.setTop (mkF me_ 71 #[.val (.int p0), .val (.int p1), .val (.int p2), .val (.int p3), .val (.int p4), .val (.int p5), .val (.int (2 : Int32)), .val (.ref b664), .val (.ref b712), .unset, .unset] [(.int p4), (.int (0 : Int32)), (.ref b712)]))
    refine gv (fun tQ kQ => XS.sipush X712.here hx rfl (hb hby at_71) kQ) ?_
    show G (T712.setTop (mkF me_ 74 #[.val (.int p0), .val (.int p1), .val (.int p2), .val (.int p3), .val (.int p4), .val (.int p5), .val (.int (2 : Int32)), .val (.ref b664), .val (.ref b712), .unset, .unset] [(.int (255 : Int32)), (.int p4), (.int (0 : Int32)), (.ref b712)]))
    refine gv (fun tQ kQ => XS.iand X712.here hx rfl (hb hby at_74) rfl kQ) ?_
    show G (T712.setTop (mkF me_ 75 #[.val (.int p0), .val (.int p1), .val (.int p2), .val (.int p3), .val (.int p4), .val (.int p5), .val (.int (2 : Int32)), .val (.ref b664), .val (.ref b712), .unset, .unset] [(.int (p4 &&& (255 : Int32))), (.int (0 : Int32)), (.ref b712)]))
    refine gv (fun tQ kQ => XS.i2c X712.here hx rfl (hb hby at_75) rfl kQ) ?_
    show G (T712.setTop (mkF me_ 76 #[.val (.int p0), .val (.int p1), .val (.int p2), .val (.int p3), .val (.int p4), .val (.int p5), .val (.int (2 : Int32)), .val (.ref b664), .val (.ref b712), .unset, .unset] [(.int ((p4 &&& (255 : Int32)).toUInt32.toUInt16.toUInt32.toInt32)), (.int (0 : Int32)), (.ref b712)]))
    obtain ⟨cl730, Ar730, q730, S730, n730, H730, G730⟩ := (id V712)
    have in730 : ¬ ((0 : Int32) < 0 ∨ cl730.slots.size ≤ ((0 : Int32)).toNatClampNeg) := inb_of S730 ⟨by decide, by decide⟩
    obtain ⟨T730, h730, X730, e730, W730, st730⟩ := stC X712 hx hZ e712 Ar730 (j := (0 : Int32)) in730 (g := (mkF me_ 76 #[.val (.int p0), .val (.int p1), .val (.int p2), .val (.int p3), .val (.int p4), .val (.int p5), .val (.int (2 : Int32)), .val (.ref b664), .val (.ref b712), .unset, .unset] [(.int ((p4 &&& (255 : Int32)).toUInt32.toUInt16.toUInt32.toInt32)), (.int (0 : Int32)), (.ref b712)])) rfl rfl (hb hby at_76)
    have W730 : Wr h712 h730 b712 ((0 : Int32)).toNatClampNeg (.int ((p4 &&& (255 : Int32)).toUInt32.toUInt16.toUInt32.toInt32)) := by have z := W730; rw [(own_narC _)] at z; exact z
    refine gv st730 ?_
    have f732 : Exa Z h730 b664 "java/util/ArrayList" := f720.wr W730
    have f733 : Exa Z h730 r_676 "java/lang/Integer" := f721.wr W730
    have f734 : Fld Z h730 r_676 "java/lang/Integer" "value" "I" (.int p1) := f722.other W730 (Or.inl ne715)
    have f735 : Exa Z h730 r_694 "java/lang/Integer" := f723.wr W730
    have f736 : Fld Z h730 r_694 "java/lang/Integer" "value" "I" (.int p2) := f724.other W730 (Or.inl ne716)
    have f737 : Fld Z h730 b664 "java/util/ArrayList" "elementData" "[Ljava/lang/Object;" (.ref b_683) := f725.other W730 (Or.inl ne714)
    have f738 : Fld Z h730 b664 "java/util/ArrayList" "size" "I" (.int (2 : Int32)) := f726.other W730 (Or.inl ne714)
    have f739 : Arv Z h730 b_683 k_683 (.object "java/lang/Object") (10 : Int32) [(.ref r_676), (.ref r_694), .null, .null, .null, .null, .null, .null, .null, .null] .null := f727.other W730 ne717
    have f740 : Fld Z h730 b664 "java/util/AbstractList" "modCount" "I" (.int (2 : Int32)) := f728.other W730 (Or.inl ne714)
    have O741 := O729.wr W730 g718
    have N742 := Fr.snoc X730 N705 g718
    have f731 : Arv Z h730 b712 k712 .char (2 : Int32) [(.int ((p4 &&& (255 : Int32)).toUInt32.toUInt16.toUInt32.toInt32)), (.int (0 : Int32))] (.int (0 : Int32)) := Arv.set Ar730 q730 S730 n730 H730 G730 (fits_nar_char _) W730 0 rfl (Nat.le_of_ble_eq_true rfl)
    show G (T730.setTop (mkF me_ 77 #[.val (.int p0), .val (.int p1), .val (.int p2), .val (.int p3), .val (.int p4), .val (.int p5), .val (.int (2 : Int32)), .val (.ref b664), .val (.ref b712), .unset, .unset] []))
    refine gv (fun tQ kQ => XS.aload X730.here hx rfl (hb hby at_77) rfl rfl kQ) ?_
    show G (T730.setTop (mkF me_ 79 #[.val (.int p0), .val (.int p1), .val (.int p2), .val (.int p3), .val (.int p4), .val (.int p5), .val (.int (2 : Int32)), .val (.ref b664), .val (.ref b712), .unset, .unset] [(.ref b712)]))
    refine gv (fun tQ kQ => XS.iconst X730.here hx rfl (hb hby at_79) kQ) ?_
    show G (T730.setTop (mkF me_ 80 #[.val (.int p0), .val (.int p1), .val (.int p2), .val (.int p3), .val (.int p4), .val (.int p5), .val (.int (2 : Int32)), .val (.ref b664), .val (.ref b712), .unset, .unset] [(.int (1 : Int32)), (.ref b712)]))
    refine gv (fun tQ kQ => XS.iload X730.here hx rfl (hb hby at_80) rfl kQ) ?_
    show G (T730.setTop (mkF me_ 82 #[.val (.int p0), .val (.int p1), .val (.int p2), .val (.int p3), .val (.int p4), .val (.int p5), .val (.int (2 : Int32)), .val (.ref b664), .val (.ref b712), .unset, .unset] [(.int p5), (.int (1 : Int32)), (.ref b712)]))
    refine gv (fun tQ kQ => XS.sipush X730.here hx rfl (hb hby at_82) kQ) ?_
    show G (T730.setTop (mkF me_ 85 #[.val (.int p0), .val (.int p1), .val (.int p2), .val (.int p3), .val (.int p4), .val (.int p5), .val (.int (2 : Int32)), .val (.ref b664), .val (.ref b712), .unset, .unset] [(.int (255 : Int32)), (.int p5), (.int (1 : Int32)), (.ref b712)]))
    refine gv (fun tQ kQ => XS.iand X730.here hx rfl (hb hby at_85) rfl kQ) ?_
    show G (T730.setTop (mkF me_ 86 #[.val (.int p0), .val (.int p1), .val (.int p2), .val (.int p3), .val (.int p4), .val (.int p5), .val (.int (2 : Int32)), .val (.ref b664), .val (.ref b712), .unset, .unset] [(.int (p5 &&& (255 : Int32))), (.int (1 : Int32)), (.ref b712)]))
    refine gv (fun tQ kQ => XS.i2c X730.here hx rfl (hb hby at_86) rfl kQ) ?_
    show G (T730.setTop (mkF me_ 87 #[.val (.int p0), .val (.int p1), .val (.int p2), .val (.int p3), .val (.int p4), .val (.int p5), .val (.int (2 : Int32)), .val (.ref b664), .val (.ref b712), .unset, .unset] [(.int ((p5 &&& (255 : Int32)).toUInt32.toUInt16.toUInt32.toInt32)), (.int (1 : Int32)), (.ref b712)]))
    obtain ⟨cl743, Ar743, q743, S743, n743, H743, G743⟩ := (id f731)
    have in743 : ¬ ((1 : Int32) < 0 ∨ cl743.slots.size ≤ ((1 : Int32)).toNatClampNeg) := inb_of S743 ⟨by decide, by decide⟩
    obtain ⟨T743, h743, X743, e743, W743, st743⟩ := stC X730 hx hZ e730 Ar743 (j := (1 : Int32)) in743 (g := (mkF me_ 87 #[.val (.int p0), .val (.int p1), .val (.int p2), .val (.int p3), .val (.int p4), .val (.int p5), .val (.int (2 : Int32)), .val (.ref b664), .val (.ref b712), .unset, .unset] [(.int ((p5 &&& (255 : Int32)).toUInt32.toUInt16.toUInt32.toInt32)), (.int (1 : Int32)), (.ref b712)])) rfl rfl (hb hby at_87)
    have W743 : Wr h730 h743 b712 ((1 : Int32)).toNatClampNeg (.int ((p5 &&& (255 : Int32)).toUInt32.toUInt16.toUInt32.toInt32)) := by have z := W743; rw [(own_narC _)] at z; exact z
    refine gv st743 ?_
    have f745 : Exa Z h743 b664 "java/util/ArrayList" := f732.wr W743
    have f746 : Exa Z h743 r_676 "java/lang/Integer" := f733.wr W743
    have f747 : Fld Z h743 r_676 "java/lang/Integer" "value" "I" (.int p1) := f734.other W743 (Or.inl ne715)
    have f748 : Exa Z h743 r_694 "java/lang/Integer" := f735.wr W743
    have f749 : Fld Z h743 r_694 "java/lang/Integer" "value" "I" (.int p2) := f736.other W743 (Or.inl ne716)
    have f750 : Fld Z h743 b664 "java/util/ArrayList" "elementData" "[Ljava/lang/Object;" (.ref b_683) := f737.other W743 (Or.inl ne714)
    have f751 : Fld Z h743 b664 "java/util/ArrayList" "size" "I" (.int (2 : Int32)) := f738.other W743 (Or.inl ne714)
    have f752 : Arv Z h743 b_683 k_683 (.object "java/lang/Object") (10 : Int32) [(.ref r_676), (.ref r_694), .null, .null, .null, .null, .null, .null, .null, .null] .null := f739.other W743 ne717
    have f753 : Fld Z h743 b664 "java/util/AbstractList" "modCount" "I" (.int (2 : Int32)) := f740.other W743 (Or.inl ne714)
    have O754 := O741.wr W743 g718
    have N755 := Fr.snoc X743 N742 g718
    have f744 : Arv Z h743 b712 k712 .char (2 : Int32) [(.int ((p4 &&& (255 : Int32)).toUInt32.toUInt16.toUInt32.toInt32)), (.int ((p5 &&& (255 : Int32)).toUInt32.toUInt16.toUInt32.toInt32))] (.int (0 : Int32)) := Arv.set Ar743 q743 S743 n743 H743 G743 (fits_nar_char _) W743 1 rfl (Nat.le_of_ble_eq_true rfl)
    show G (T743.setTop (mkF me_ 88 #[.val (.int p0), .val (.int p1), .val (.int p2), .val (.int p3), .val (.int p4), .val (.int p5), .val (.int (2 : Int32)), .val (.ref b664), .val (.ref b712), .unset, .unset] []))
    refine gv (fun tQ kQ => XS.iloadN X743.here hx rfl (hb hby at_88) rfl kQ) ?_
    show G (T743.setTop (mkF me_ 89 #[.val (.int p0), .val (.int p1), .val (.int p2), .val (.int p3), .val (.int p4), .val (.int p5), .val (.int (2 : Int32)), .val (.ref b664), .val (.ref b712), .unset, .unset] [(.int p0)]))
    refine gv (fun tQ kQ => XS.iconst X743.here hx rfl (hb hby at_89) kQ) ?_
    show G (T743.setTop (mkF me_ 90 #[.val (.int p0), .val (.int p1), .val (.int p2), .val (.int p3), .val (.int p4), .val (.int p5), .val (.int (2 : Int32)), .val (.ref b664), .val (.ref b712), .unset, .unset] [(.int (2 : Int32)), (.int p0)]))
    refine gv (fun tQ kQ => XS.iushr X743.here hx rfl (hb hby at_90) rfl kQ) ?_
    show G (T743.setTop (mkF me_ 91 #[.val (.int p0), .val (.int p1), .val (.int p2), .val (.int p3), .val (.int p4), .val (.int p5), .val (.int (2 : Int32)), .val (.ref b664), .val (.ref b712), .unset, .unset] [(.int ((p0.toUInt32 >>> ((2 : Int32) &&& 31).toUInt32).toInt32))]))
    refine gv (fun tQ kQ => XS.iconst X743.here hx rfl (hb hby at_91) kQ) ?_
    show G (T743.setTop (mkF me_ 92 #[.val (.int p0), .val (.int p1), .val (.int p2), .val (.int p3), .val (.int p4), .val (.int p5), .val (.int (2 : Int32)), .val (.ref b664), .val (.ref b712), .unset, .unset] [(.int (1 : Int32)), (.int ((p0.toUInt32 >>> ((2 : Int32) &&& 31).toUInt32).toInt32))]))
    refine gv (fun tQ kQ => XS.iand X743.here hx rfl (hb hby at_92) rfl kQ) ?_
    show G (T743.setTop (mkF me_ 93 #[.val (.int p0), .val (.int p1), .val (.int p2), .val (.int p3), .val (.int p4), .val (.int p5), .val (.int (2 : Int32)), .val (.ref b664), .val (.ref b712), .unset, .unset] [(.int (((p0.toUInt32 >>> ((2 : Int32) &&& 31).toUInt32).toInt32) &&& (1 : Int32)))]))
    by_cases hc756 : (((p0.toUInt32 >>> ((2 : Int32) &&& 31).toUInt32).toInt32) &&& (1 : Int32)) = (0 : Int32)
    · refine gv (fun tQ kQ => XS.ifYes X743.here hx rfl (pc0 := 93) (pc' := 108) rfl (hb hby at_93) rfl ((if0 _ _).trans (teq hc756).1) (by decide) (by decide) kQ) ?_
      show G (T743.setTop (mkF me_ 108 #[.val (.int p0), .val (.int p1), .val (.int p2), .val (.int p3), .val (.int p4), .val (.int p5), .val (.int (2 : Int32)), .val (.ref b664), .val (.ref b712), .unset, .unset] []))
      refine gv (fun tQ kQ => XS.aload X743.here hx rfl (hb hby at_108) rfl rfl kQ) ?_
      show G (T743.setTop (mkF me_ 110 #[.val (.int p0), .val (.int p1), .val (.int p2), .val (.int p3), .val (.int p4), .val (.int p5), .val (.int (2 : Int32)), .val (.ref b664), .val (.ref b712), .unset, .unset] [(.ref b712)]))
      refine gv (fun tQ kQ => XS.iconst X743.here hx rfl (hb hby at_110) kQ) ?_
      show G (T743.setTop (mkF me_ 111 #[.val (.int p0), .val (.int p1), .val (.int p2), .val (.int p3), .val (.int p4), .val (.int p5), .val (.int (2 : Int32)), .val (.ref b664), .val (.ref b712), .unset, .unset] [(.int (0 : Int32)), (.ref b712)]))
      obtain ⟨cl757, Ar757, q757, S757, n757, H757, G757⟩ := (id f744)
      have in757 : ¬ ((0 : Int32) < 0 ∨ cl757.slots.size ≤ ((0 : Int32)).toNatClampNeg) := inb_of S757 ⟨by decide, by decide⟩
      refine gv (X743.caload hx (j := (0 : Int32)) (v := (.int ((p4 &&& (255 : Int32)).toUInt32.toUInt16.toUInt32.toInt32))) (by rw [e743]; exact Ar757.1) (State.isArrayOf_alike hZ.alike Ar757.2.1) Ar757.2.2 in757 (Has.at H757 in757 rfl) (g := (mkF me_ 111 #[.val (.int p0), .val (.int p1), .val (.int p2), .val (.int p3), .val (.int p4), .val (.int p5), .val (.int (2 : Int32)), .val (.ref b664), .val (.ref b712), .unset, .unset] [(.int (0 : Int32)), (.ref b712)])) rfl rfl (hb hby at_111)) ?_
      show G (T743.setTop (mkF me_ 112 #[.val (.int p0), .val (.int p1), .val (.int p2), .val (.int p3), .val (.int p4), .val (.int p5), .val (.int (2 : Int32)), .val (.ref b664), .val (.ref b712), .unset, .unset] [(.int ((p4 &&& (255 : Int32)).toUInt32.toUInt16.toUInt32.toInt32))]))
      obtain ⟨_, _, ⟨T758, L758, k758, n758⟩, -, X758, ⟨Lc758, hQ758, l758, y758, z758⟩, st758⟩ := Jvm.LawKit.callS X743 hx (y := (⟨"java/lang/String", "valueOf", "(C)Ljava/lang/String;"⟩ : MethodName)) hown (mvT hZ (hw _ (List.mem_of_getElem? (i := 27) rfl))) (mvT hZ (hw _ (List.mem_of_getElem? (i := 28) rfl))) (mvT hZ (hw _ (List.mem_of_getElem? (i := 29) rfl))) (mvT hZ (hw _ (List.mem_of_getElem? (i := 30) rfl))) (by decide) (backOf (W := 0) (rm_voL l Z a0 hw [] ((p4 &&& (255 : Int32)).toUInt32.toUInt16.toUInt32.toInt32) cs h743 n0 O754 u5 u6 (own_lt255 p4)) hZ (hw _ (List.mem_of_getElem? (i := 30) rfl)) (hw _ (List.mem_of_getElem? (i := 29) rfl)) (by decide) (by decide)) (g := (mkF me_ 112 #[.val (.int p0), .val (.int p1), .val (.int p2), .val (.int p3), .val (.int p4), .val (.int p5), .val (.int (2 : Int32)), .val (.ref b664), .val (.ref b712), .unset, .unset] [(.int ((p4 &&& (255 : Int32)).toUInt32.toUInt16.toUInt32.toInt32))])) rfl (by rw [hml]; rfl) (argsL := [(.int ((p4 &&& (255 : Int32)).toUInt32.toUInt16.toUInt32.toInt32))]) (rest := []) (lenOf pd_15 rfl) rfl (by show 2 * 0 + _ ≤ _; exact Nat.le_of_eq rfl) (hb hby at_112) (fun _ _ => ⟨rfl, e743, (by decide : 5 + 2 ≤ _), (by decide : 17 + 5 ≤ _)⟩)
      dsimp only [Pt.U, Pt.locs, Pt.cells, Pt.slots] at X758 l758 y758 z758 st758 hQ758
      subst l758 y758 z758
      obtain ⟨s_758, b_758, k_758, rfl, Nq758, Kq758, w758_0, w758_1, w758_2, w758_3, w758_4, w758_5, w758_6⟩ := hQ758
      have N759 := Fr.app N755 Nq758
      obtain ⟨h758, e758⟩ : ∃ z, T758.heap = z := ⟨_, rfl⟩
      rw [e758] at Kq758 w758_3 w758_4 w758_5 w758_6
      have ne760 : dA ≠ s_758 := Nat.ne_of_lt (Nat.lt_of_lt_of_le (u4.ext O754.2).lt w758_0)
      have ne761 : b664 ≠ s_758 := Nat.ne_of_lt (Nat.lt_of_lt_of_le f745.lt w758_0)
      have ne762 : r_676 ≠ s_758 := Nat.ne_of_lt (Nat.lt_of_lt_of_le f746.lt w758_0)
      have ne763 : r_694 ≠ s_758 := Nat.ne_of_lt (Nat.lt_of_lt_of_le f748.lt w758_0)
      have ne764 : b_683 ≠ s_758 := Nat.ne_of_lt (Nat.lt_of_lt_of_le f752.lt w758_0)
      have ne765 : b712 ≠ s_758 := Nat.ne_of_lt (Nat.lt_of_lt_of_le f744.lt w758_0)
      have g766 : n0 ≤ s_758 := Nat.le_trans (own_old O754) w758_0
      have ne768 : dA ≠ b_758 := Nat.ne_of_lt (Nat.lt_of_lt_of_le (u4.ext O754.2).lt w758_1)
      have ne769 : b664 ≠ b_758 := Nat.ne_of_lt (Nat.lt_of_lt_of_le f745.lt w758_1)
      have ne770 : r_676 ≠ b_758 := Nat.ne_of_lt (Nat.lt_of_lt_of_le f746.lt w758_1)
      have ne771 : r_694 ≠ b_758 := Nat.ne_of_lt (Nat.lt_of_lt_of_le f748.lt w758_1)
      have ne772 : b_683 ≠ b_758 := Nat.ne_of_lt (Nat.lt_of_lt_of_le f752.lt w758_1)
      have ne773 : b712 ≠ b_758 := Nat.ne_of_lt (Nat.lt_of_lt_of_le f744.lt w758_1)
      have g774 : n0 ≤ b_758 := Nat.le_trans (own_old O754) w758_1
      have f776 : Exa Z h758 b664 "java/util/ArrayList" := f745.keep Kq758
      have f777 : Exa Z h758 r_676 "java/lang/Integer" := f746.keep Kq758
      have f778 : Fld Z h758 r_676 "java/lang/Integer" "value" "I" (.int p1) := f747.keep Kq758 nin0
      have f779 : Exa Z h758 r_694 "java/lang/Integer" := f748.keep Kq758
      have f780 : Fld Z h758 r_694 "java/lang/Integer" "value" "I" (.int p2) := f749.keep Kq758 nin0
      have f781 : Fld Z h758 b664 "java/util/ArrayList" "elementData" "[Ljava/lang/Object;" (.ref b_683) := f750.keep Kq758 nin0
      have f782 : Fld Z h758 b664 "java/util/ArrayList" "size" "I" (.int (2 : Int32)) := f751.keep Kq758 nin0
      have f783 : Arv Z h758 b_683 k_683 (.object "java/lang/Object") (10 : Int32) [(.ref r_676), (.ref r_694), .null, .null, .null, .null, .null, .null, .null, .null] .null := f752.keep Kq758 nin0
      have f784 : Fld Z h758 b664 "java/util/AbstractList" "modCount" "I" (.int (2 : Int32)) := f753.keep Kq758 nin0
      have f785 : Arv Z h758 b712 k712 .char (2 : Int32) [(.int ((p4 &&& (255 : Int32)).toUInt32.toUInt16.toUInt32.toInt32)), (.int ((p5 &&& (255 : Int32)).toUInt32.toUInt16.toUInt32.toInt32))] (.int (0 : Int32)) := f744.keep Kq758 nin0
      have O786 := O754.keep Kq758 all0
      refine gv st758 ?_
      show G (T758.setTop (mkF me_ 115 #[.val (.int p0), .val (.int p1), .val (.int p2), .val (.int p3), .val (.int p4), .val (.int p5), .val (.int (2 : Int32)), .val (.ref b664), .val (.ref b712), .unset, .unset] [(.ref s_758)]))
      refine gv (fun tQ kQ => XS.astore X758.here hx rfl (hb hby at_115) rfl rfl (l' := #[.val (.int p0), .val (.int p1), .val (.int p2), .val (.int p3), .val (.int p4), .val (.int p5), .val (.int (2 : Int32)), .val (.ref b664), .val (.ref b712), .val (.ref s_758), .unset]) rfl kQ) ?_
      show G (T758.setTop (mkF me_ 117 #[.val (.int p0), .val (.int p1), .val (.int p2), .val (.int p3), .val (.int p4), .val (.int p5), .val (.int (2 : Int32)), .val (.ref b664), .val (.ref b712), .val (.ref s_758), .unset] []))
      refine gv (fun tQ kQ => XS.aload X758.here hx rfl (hb hby at_117) rfl rfl kQ) ?_
      show G (T758.setTop (mkF me_ 119 #[.val (.int p0), .val (.int p1), .val (.int p2), .val (.int p3), .val (.int p4), .val (.int p5), .val (.int (2 : Int32)), .val (.ref b664), .val (.ref b712), .val (.ref s_758), .unset] [(.ref b664)]))
      refine gv (fun tQ kQ => XS.aload X758.here hx rfl (hb hby at_119) rfl rfl kQ) ?_
      show G (T758.setTop (mkF me_ 121 #[.val (.int p0), .val (.int p1), .val (.int p2), .val (.int p3), .val (.int p4), .val (.int p5), .val (.int (2 : Int32)), .val (.ref b664), .val (.ref b712), .val (.ref s_758), .unset] [(.ref s_758), (.ref b664)]))
      obtain ⟨_, _, ⟨T787, L787, k787, n787⟩, -, X787, ⟨Lc787, hQ787, l787, y787, z787⟩, st787⟩ := Jvm.LawKit.callS X758 hx (y := (⟨"com/example/slot1/slot1/balance/Options", "array", "(Ljava/lang/Object;Ljava/lang/String;)Ljava/util/List;"⟩ : MethodName)) hown (mvT hZ (hw _ (List.mem_of_getElem? (i := 51) rfl))) (mvT hZ (hw _ (List.mem_of_getElem? (i := 52) rfl))) (mvT hZ (hw _ (List.mem_of_getElem? (i := 53) rfl))) (mvT hZ (hw _ (List.mem_of_getElem? (i := 54) rfl))) (by decide) (backOf (W := 0) (rm_arr l Z a0 hw [] b664 s_758 h758 n0 O786 f776) hZ (hw _ (List.mem_of_getElem? (i := 54) rfl)) (hw _ (List.mem_of_getElem? (i := 53) rfl)) (by decide) (by decide)) (g := (mkF me_ 121 #[.val (.int p0), .val (.int p1), .val (.int p2), .val (.int p3), .val (.int p4), .val (.int p5), .val (.int (2 : Int32)), .val (.ref b664), .val (.ref b712), .val (.ref s_758), .unset] [(.ref s_758), (.ref b664)])) rfl (by rw [hml]; rfl) (argsL := [(.ref b664), (.ref s_758)]) (rest := []) (lenOf pd_16 rfl) rfl (by show 2 * 0 + _ ≤ _; exact Nat.le_of_eq rfl) (hb hby at_121) (fun _ _ => ⟨rfl, e758, (by decide : 7 + 0 ≤ _), (by decide : 22 + 0 ≤ _)⟩)
      dsimp only [Pt.U, Pt.locs, Pt.cells, Pt.slots] at X787 l787 y787 z787 st787 hQ787
      subst l787 y787 z787
      obtain ⟨rfl, Nq787, eq787⟩ := hQ787
      have N788 := Fr.app N759 Nq787
      refine gv st787 ?_
      show G (T787.setTop (mkF me_ 124 #[.val (.int p0), .val (.int p1), .val (.int p2), .val (.int p3), .val (.int p4), .val (.int p5), .val (.int (2 : Int32)), .val (.ref b664), .val (.ref b712), .val (.ref s_758), .unset] [(.ref b664)]))
      refine gv (fun tQ kQ => XS.astore X787.here hx rfl (hb hby at_124) rfl rfl (l' := #[.val (.int p0), .val (.int p1), .val (.int p2), .val (.int p3), .val (.int p4), .val (.int p5), .val (.int (2 : Int32)), .val (.ref b664), .val (.ref b712), .val (.ref s_758), .val (.ref b664)]) rfl kQ) ?_
      show G (T787.setTop (mkF me_ 126 #[.val (.int p0), .val (.int p1), .val (.int p2), .val (.int p3), .val (.int p4), .val (.int p5), .val (.int (2 : Int32)), .val (.ref b664), .val (.ref b712), .val (.ref s_758), .val (.ref b664)] []))
      refine gv (fun tQ kQ => XS.aload X787.here hx rfl (hb hby at_126) rfl rfl kQ) ?_
      show G (T787.setTop (mkF me_ 128 #[.val (.int p0), .val (.int p1), .val (.int p2), .val (.int p3), .val (.int p4), .val (.int p5), .val (.int (2 : Int32)), .val (.ref b664), .val (.ref b712), .val (.ref s_758), .val (.ref b664)] [(.ref b664)]))
      refine gv (fun tQ kQ => XS.aload X787.here hx rfl (hb hby at_128) rfl rfl kQ) ?_
      show G (T787.setTop (mkF me_ 130 #[.val (.int p0), .val (.int p1), .val (.int p2), .val (.int p3), .val (.int p4), .val (.int p5), .val (.int (2 : Int32)), .val (.ref b664), .val (.ref b712), .val (.ref s_758), .val (.ref b664)] [(.ref b664), (.ref b664)]))
      refine gv (fun tQ kQ => Jvm.RoadKit.acmp (g := (mkF me_ 130 #[.val (.int p0), .val (.int p1), .val (.int p2), .val (.int p3), .val (.int p4), .val (.int p5), .val (.int (2 : Int32)), .val (.ref b664), .val (.ref b712), .val (.ref s_758), .val (.ref b664)] [(.ref b664), (.ref b664)])) X787 hx rfl rfl rfl (pc0 := 130) (pc' := 135) (same := true) rfl (hb hby at_130) rfl (decide_eq_true rfl) (by decide) (by decide) kQ) ?_
      show G (T787.setTop (mkF me_ 135 #[.val (.int p0), .val (.int p1), .val (.int p2), .val (.int p3), .val (.int p4), .val (.int p5), .val (.int (2 : Int32)), .val (.ref b664), .val (.ref b712), .val (.ref s_758), .val (.ref b664)] []))
      refine gv (fun tQ kQ => XS.aload X787.here hx rfl (hb hby at_135) rfl rfl kQ) ?_
      show G (T787.setTop (mkF me_ 137 #[.val (.int p0), .val (.int p1), .val (.int p2), .val (.int p3), .val (.int p4), .val (.int p5), .val (.int (2 : Int32)), .val (.ref b664), .val (.ref b712), .val (.ref s_758), .val (.ref b664)] [(.ref b664)]))
      obtain ⟨cq789, kq789, q789a, q789b, q789c⟩ := isOf hZ eq787 f776
      obtain ⟨_, _, ⟨T789, L789, k789, n789⟩, -, X789, ⟨Lc789, hQ789, l789, y789, z789⟩, st789⟩ := X787.interfaceBack hx (xi := (⟨"java/util/List", "size", "()I"⟩ : MethodName)) (y := (⟨"java/util/ArrayList", "size", "()I"⟩ : MethodName)) hown (mvT hZ (hw _ (List.mem_of_getElem? (i := 57) rfl))) (mvT hZ (hw _ (List.mem_of_getElem? (i := 58) rfl))) (mvT hZ (hw _ (List.mem_of_getElem? (i := 59) rfl))) (mvT hZ (hw _ (List.mem_of_getElem? (i := 60) rfl))) (mvT hZ (hw _ (List.mem_of_getElem? (i := 61) rfl))) (mvT hZ (hw _ (List.mem_of_getElem? (i := 62) rfl))) (mvT hZ (hw _ (List.mem_of_getElem? (i := 63) rfl))) (mvT hZ (hw _ (List.mem_of_getElem? (i := 56) rfl))) (by decide) (backOf (W := 0) (rm_size2 l Z a0 hw [] b664 h758 n0 O786 f782) hZ (hw _ (List.mem_of_getElem? (i := 64) rfl)) (hw _ (List.mem_of_getElem? (i := 2) rfl)) (by decide) (by decide)) q789a q789b q789c (g := (mkF me_ 137 #[.val (.int p0), .val (.int p1), .val (.int p2), .val (.int p3), .val (.int p4), .val (.int p5), .val (.int (2 : Int32)), .val (.ref b664), .val (.ref b712), .val (.ref s_758), .val (.ref b664)] [(.ref b664)])) rfl (by rw [hml]; rfl) (Steps.refl _) (argsL := []) (rest := []) (lenOf pd_17 rfl) rfl (by show 2 * 0 + _ ≤ _; exact Nat.le_of_eq rfl) (hb hby at_137) (fun _ _ => ⟨rfl, eq787, (by decide : 7 + 0 ≤ _), (by decide : 22 + 0 ≤ _)⟩)
      dsimp only [Pt.U, Pt.locs, Pt.cells, Pt.slots] at X789 l789 y789 z789 st789 hQ789
      subst l789 y789 z789
      obtain ⟨rfl, Nq789, eq789⟩ := hQ789
      have N790 := Fr.app N788 Nq789
      refine gv (fun tQ kQ => st789.trans kQ) ?_
      show G (T789.setTop (mkF me_ 142 #[.val (.int p0), .val (.int p1), .val (.int p2), .val (.int p3), .val (.int p4), .val (.int p5), .val (.int (2 : Int32)), .val (.ref b664), .val (.ref b712), .val (.ref s_758), .val (.ref b664)] [(.int (2 : Int32))]))
      refine gv (fun tQ kQ => XS.iload X789.here hx rfl (hb hby at_142) rfl kQ) ?_
      show G (T789.setTop (mkF me_ 144 #[.val (.int p0), .val (.int p1), .val (.int p2), .val (.int p3), .val (.int p4), .val (.int p5), .val (.int (2 : Int32)), .val (.ref b664), .val (.ref b712), .val (.ref s_758), .val (.ref b664)] [(.int (2 : Int32)), (.int (2 : Int32))]))
      refine gv (fun tQ kQ => XS.icmpYes X789.here hx rfl (pc0 := 144) (pc' := 149) rfl (hb hby at_144) rfl (teq (by decide : (2 : Int32) = (2 : Int32))).1 (by decide) (by decide) kQ) ?_
      show G (T789.setTop (mkF me_ 149 #[.val (.int p0), .val (.int p1), .val (.int p2), .val (.int p3), .val (.int p4), .val (.int p5), .val (.int (2 : Int32)), .val (.ref b664), .val (.ref b712), .val (.ref s_758), .val (.ref b664)] []))
      refine gv (fun tQ kQ => XS.iload X789.here hx rfl (hb hby at_149) rfl kQ) ?_
      show G (T789.setTop (mkF me_ 151 #[.val (.int p0), .val (.int p1), .val (.int p2), .val (.int p3), .val (.int p4), .val (.int p5), .val (.int (2 : Int32)), .val (.ref b664), .val (.ref b712), .val (.ref s_758), .val (.ref b664)] [(.int (2 : Int32))]))
      refine gv (fun tQ kQ => XS.ifNo X789.here hx rfl (hb hby at_151) rfl ((if0 _ _).trans (tlt (by decide : (0 : Int32) < (2 : Int32))).2.2.2) kQ) ?_
      show G (T789.setTop (mkF me_ 154 #[.val (.int p0), .val (.int p1), .val (.int p2), .val (.int p3), .val (.int p4), .val (.int p5), .val (.int (2 : Int32)), .val (.ref b664), .val (.ref b712), .val (.ref s_758), .val (.ref b664)] []))
      refine gv (fun tQ kQ => XS.aload X789.here hx rfl (hb hby at_154) rfl rfl kQ) ?_
      show G (T789.setTop (mkF me_ 156 #[.val (.int p0), .val (.int p1), .val (.int p2), .val (.int p3), .val (.int p4), .val (.int p5), .val (.int (2 : Int32)), .val (.ref b664), .val (.ref b712), .val (.ref s_758), .val (.ref b664)] [(.ref b664)]))
      refine gv (fun tQ kQ => XS.iconst X789.here hx rfl (hb hby at_156) kQ) ?_
      show G (T789.setTop (mkF me_ 157 #[.val (.int p0), .val (.int p1), .val (.int p2), .val (.int p3), .val (.int p4), .val (.int p5), .val (.int (2 : Int32)), .val (.ref b664), .val (.ref b712), .val (.ref s_758), .val (.ref b664)] [(.int (0 : Int32)), (.ref b664)]))
      obtain ⟨cq791, kq791, q791a, q791b, q791c⟩ := isOf hZ eq789 f776
      obtain ⟨_, _, ⟨T791, L791, k791, n791⟩, -, X791, ⟨Lc791, hQ791, l791, y791, z791⟩, st791⟩ := X789.interfaceBack hx (xi := (⟨"java/util/List", "get", "(I)Ljava/lang/Object;"⟩ : MethodName)) (y := (⟨"java/util/ArrayList", "get", "(I)Ljava/lang/Object;"⟩ : MethodName)) hown (mvT hZ (hw _ (List.mem_of_getElem? (i := 120) rfl))) (mvT hZ (hw _ (List.mem_of_getElem? (i := 121) rfl))) (mvT hZ (hw _ (List.mem_of_getElem? (i := 122) rfl))) (mvT hZ (hw _ (List.mem_of_getElem? (i := 123) rfl))) (mvT hZ (hw _ (List.mem_of_getElem? (i := 124) rfl))) (mvT hZ (hw _ (List.mem_of_getElem? (i := 125) rfl))) (mvT hZ (hw _ (List.mem_of_getElem? (i := 126) rfl))) (mvT hZ (hw _ (List.mem_of_getElem? (i := 56) rfl))) (by decide) (backOf (W := 0) (rm_get2_0 l Z a0 hw [] b664 b_683 k_683 r_676 r_694 h758 n0 O786 f776 f781 f782 f783) hZ (hw _ (List.mem_of_getElem? (i := 127) rfl)) (hw _ (List.mem_of_getElem? (i := 2) rfl)) (by decide) (by decide)) q791a q791b q791c (g := (mkF me_ 157 #[.val (.int p0), .val (.int p1), .val (.int p2), .val (.int p3), .val (.int p4), .val (.int p5), .val (.int (2 : Int32)), .val (.ref b664), .val (.ref b712), .val (.ref s_758), .val (.ref b664)] [(.int (0 : Int32)), (.ref b664)])) rfl (by rw [hml]; rfl) (Steps.refl _) (argsL := [(.int (0 : Int32))]) (rest := []) (lenOf pd_14 rfl) rfl (by show 2 * 0 + _ ≤ _; exact Nat.le_of_eq rfl) (hb hby at_157) (fun _ _ => ⟨rfl, eq789, (by decide : 7 + 0 ≤ _), (by decide : 22 + 0 ≤ _)⟩)
      dsimp only [Pt.U, Pt.locs, Pt.cells, Pt.slots] at X791 l791 y791 z791 st791 hQ791
      subst l791 y791 z791
      obtain ⟨rfl, Nq791, eq791⟩ := hQ791
      have N792 := Fr.app N790 Nq791
      refine gv (fun tQ kQ => st791.trans kQ) ?_
      show G (T791.setTop (mkF me_ 162 #[.val (.int p0), .val (.int p1), .val (.int p2), .val (.int p3), .val (.int p4), .val (.int p5), .val (.int (2 : Int32)), .val (.ref b664), .val (.ref b712), .val (.ref s_758), .val (.ref b664)] [(.ref r_676)]))
      obtain ⟨T793, X793, e793, st793⟩ := castY X791 hx hZ hown (hw _ (List.mem_of_getElem? (i := 141) rfl)) eq791 (Ins.self f777) (g := (mkF me_ 162 #[.val (.int p0), .val (.int p1), .val (.int p2), .val (.int p3), .val (.int p4), .val (.int p5), .val (.int (2 : Int32)), .val (.ref b664), .val (.ref b712), .val (.ref s_758), .val (.ref b664)] [(.ref r_676)])) rfl rfl (hb hby at_162)
      refine gv st793 ?_
      show G (T793.setTop (mkF me_ 165 #[.val (.int p0), .val (.int p1), .val (.int p2), .val (.int p3), .val (.int p4), .val (.int p5), .val (.int (2 : Int32)), .val (.ref b664), .val (.ref b712), .val (.ref s_758), .val (.ref b664)] [(.ref r_676)]))
      obtain ⟨cq794, kq794, q794a, q794b, q794c⟩ := isOf hZ e793 f777
      obtain ⟨_, _, ⟨T794, L794, k794, n794⟩, -, X794, ⟨Lc794, hQ794, l794, y794, z794⟩, st794⟩ := X793.virtualBack hx (y := (⟨"java/lang/Integer", "intValue", "()I"⟩ : MethodName)) (z := (⟨"java/lang/Integer", "intValue", "()I"⟩ : MethodName)) hown (mvT hZ (hw _ (List.mem_of_getElem? (i := 143) rfl))) (mvT hZ (hw _ (List.mem_of_getElem? (i := 144) rfl))) (notFace_of_selects (args := #[]) (mvT hZ (hw _ (List.mem_of_getElem? (i := 146) rfl)))) (mvT hZ (hw _ (List.mem_of_getElem? (i := 146) rfl))) (mvT hZ (hw _ (List.mem_of_getElem? (i := 145) rfl))) (by decide) (backOf (W := 0) (rm_iv l Z a0 hw [] r_676 p1 h758 n0 O786 f778) hZ (hw _ (List.mem_of_getElem? (i := 147) rfl)) (hw _ (List.mem_of_getElem? (i := 86) rfl)) (by decide) (by decide)) q794a q794c (g := (mkF me_ 165 #[.val (.int p0), .val (.int p1), .val (.int p2), .val (.int p3), .val (.int p4), .val (.int p5), .val (.int (2 : Int32)), .val (.ref b664), .val (.ref b712), .val (.ref s_758), .val (.ref b664)] [(.ref r_676)])) rfl (by rw [hml]; rfl) (Steps.refl _) (argsL := []) (rest := []) (lenOf pd_17 rfl) rfl (by show 2 * 0 + _ ≤ _; exact Nat.le_of_eq rfl) (hb hby at_165) (fun _ _ => ⟨rfl, e793, (by decide : 7 + 0 ≤ _), (by decide : 22 + 0 ≤ _)⟩)
      dsimp only [Pt.U, Pt.locs, Pt.cells, Pt.slots] at X794 l794 y794 z794 st794 hQ794
      subst l794 y794 z794
      obtain ⟨rfl, Nq794, eq794⟩ := hQ794
      have N795 := Fr.app N792 Nq794
      refine gv (fun tQ kQ => st794.trans kQ) ?_
      show G (T794.setTop (mkF me_ 168 #[.val (.int p0), .val (.int p1), .val (.int p2), .val (.int p3), .val (.int p4), .val (.int p5), .val (.int (2 : Int32)), .val (.ref b664), .val (.ref b712), .val (.ref s_758), .val (.ref b664)] [(.int p1)]))
      refine gv (fun tQ kQ => XS.iloadN X794.here hx rfl (hb hby at_168) rfl kQ) ?_
      show G (T794.setTop (mkF me_ 169 #[.val (.int p0), .val (.int p1), .val (.int p2), .val (.int p3), .val (.int p4), .val (.int p5), .val (.int (2 : Int32)), .val (.ref b664), .val (.ref b712), .val (.ref s_758), .val (.ref b664)] [(.int p1), (.int p1)]))
      refine gv (fun tQ kQ => XS.icmpYes X794.here hx rfl (pc0 := 169) (pc' := 174) rfl (hb hby at_169) rfl (teq (rfl : p1 = p1)).1 (by decide) (by decide) kQ) ?_
      show G (T794.setTop (mkF me_ 174 #[.val (.int p0), .val (.int p1), .val (.int p2), .val (.int p3), .val (.int p4), .val (.int p5), .val (.int (2 : Int32)), .val (.ref b664), .val (.ref b712), .val (.ref s_758), .val (.ref b664)] []))
      refine gv (fun tQ kQ => XS.iload X794.here hx rfl (hb hby at_174) rfl kQ) ?_
      show G (T794.setTop (mkF me_ 176 #[.val (.int p0), .val (.int p1), .val (.int p2), .val (.int p3), .val (.int p4), .val (.int p5), .val (.int (2 : Int32)), .val (.ref b664), .val (.ref b712), .val (.ref s_758), .val (.ref b664)] [(.int (2 : Int32))]))
      refine gv (fun tQ kQ => XS.iconst X794.here hx rfl (hb hby at_176) kQ) ?_
      show G (T794.setTop (mkF me_ 177 #[.val (.int p0), .val (.int p1), .val (.int p2), .val (.int p3), .val (.int p4), .val (.int p5), .val (.int (2 : Int32)), .val (.ref b664), .val (.ref b712), .val (.ref s_758), .val (.ref b664)] [(.int (1 : Int32)), (.int (2 : Int32))]))
      refine gv (fun tQ kQ => XS.icmpNo X794.here hx rfl (hb hby at_177) rfl (tlt (by decide : (1 : Int32) < (2 : Int32))).2.2.2 kQ) ?_
      show G (T794.setTop (mkF me_ 180 #[.val (.int p0), .val (.int p1), .val (.int p2), .val (.int p3), .val (.int p4), .val (.int p5), .val (.int (2 : Int32)), .val (.ref b664), .val (.ref b712), .val (.ref s_758), .val (.ref b664)] []))
      refine gv (fun tQ kQ => XS.aload X794.here hx rfl (hb hby at_180) rfl rfl kQ) ?_
      show G (T794.setTop (mkF me_ 182 #[.val (.int p0), .val (.int p1), .val (.int p2), .val (.int p3), .val (.int p4), .val (.int p5), .val (.int (2 : Int32)), .val (.ref b664), .val (.ref b712), .val (.ref s_758), .val (.ref b664)] [(.ref b664)]))
      refine gv (fun tQ kQ => XS.iconst X794.here hx rfl (hb hby at_182) kQ) ?_
      show G (T794.setTop (mkF me_ 183 #[.val (.int p0), .val (.int p1), .val (.int p2), .val (.int p3), .val (.int p4), .val (.int p5), .val (.int (2 : Int32)), .val (.ref b664), .val (.ref b712), .val (.ref s_758), .val (.ref b664)] [(.int (1 : Int32)), (.ref b664)]))
      obtain ⟨cq796, kq796, q796a, q796b, q796c⟩ := isOf hZ eq794 f776
      obtain ⟨_, _, ⟨T796, L796, k796, n796⟩, -, X796, ⟨Lc796, hQ796, l796, y796, z796⟩, st796⟩ := X794.interfaceBack hx (xi := (⟨"java/util/List", "get", "(I)Ljava/lang/Object;"⟩ : MethodName)) (y := (⟨"java/util/ArrayList", "get", "(I)Ljava/lang/Object;"⟩ : MethodName)) hown (mvT hZ (hw _ (List.mem_of_getElem? (i := 120) rfl))) (mvT hZ (hw _ (List.mem_of_getElem? (i := 121) rfl))) (mvT hZ (hw _ (List.mem_of_getElem? (i := 122) rfl))) (mvT hZ (hw _ (List.mem_of_getElem? (i := 123) rfl))) (mvT hZ (hw _ (List.mem_of_getElem? (i := 124) rfl))) (mvT hZ (hw _ (List.mem_of_getElem? (i := 125) rfl))) (mvT hZ (hw _ (List.mem_of_getElem? (i := 126) rfl))) (mvT hZ (hw _ (List.mem_of_getElem? (i := 56) rfl))) (by decide) (backOf (W := 0) (rm_get2_1 l Z a0 hw [] b664 b_683 k_683 r_676 r_694 h758 n0 O786 f776 f781 f782 f783) hZ (hw _ (List.mem_of_getElem? (i := 127) rfl)) (hw _ (List.mem_of_getElem? (i := 2) rfl)) (by decide) (by decide)) q796a q796b q796c (g := (mkF me_ 183 #[.val (.int p0), .val (.int p1), .val (.int p2), .val (.int p3), .val (.int p4), .val (.int p5), .val (.int (2 : Int32)), .val (.ref b664), .val (.ref b712), .val (.ref s_758), .val (.ref b664)] [(.int (1 : Int32)), (.ref b664)])) rfl (by rw [hml]; rfl) (Steps.refl _) (argsL := [(.int (1 : Int32))]) (rest := []) (lenOf pd_14 rfl) rfl (by show 2 * 0 + _ ≤ _; exact Nat.le_of_eq rfl) (hb hby at_183) (fun _ _ => ⟨rfl, eq794, (by decide : 7 + 0 ≤ _), (by decide : 22 + 0 ≤ _)⟩)
      dsimp only [Pt.U, Pt.locs, Pt.cells, Pt.slots] at X796 l796 y796 z796 st796 hQ796
      subst l796 y796 z796
      obtain ⟨rfl, Nq796, eq796⟩ := hQ796
      have N797 := Fr.app N795 Nq796
      refine gv (fun tQ kQ => st796.trans kQ) ?_
      show G (T796.setTop (mkF me_ 188 #[.val (.int p0), .val (.int p1), .val (.int p2), .val (.int p3), .val (.int p4), .val (.int p5), .val (.int (2 : Int32)), .val (.ref b664), .val (.ref b712), .val (.ref s_758), .val (.ref b664)] [(.ref r_694)]))
      obtain ⟨T798, X798, e798, st798⟩ := castY X796 hx hZ hown (hw _ (List.mem_of_getElem? (i := 141) rfl)) eq796 (Ins.self f779) (g := (mkF me_ 188 #[.val (.int p0), .val (.int p1), .val (.int p2), .val (.int p3), .val (.int p4), .val (.int p5), .val (.int (2 : Int32)), .val (.ref b664), .val (.ref b712), .val (.ref s_758), .val (.ref b664)] [(.ref r_694)])) rfl rfl (hb hby at_188)
      refine gv st798 ?_
      show G (T798.setTop (mkF me_ 191 #[.val (.int p0), .val (.int p1), .val (.int p2), .val (.int p3), .val (.int p4), .val (.int p5), .val (.int (2 : Int32)), .val (.ref b664), .val (.ref b712), .val (.ref s_758), .val (.ref b664)] [(.ref r_694)]))
      obtain ⟨cq799, kq799, q799a, q799b, q799c⟩ := isOf hZ e798 f779
      obtain ⟨_, _, ⟨T799, L799, k799, n799⟩, -, X799, ⟨Lc799, hQ799, l799, y799, z799⟩, st799⟩ := X798.virtualBack hx (y := (⟨"java/lang/Integer", "intValue", "()I"⟩ : MethodName)) (z := (⟨"java/lang/Integer", "intValue", "()I"⟩ : MethodName)) hown (mvT hZ (hw _ (List.mem_of_getElem? (i := 143) rfl))) (mvT hZ (hw _ (List.mem_of_getElem? (i := 144) rfl))) (notFace_of_selects (args := #[]) (mvT hZ (hw _ (List.mem_of_getElem? (i := 146) rfl)))) (mvT hZ (hw _ (List.mem_of_getElem? (i := 146) rfl))) (mvT hZ (hw _ (List.mem_of_getElem? (i := 145) rfl))) (by decide) (backOf (W := 0) (rm_iv l Z a0 hw [] r_694 p2 h758 n0 O786 f780) hZ (hw _ (List.mem_of_getElem? (i := 147) rfl)) (hw _ (List.mem_of_getElem? (i := 86) rfl)) (by decide) (by decide)) q799a q799c (g := (mkF me_ 191 #[.val (.int p0), .val (.int p1), .val (.int p2), .val (.int p3), .val (.int p4), .val (.int p5), .val (.int (2 : Int32)), .val (.ref b664), .val (.ref b712), .val (.ref s_758), .val (.ref b664)] [(.ref r_694)])) rfl (by rw [hml]; rfl) (Steps.refl _) (argsL := []) (rest := []) (lenOf pd_17 rfl) rfl (by show 2 * 0 + _ ≤ _; exact Nat.le_of_eq rfl) (hb hby at_191) (fun _ _ => ⟨rfl, e798, (by decide : 7 + 0 ≤ _), (by decide : 22 + 0 ≤ _)⟩)
      dsimp only [Pt.U, Pt.locs, Pt.cells, Pt.slots] at X799 l799 y799 z799 st799 hQ799
      subst l799 y799 z799
      obtain ⟨rfl, Nq799, eq799⟩ := hQ799
      have N800 := Fr.app N797 Nq799
      refine gv (fun tQ kQ => st799.trans kQ) ?_
      show G (T799.setTop (mkF me_ 194 #[.val (.int p0), .val (.int p1), .val (.int p2), .val (.int p3), .val (.int p4), .val (.int p5), .val (.int (2 : Int32)), .val (.ref b664), .val (.ref b712), .val (.ref s_758), .val (.ref b664)] [(.int p2)]))
      refine gv (fun tQ kQ => XS.iloadN X799.here hx rfl (hb hby at_194) rfl kQ) ?_
      show G (T799.setTop (mkF me_ 195 #[.val (.int p0), .val (.int p1), .val (.int p2), .val (.int p3), .val (.int p4), .val (.int p5), .val (.int (2 : Int32)), .val (.ref b664), .val (.ref b712), .val (.ref s_758), .val (.ref b664)] [(.int p2), (.int p2)]))
      refine gv (fun tQ kQ => XS.icmpYes X799.here hx rfl (pc0 := 195) (pc' := 200) rfl (hb hby at_195) rfl (teq (rfl : p2 = p2)).1 (by decide) (by decide) kQ) ?_
      show G (T799.setTop (mkF me_ 200 #[.val (.int p0), .val (.int p1), .val (.int p2), .val (.int p3), .val (.int p4), .val (.int p5), .val (.int (2 : Int32)), .val (.ref b664), .val (.ref b712), .val (.ref s_758), .val (.ref b664)] []))
      refine gv (fun tQ kQ => XS.iload X799.here hx rfl (hb hby at_200) rfl kQ) ?_
      show G (T799.setTop (mkF me_ 202 #[.val (.int p0), .val (.int p1), .val (.int p2), .val (.int p3), .val (.int p4), .val (.int p5), .val (.int (2 : Int32)), .val (.ref b664), .val (.ref b712), .val (.ref s_758), .val (.ref b664)] [(.int (2 : Int32))]))
      refine gv (fun tQ kQ => XS.iconst X799.here hx rfl (hb hby at_202) kQ) ?_
      show G (T799.setTop (mkF me_ 203 #[.val (.int p0), .val (.int p1), .val (.int p2), .val (.int p3), .val (.int p4), .val (.int p5), .val (.int (2 : Int32)), .val (.ref b664), .val (.ref b712), .val (.ref s_758), .val (.ref b664)] [(.int (2 : Int32)), (.int (2 : Int32))]))
      refine gv (fun tQ kQ => XS.icmpYes X799.here hx rfl (pc0 := 203) (pc' := 226) rfl (hb hby at_203) rfl (flt (by decide : ¬ ((2 : Int32) < (2 : Int32)))).2.2.2 (by decide) (by decide) kQ) ?_
      show G (T799.setTop (mkF me_ 226 #[.val (.int p0), .val (.int p1), .val (.int p2), .val (.int p3), .val (.int p4), .val (.int p5), .val (.int (2 : Int32)), .val (.ref b664), .val (.ref b712), .val (.ref s_758), .val (.ref b664)] []))
      refine gv (fun tQ kQ => XS.iconst X799.here hx rfl (hb hby at_226) kQ) ?_
      show G (T799.setTop (mkF me_ 227 #[.val (.int p0), .val (.int p1), .val (.int p2), .val (.int p3), .val (.int p4), .val (.int p5), .val (.int (2 : Int32)), .val (.ref b664), .val (.ref b712), .val (.ref s_758), .val (.ref b664)] [(.int (1 : Int32))]))
      refine gf _ (own_ret X799 Bd.notSynchronized (v := some (.int (1 : Int32))) (fun h => by rw [Bd.returns] at h; cases h) ?_ (by decide) (by decide) (fun fs hr => retN X799 hx (t := .boolean) Bd.returns (by simp) (hb hby at_227) hr))
      show Q0 Z p0 p1 p2 p3 p4 p5 cA bxc dA dk cs h0 n0 _ T799.heap _
      rw [eq799]
      exact ⟨rfl, N800⟩
    · refine gv (fun tQ kQ => XS.ifNo X743.here hx rfl (hb hby at_93) rfl ((if0 _ _).trans (feq hc756).1) kQ) ?_
      show G (T743.setTop (mkF me_ 96 #[.val (.int p0), .val (.int p1), .val (.int p2), .val (.int p3), .val (.int p4), .val (.int p5), .val (.int (2 : Int32)), .val (.ref b664), .val (.ref b712), .unset, .unset] []))
      obtain ⟨T801, h801, X801, e801, E801, A801, D801, -, st801⟩ := newO X743 hx hZ hown (hw _ (List.mem_of_getElem? (i := 67) rfl)) (hw _ (List.mem_of_getElem? (i := 37) rfl)) (hw _ (List.mem_of_getElem? (i := 29) rfl)) e743 (g := (mkF me_ 96 #[.val (.int p0), .val (.int p1), .val (.int p2), .val (.int p3), .val (.int p4), .val (.int p5), .val (.int (2 : Int32)), .val (.ref b664), .val (.ref b712), .unset, .unset] [])) rfl (hb hby at_96) (by decide) (by decide)
      obtain ⟨b801, g801⟩ : ∃ z, z = h743.size := ⟨_, rfl⟩
      rw [← g801] at A801 D801 st801
      refine gv st801 ?_
      have ne802 : dA ≠ b801 := Nat.ne_of_lt (Nat.lt_of_lt_of_le (u4.ext O754.2).lt (Nat.le_of_eq g801.symm))
      have ne803 : b664 ≠ b801 := Nat.ne_of_lt (Nat.lt_of_lt_of_le f745.lt (Nat.le_of_eq g801.symm))
      have ne804 : r_676 ≠ b801 := Nat.ne_of_lt (Nat.lt_of_lt_of_le f746.lt (Nat.le_of_eq g801.symm))
      have ne805 : r_694 ≠ b801 := Nat.ne_of_lt (Nat.lt_of_lt_of_le f748.lt (Nat.le_of_eq g801.symm))
      have ne806 : b_683 ≠ b801 := Nat.ne_of_lt (Nat.lt_of_lt_of_le f752.lt (Nat.le_of_eq g801.symm))
      have ne807 : b712 ≠ b801 := Nat.ne_of_lt (Nat.lt_of_lt_of_le f744.lt (Nat.le_of_eq g801.symm))
      have g808 : n0 ≤ b801 := Nat.le_trans (own_old O754) (Nat.le_of_eq g801.symm)
      have f810 : Exa Z h801 b664 "java/util/ArrayList" := f745.ext E801
      have f811 : Exa Z h801 r_676 "java/lang/Integer" := f746.ext E801
      have f812 : Fld Z h801 r_676 "java/lang/Integer" "value" "I" (.int p1) := f747.ext E801
      have f813 : Exa Z h801 r_694 "java/lang/Integer" := f748.ext E801
      have f814 : Fld Z h801 r_694 "java/lang/Integer" "value" "I" (.int p2) := f749.ext E801
      have f815 : Fld Z h801 b664 "java/util/ArrayList" "elementData" "[Ljava/lang/Object;" (.ref b_683) := f750.ext E801
      have f816 : Fld Z h801 b664 "java/util/ArrayList" "size" "I" (.int (2 : Int32)) := f751.ext E801
      have f817 : Arv Z h801 b_683 k_683 (.object "java/lang/Object") (10 : Int32) [(.ref r_676), (.ref r_694), .null, .null, .null, .null, .null, .null, .null, .null] .null := f752.ext E801
      have f818 : Fld Z h801 b664 "java/util/AbstractList" "modCount" "I" (.int (2 : Int32)) := f753.ext E801
      have f819 : Arv Z h801 b712 k712 .char (2 : Int32) [(.int ((p4 &&& (255 : Int32)).toUInt32.toUInt16.toUInt32.toInt32)), (.int ((p5 &&& (255 : Int32)).toUInt32.toUInt16.toUInt32.toInt32))] (.int (0 : Int32)) := f744.ext E801
      have O820 := O754.ext E801
      have f821 : Fld Z h801 b801 "java/lang/String" "value" "[B" .null := D801 (Or.inr (hw _ (List.mem_of_getElem? (i := 48) rfl))) (ty := (.array .byte)) (by decide)
      have f822 : Fld Z h801 b801 "java/lang/String" "coder" "B" (.int (0 : Int32)) := D801 (Or.inr (hw _ (List.mem_of_getElem? (i := 50) rfl))) (ty := .byte) (by decide)
      show G (T801.setTop (mkF me_ 99 #[.val (.int p0), .val (.int p1), .val (.int p2), .val (.int p3), .val (.int p4), .val (.int p5), .val (.int (2 : Int32)), .val (.ref b664), .val (.ref b712), .unset, .unset] [(.ref b801)]))
      refine gv (fun tQ kQ => XS.dup X801.here hx rfl (hb hby at_99) rfl rfl kQ) ?_
      show G (T801.setTop (mkF me_ 100 #[.val (.int p0), .val (.int p1), .val (.int p2), .val (.int p3), .val (.int p4), .val (.int p5), .val (.int (2 : Int32)), .val (.ref b664), .val (.ref b712), .unset, .unset] [(.ref b801), (.ref b801)]))
      refine gv (fun tQ kQ => XS.aload X801.here hx rfl (hb hby at_100) rfl rfl kQ) ?_
      show G (T801.setTop (mkF me_ 102 #[.val (.int p0), .val (.int p1), .val (.int p2), .val (.int p3), .val (.int p4), .val (.int p5), .val (.int (2 : Int32)), .val (.ref b664), .val (.ref b712), .unset, .unset] [(.ref b712), (.ref b801), (.ref b801)]))
      obtain ⟨_, _, ⟨T823, L823, k823, n823⟩, -, X823, ⟨Lc823, hQ823, l823, y823, z823⟩, st823⟩ := X801.specialBack hx (y := (⟨"java/lang/String", "<init>", "([C)V"⟩ : MethodName)) rfl hown (mvT hZ (hw _ (List.mem_of_getElem? (i := 68) rfl))) (mvT hZ (hw _ (List.mem_of_getElem? (i := 69) rfl))) (mvT hZ (hw _ (List.mem_of_getElem? (i := 70) rfl))) (by decide) (backOf (W := 1) (rm_sc l Z a0 hw [] b801 b712 k712 ((p4 &&& (255 : Int32)).toUInt32.toUInt16.toUInt32.toInt32) ((p5 &&& (255 : Int32)).toUInt32.toUInt16.toUInt32.toInt32) cs h801 n0 O820 u5 u6 (own_lt255 p4) (own_lt255 p5) A801 f821 f822 g808 f819 (Ne.symm ne807)) hZ (hw _ (List.mem_of_getElem? (i := 70) rfl)) (hw _ (List.mem_of_getElem? (i := 29) rfl)) (by decide) (by decide)) (g := (mkF me_ 102 #[.val (.int p0), .val (.int p1), .val (.int p2), .val (.int p3), .val (.int p4), .val (.int p5), .val (.int (2 : Int32)), .val (.ref b664), .val (.ref b712), .unset, .unset] [(.ref b712), (.ref b801), (.ref b801)])) rfl (by rw [hml]; rfl) (Steps.refl _) (a := b801) (argsL := [(.ref b712)]) (rest := [(.ref b801)]) (lenOf pd_18 rfl) rfl (by show 2 * 0 + _ ≤ _; exact Nat.le_of_eq rfl) (hb hby at_102) (fun _ _ => ⟨rfl, e801, (by decide : 6 + 1 ≤ _), (by decide : 21 + 2 ≤ _)⟩)
      dsimp only [Pt.U, Pt.locs, Pt.cells, Pt.slots] at X823 l823 y823 z823 st823 hQ823
      subst l823 y823 z823
      obtain ⟨b_823, k_823, rfl, Nq823, Kq823, w823_0, w823_1, w823_2, w823_3, w823_4⟩ := hQ823
      have N824 := Fr.app N755 Nq823
      obtain ⟨h823, e823⟩ : ∃ z, T823.heap = z := ⟨_, rfl⟩
      rw [e823] at Kq823 w823_1 w823_2 w823_3 w823_4
      have ne825 : dA ≠ b_823 := Nat.ne_of_lt (Nat.lt_of_lt_of_le (u4.ext O820.2).lt w823_0)
      have ne826 : b664 ≠ b_823 := Nat.ne_of_lt (Nat.lt_of_lt_of_le f810.lt w823_0)
      have ne827 : r_676 ≠ b_823 := Nat.ne_of_lt (Nat.lt_of_lt_of_le f811.lt w823_0)
      have ne828 : r_694 ≠ b_823 := Nat.ne_of_lt (Nat.lt_of_lt_of_le f813.lt w823_0)
      have ne829 : b_683 ≠ b_823 := Nat.ne_of_lt (Nat.lt_of_lt_of_le f817.lt w823_0)
      have ne830 : b712 ≠ b_823 := Nat.ne_of_lt (Nat.lt_of_lt_of_le f819.lt w823_0)
      have ne831 : b801 ≠ b_823 := Nat.ne_of_lt (Nat.lt_of_lt_of_le A801.lt w823_0)
      have g832 : n0 ≤ b_823 := Nat.le_trans (own_old O820) w823_0
      have f834 : Exa Z h823 b664 "java/util/ArrayList" := f810.keep Kq823
      have f835 : Exa Z h823 r_676 "java/lang/Integer" := f811.keep Kq823
      have f836 : Fld Z h823 r_676 "java/lang/Integer" "value" "I" (.int p1) := f812.keep Kq823 (ninS ne804 nin0)
      have f837 : Exa Z h823 r_694 "java/lang/Integer" := f813.keep Kq823
      have f838 : Fld Z h823 r_694 "java/lang/Integer" "value" "I" (.int p2) := f814.keep Kq823 (ninS ne805 nin0)
      have f839 : Fld Z h823 b664 "java/util/ArrayList" "elementData" "[Ljava/lang/Object;" (.ref b_683) := f815.keep Kq823 (ninS ne803 nin0)
      have f840 : Fld Z h823 b664 "java/util/ArrayList" "size" "I" (.int (2 : Int32)) := f816.keep Kq823 (ninS ne803 nin0)
      have f841 : Arv Z h823 b_683 k_683 (.object "java/lang/Object") (10 : Int32) [(.ref r_676), (.ref r_694), .null, .null, .null, .null, .null, .null, .null, .null] .null := f817.keep Kq823 (ninS ne806 nin0)
      have f842 : Fld Z h823 b664 "java/util/AbstractList" "modCount" "I" (.int (2 : Int32)) := f818.keep Kq823 (ninS ne803 nin0)
      have f843 : Arv Z h823 b712 k712 .char (2 : Int32) [(.int ((p4 &&& (255 : Int32)).toUInt32.toUInt16.toUInt32.toInt32)), (.int ((p5 &&& (255 : Int32)).toUInt32.toUInt16.toUInt32.toInt32))] (.int (0 : Int32)) := f819.keep Kq823 (ninS ne807 nin0)
      have f844 : Exa Z h823 b801 "java/lang/String" := A801.keep Kq823
      have O845 := O820.keep Kq823 (allS g808 all0)
      refine gv (fun tQ kQ => st823.trans kQ) ?_
      show G (T823.setTop (mkF me_ 105 #[.val (.int p0), .val (.int p1), .val (.int p2), .val (.int p3), .val (.int p4), .val (.int p5), .val (.int (2 : Int32)), .val (.ref b664), .val (.ref b712), .unset, .unset] [(.ref b801)]))
      refine gv (fun tQ kQ => XS.goto X823.here hx rfl (pc0 := 105) (pc' := 115) rfl (hb hby at_105) (by decide) (by decide) kQ) ?_
      show G (T823.setTop (mkF me_ 115 #[.val (.int p0), .val (.int p1), .val (.int p2), .val (.int p3), .val (.int p4), .val (.int p5), .val (.int (2 : Int32)), .val (.ref b664), .val (.ref b712), .unset, .unset] [(.ref b801)]))
      refine gv (fun tQ kQ => XS.astore X823.here hx rfl (hb hby at_115) rfl rfl (l' := #[.val (.int p0), .val (.int p1), .val (.int p2), .val (.int p3), .val (.int p4), .val (.int p5), .val (.int (2 : Int32)), .val (.ref b664), .val (.ref b712), .val (.ref b801), .unset]) rfl kQ) ?_
      show G (T823.setTop (mkF me_ 117 #[.val (.int p0), .val (.int p1), .val (.int p2), .val (.int p3), .val (.int p4), .val (.int p5), .val (.int (2 : Int32)), .val (.ref b664), .val (.ref b712), .val (.ref b801), .unset] []))
      refine gv (fun tQ kQ => XS.aload X823.here hx rfl (hb hby at_117) rfl rfl kQ) ?_
      show G (T823.setTop (mkF me_ 119 #[.val (.int p0), .val (.int p1), .val (.int p2), .val (.int p3), .val (.int p4), .val (.int p5), .val (.int (2 : Int32)), .val (.ref b664), .val (.ref b712), .val (.ref b801), .unset] [(.ref b664)]))
      refine gv (fun tQ kQ => XS.aload X823.here hx rfl (hb hby at_119) rfl rfl kQ) ?_
      show G (T823.setTop (mkF me_ 121 #[.val (.int p0), .val (.int p1), .val (.int p2), .val (.int p3), .val (.int p4), .val (.int p5), .val (.int (2 : Int32)), .val (.ref b664), .val (.ref b712), .val (.ref b801), .unset] [(.ref b801), (.ref b664)]))
      obtain ⟨_, _, ⟨T846, L846, k846, n846⟩, -, X846, ⟨Lc846, hQ846, l846, y846, z846⟩, st846⟩ := Jvm.LawKit.callS X823 hx (y := (⟨"com/example/slot1/slot1/balance/Options", "array", "(Ljava/lang/Object;Ljava/lang/String;)Ljava/util/List;"⟩ : MethodName)) hown (mvT hZ (hw _ (List.mem_of_getElem? (i := 51) rfl))) (mvT hZ (hw _ (List.mem_of_getElem? (i := 52) rfl))) (mvT hZ (hw _ (List.mem_of_getElem? (i := 53) rfl))) (mvT hZ (hw _ (List.mem_of_getElem? (i := 54) rfl))) (by decide) (backOf (W := 0) (rm_arr l Z a0 hw [] b664 b801 h823 n0 O845 f834) hZ (hw _ (List.mem_of_getElem? (i := 54) rfl)) (hw _ (List.mem_of_getElem? (i := 53) rfl)) (by decide) (by decide)) (g := (mkF me_ 121 #[.val (.int p0), .val (.int p1), .val (.int p2), .val (.int p3), .val (.int p4), .val (.int p5), .val (.int (2 : Int32)), .val (.ref b664), .val (.ref b712), .val (.ref b801), .unset] [(.ref b801), (.ref b664)])) rfl (by rw [hml]; rfl) (argsL := [(.ref b664), (.ref b801)]) (rest := []) (lenOf pd_16 rfl) rfl (by show 2 * 0 + _ ≤ _; exact Nat.le_of_eq rfl) (hb hby at_121) (fun _ _ => ⟨rfl, e823, (by decide : 7 + 0 ≤ _), (by decide : 23 + 0 ≤ _)⟩)
      dsimp only [Pt.U, Pt.locs, Pt.cells, Pt.slots] at X846 l846 y846 z846 st846 hQ846
      subst l846 y846 z846
      obtain ⟨rfl, Nq846, eq846⟩ := hQ846
      have N847 := Fr.app N824 Nq846
      refine gv st846 ?_
      show G (T846.setTop (mkF me_ 124 #[.val (.int p0), .val (.int p1), .val (.int p2), .val (.int p3), .val (.int p4), .val (.int p5), .val (.int (2 : Int32)), .val (.ref b664), .val (.ref b712), .val (.ref b801), .unset] [(.ref b664)]))
      refine gv (fun tQ kQ => XS.astore X846.here hx rfl (hb hby at_124) rfl rfl (l' := #[.val (.int p0), .val (.int p1), .val (.int p2), .val (.int p3), .val (.int p4), .val (.int p5), .val (.int (2 : Int32)), .val (.ref b664), .val (.ref b712), .val (.ref b801), .val (.ref b664)]) rfl kQ) ?_
      show G (T846.setTop (mkF me_ 126 #[.val (.int p0), .val (.int p1), .val (.int p2), .val (.int p3), .val (.int p4), .val (.int p5), .val (.int (2 : Int32)), .val (.ref b664), .val (.ref b712), .val (.ref b801), .val (.ref b664)] []))
      refine gv (fun tQ kQ => XS.aload X846.here hx rfl (hb hby at_126) rfl rfl kQ) ?_
      show G (T846.setTop (mkF me_ 128 #[.val (.int p0), .val (.int p1), .val (.int p2), .val (.int p3), .val (.int p4), .val (.int p5), .val (.int (2 : Int32)), .val (.ref b664), .val (.ref b712), .val (.ref b801), .val (.ref b664)] [(.ref b664)]))
      refine gv (fun tQ kQ => XS.aload X846.here hx rfl (hb hby at_128) rfl rfl kQ) ?_
      show G (T846.setTop (mkF me_ 130 #[.val (.int p0), .val (.int p1), .val (.int p2), .val (.int p3), .val (.int p4), .val (.int p5), .val (.int (2 : Int32)), .val (.ref b664), .val (.ref b712), .val (.ref b801), .val (.ref b664)] [(.ref b664), (.ref b664)]))
      refine gv (fun tQ kQ => Jvm.RoadKit.acmp (g := (mkF me_ 130 #[.val (.int p0), .val (.int p1), .val (.int p2), .val (.int p3), .val (.int p4), .val (.int p5), .val (.int (2 : Int32)), .val (.ref b664), .val (.ref b712), .val (.ref b801), .val (.ref b664)] [(.ref b664), (.ref b664)])) X846 hx rfl rfl rfl (pc0 := 130) (pc' := 135) (same := true) rfl (hb hby at_130) rfl (decide_eq_true rfl) (by decide) (by decide) kQ) ?_
      show G (T846.setTop (mkF me_ 135 #[.val (.int p0), .val (.int p1), .val (.int p2), .val (.int p3), .val (.int p4), .val (.int p5), .val (.int (2 : Int32)), .val (.ref b664), .val (.ref b712), .val (.ref b801), .val (.ref b664)] []))
      refine gv (fun tQ kQ => XS.aload X846.here hx rfl (hb hby at_135) rfl rfl kQ) ?_
      show G (T846.setTop (mkF me_ 137 #[.val (.int p0), .val (.int p1), .val (.int p2), .val (.int p3), .val (.int p4), .val (.int p5), .val (.int (2 : Int32)), .val (.ref b664), .val (.ref b712), .val (.ref b801), .val (.ref b664)] [(.ref b664)]))
      obtain ⟨cq848, kq848, q848a, q848b, q848c⟩ := isOf hZ eq846 f834
      obtain ⟨_, _, ⟨T848, L848, k848, n848⟩, -, X848, ⟨Lc848, hQ848, l848, y848, z848⟩, st848⟩ := X846.interfaceBack hx (xi := (⟨"java/util/List", "size", "()I"⟩ : MethodName)) (y := (⟨"java/util/ArrayList", "size", "()I"⟩ : MethodName)) hown (mvT hZ (hw _ (List.mem_of_getElem? (i := 57) rfl))) (mvT hZ (hw _ (List.mem_of_getElem? (i := 58) rfl))) (mvT hZ (hw _ (List.mem_of_getElem? (i := 59) rfl))) (mvT hZ (hw _ (List.mem_of_getElem? (i := 60) rfl))) (mvT hZ (hw _ (List.mem_of_getElem? (i := 61) rfl))) (mvT hZ (hw _ (List.mem_of_getElem? (i := 62) rfl))) (mvT hZ (hw _ (List.mem_of_getElem? (i := 63) rfl))) (mvT hZ (hw _ (List.mem_of_getElem? (i := 56) rfl))) (by decide) (backOf (W := 0) (rm_size2 l Z a0 hw [] b664 h823 n0 O845 f840) hZ (hw _ (List.mem_of_getElem? (i := 64) rfl)) (hw _ (List.mem_of_getElem? (i := 2) rfl)) (by decide) (by decide)) q848a q848b q848c (g := (mkF me_ 137 #[.val (.int p0), .val (.int p1), .val (.int p2), .val (.int p3), .val (.int p4), .val (.int p5), .val (.int (2 : Int32)), .val (.ref b664), .val (.ref b712), .val (.ref b801), .val (.ref b664)] [(.ref b664)])) rfl (by rw [hml]; rfl) (Steps.refl _) (argsL := []) (rest := []) (lenOf pd_17 rfl) rfl (by show 2 * 0 + _ ≤ _; exact Nat.le_of_eq rfl) (hb hby at_137) (fun _ _ => ⟨rfl, eq846, (by decide : 7 + 0 ≤ _), (by decide : 23 + 0 ≤ _)⟩)
      dsimp only [Pt.U, Pt.locs, Pt.cells, Pt.slots] at X848 l848 y848 z848 st848 hQ848
      subst l848 y848 z848
      obtain ⟨rfl, Nq848, eq848⟩ := hQ848
      have N849 := Fr.app N847 Nq848
      refine gv (fun tQ kQ => st848.trans kQ) ?_
      show G (T848.setTop (mkF me_ 142 #[.val (.int p0), .val (.int p1), .val (.int p2), .val (.int p3), .val (.int p4), .val (.int p5), .val (.int (2 : Int32)), .val (.ref b664), .val (.ref b712), .val (.ref b801), .val (.ref b664)] [(.int (2 : Int32))]))
      refine gv (fun tQ kQ => XS.iload X848.here hx rfl (hb hby at_142) rfl kQ) ?_
      show G (T848.setTop (mkF me_ 144 #[.val (.int p0), .val (.int p1), .val (.int p2), .val (.int p3), .val (.int p4), .val (.int p5), .val (.int (2 : Int32)), .val (.ref b664), .val (.ref b712), .val (.ref b801), .val (.ref b664)] [(.int (2 : Int32)), (.int (2 : Int32))]))
      refine gv (fun tQ kQ => XS.icmpYes X848.here hx rfl (pc0 := 144) (pc' := 149) rfl (hb hby at_144) rfl (teq (by decide : (2 : Int32) = (2 : Int32))).1 (by decide) (by decide) kQ) ?_
      show G (T848.setTop (mkF me_ 149 #[.val (.int p0), .val (.int p1), .val (.int p2), .val (.int p3), .val (.int p4), .val (.int p5), .val (.int (2 : Int32)), .val (.ref b664), .val (.ref b712), .val (.ref b801), .val (.ref b664)] []))
      refine gv (fun tQ kQ => XS.iload X848.here hx rfl (hb hby at_149) rfl kQ) ?_
      show G (T848.setTop (mkF me_ 151 #[.val (.int p0), .val (.int p1), .val (.int p2), .val (.int p3), .val (.int p4), .val (.int p5), .val (.int (2 : Int32)), .val (.ref b664), .val (.ref b712), .val (.ref b801), .val (.ref b664)] [(.int (2 : Int32))]))
      refine gv (fun tQ kQ => XS.ifNo X848.here hx rfl (hb hby at_151) rfl ((if0 _ _).trans (tlt (by decide : (0 : Int32) < (2 : Int32))).2.2.2) kQ) ?_
      show G (T848.setTop (mkF me_ 154 #[.val (.int p0), .val (.int p1), .val (.int p2), .val (.int p3), .val (.int p4), .val (.int p5), .val (.int (2 : Int32)), .val (.ref b664), .val (.ref b712), .val (.ref b801), .val (.ref b664)] []))
      refine gv (fun tQ kQ => XS.aload X848.here hx rfl (hb hby at_154) rfl rfl kQ) ?_
      show G (T848.setTop (mkF me_ 156 #[.val (.int p0), .val (.int p1), .val (.int p2), .val (.int p3), .val (.int p4), .val (.int p5), .val (.int (2 : Int32)), .val (.ref b664), .val (.ref b712), .val (.ref b801), .val (.ref b664)] [(.ref b664)]))
      refine gv (fun tQ kQ => XS.iconst X848.here hx rfl (hb hby at_156) kQ) ?_
      show G (T848.setTop (mkF me_ 157 #[.val (.int p0), .val (.int p1), .val (.int p2), .val (.int p3), .val (.int p4), .val (.int p5), .val (.int (2 : Int32)), .val (.ref b664), .val (.ref b712), .val (.ref b801), .val (.ref b664)] [(.int (0 : Int32)), (.ref b664)]))
      obtain ⟨cq850, kq850, q850a, q850b, q850c⟩ := isOf hZ eq848 f834
      obtain ⟨_, _, ⟨T850, L850, k850, n850⟩, -, X850, ⟨Lc850, hQ850, l850, y850, z850⟩, st850⟩ := X848.interfaceBack hx (xi := (⟨"java/util/List", "get", "(I)Ljava/lang/Object;"⟩ : MethodName)) (y := (⟨"java/util/ArrayList", "get", "(I)Ljava/lang/Object;"⟩ : MethodName)) hown (mvT hZ (hw _ (List.mem_of_getElem? (i := 120) rfl))) (mvT hZ (hw _ (List.mem_of_getElem? (i := 121) rfl))) (mvT hZ (hw _ (List.mem_of_getElem? (i := 122) rfl))) (mvT hZ (hw _ (List.mem_of_getElem? (i := 123) rfl))) (mvT hZ (hw _ (List.mem_of_getElem? (i := 124) rfl))) (mvT hZ (hw _ (List.mem_of_getElem? (i := 125) rfl))) (mvT hZ (hw _ (List.mem_of_getElem? (i := 126) rfl))) (mvT hZ (hw _ (List.mem_of_getElem? (i := 56) rfl))) (by decide) (backOf (W := 0) (rm_get2_0 l Z a0 hw [] b664 b_683 k_683 r_676 r_694 h823 n0 O845 f834 f839 f840 f841) hZ (hw _ (List.mem_of_getElem? (i := 127) rfl)) (hw _ (List.mem_of_getElem? (i := 2) rfl)) (by decide) (by decide)) q850a q850b q850c (g := (mkF me_ 157 #[.val (.int p0), .val (.int p1), .val (.int p2), .val (.int p3), .val (.int p4), .val (.int p5), .val (.int (2 : Int32)), .val (.ref b664), .val (.ref b712), .val (.ref b801), .val (.ref b664)] [(.int (0 : Int32)), (.ref b664)])) rfl (by rw [hml]; rfl) (Steps.refl _) (argsL := [(.int (0 : Int32))]) (rest := []) (lenOf pd_14 rfl) rfl (by show 2 * 0 + _ ≤ _; exact Nat.le_of_eq rfl) (hb hby at_157) (fun _ _ => ⟨rfl, eq848, (by decide : 7 + 0 ≤ _), (by decide : 23 + 0 ≤ _)⟩)
      dsimp only [Pt.U, Pt.locs, Pt.cells, Pt.slots] at X850 l850 y850 z850 st850 hQ850
      subst l850 y850 z850
      obtain ⟨rfl, Nq850, eq850⟩ := hQ850
      have N851 := Fr.app N849 Nq850
      refine gv (fun tQ kQ => st850.trans kQ) ?_
      show G (T850.setTop (mkF me_ 162 #[.val (.int p0), .val (.int p1), .val (.int p2), .val (.int p3), .val (.int p4), .val (.int p5), .val (.int (2 : Int32)), .val (.ref b664), .val (.ref b712), .val (.ref b801), .val (.ref b664)] [(.ref r_676)]))
      obtain ⟨T852, X852, e852, st852⟩ := castY X850 hx hZ hown (hw _ (List.mem_of_getElem? (i := 141) rfl)) eq850 (Ins.self f835) (g := (mkF me_ 162 #[.val (.int p0), .val (.int p1), .val (.int p2), .val (.int p3), .val (.int p4), .val (.int p5), .val (.int (2 : Int32)), .val (.ref b664), .val (.ref b712), .val (.ref b801), .val (.ref b664)] [(.ref r_676)])) rfl rfl (hb hby at_162)
      refine gv st852 ?_
      show G (T852.setTop (mkF me_ 165 #[.val (.int p0), .val (.int p1), .val (.int p2), .val (.int p3), .val (.int p4), .val (.int p5), .val (.int (2 : Int32)), .val (.ref b664), .val (.ref b712), .val (.ref b801), .val (.ref b664)] [(.ref r_676)]))
      obtain ⟨cq853, kq853, q853a, q853b, q853c⟩ := isOf hZ e852 f835
      obtain ⟨_, _, ⟨T853, L853, k853, n853⟩, -, X853, ⟨Lc853, hQ853, l853, y853, z853⟩, st853⟩ := X852.virtualBack hx (y := (⟨"java/lang/Integer", "intValue", "()I"⟩ : MethodName)) (z := (⟨"java/lang/Integer", "intValue", "()I"⟩ : MethodName)) hown (mvT hZ (hw _ (List.mem_of_getElem? (i := 143) rfl))) (mvT hZ (hw _ (List.mem_of_getElem? (i := 144) rfl))) (notFace_of_selects (args := #[]) (mvT hZ (hw _ (List.mem_of_getElem? (i := 146) rfl)))) (mvT hZ (hw _ (List.mem_of_getElem? (i := 146) rfl))) (mvT hZ (hw _ (List.mem_of_getElem? (i := 145) rfl))) (by decide) (backOf (W := 0) (rm_iv l Z a0 hw [] r_676 p1 h823 n0 O845 f836) hZ (hw _ (List.mem_of_getElem? (i := 147) rfl)) (hw _ (List.mem_of_getElem? (i := 86) rfl)) (by decide) (by decide)) q853a q853c (g := (mkF me_ 165 #[.val (.int p0), .val (.int p1), .val (.int p2), .val (.int p3), .val (.int p4), .val (.int p5), .val (.int (2 : Int32)), .val (.ref b664), .val (.ref b712), .val (.ref b801), .val (.ref b664)] [(.ref r_676)])) rfl (by rw [hml]; rfl) (Steps.refl _) (argsL := []) (rest := []) (lenOf pd_17 rfl) rfl (by show 2 * 0 + _ ≤ _; exact Nat.le_of_eq rfl) (hb hby at_165) (fun _ _ => ⟨rfl, e852, (by decide : 7 + 0 ≤ _), (by decide : 23 + 0 ≤ _)⟩)
      dsimp only [Pt.U, Pt.locs, Pt.cells, Pt.slots] at X853 l853 y853 z853 st853 hQ853
      subst l853 y853 z853
      obtain ⟨rfl, Nq853, eq853⟩ := hQ853
      have N854 := Fr.app N851 Nq853
      refine gv (fun tQ kQ => st853.trans kQ) ?_
      show G (T853.setTop (mkF me_ 168 #[.val (.int p0), .val (.int p1), .val (.int p2), .val (.int p3), .val (.int p4), .val (.int p5), .val (.int (2 : Int32)), .val (.ref b664), .val (.ref b712), .val (.ref b801), .val (.ref b664)] [(.int p1)]))
      refine gv (fun tQ kQ => XS.iloadN X853.here hx rfl (hb hby at_168) rfl kQ) ?_
      show G (T853.setTop (mkF me_ 169 #[.val (.int p0), .val (.int p1), .val (.int p2), .val (.int p3), .val (.int p4), .val (.int p5), .val (.int (2 : Int32)), .val (.ref b664), .val (.ref b712), .val (.ref b801), .val (.ref b664)] [(.int p1), (.int p1)]))
      refine gv (fun tQ kQ => XS.icmpYes X853.here hx rfl (pc0 := 169) (pc' := 174) rfl (hb hby at_169) rfl (teq (rfl : p1 = p1)).1 (by decide) (by decide) kQ) ?_
      show G (T853.setTop (mkF me_ 174 #[.val (.int p0), .val (.int p1), .val (.int p2), .val (.int p3), .val (.int p4), .val (.int p5), .val (.int (2 : Int32)), .val (.ref b664), .val (.ref b712), .val (.ref b801), .val (.ref b664)] []))
      refine gv (fun tQ kQ => XS.iload X853.here hx rfl (hb hby at_174) rfl kQ) ?_
      show G (T853.setTop (mkF me_ 176 #[.val (.int p0), .val (.int p1), .val (.int p2), .val (.int p3), .val (.int p4), .val (.int p5), .val (.int (2 : Int32)), .val (.ref b664), .val (.ref b712), .val (.ref b801), .val (.ref b664)] [(.int (2 : Int32))]))
      refine gv (fun tQ kQ => XS.iconst X853.here hx rfl (hb hby at_176) kQ) ?_
      show G (T853.setTop (mkF me_ 177 #[.val (.int p0), .val (.int p1), .val (.int p2), .val (.int p3), .val (.int p4), .val (.int p5), .val (.int (2 : Int32)), .val (.ref b664), .val (.ref b712), .val (.ref b801), .val (.ref b664)] [(.int (1 : Int32)), (.int (2 : Int32))]))
      refine gv (fun tQ kQ => XS.icmpNo X853.here hx rfl (hb hby at_177) rfl (tlt (by decide : (1 : Int32) < (2 : Int32))).2.2.2 kQ) ?_
      show G (T853.setTop (mkF me_ 180 #[.val (.int p0), .val (.int p1), .val (.int p2), .val (.int p3), .val (.int p4), .val (.int p5), .val (.int (2 : Int32)), .val (.ref b664), .val (.ref b712), .val (.ref b801), .val (.ref b664)] []))
      refine gv (fun tQ kQ => XS.aload X853.here hx rfl (hb hby at_180) rfl rfl kQ) ?_
      show G (T853.setTop (mkF me_ 182 #[.val (.int p0), .val (.int p1), .val (.int p2), .val (.int p3), .val (.int p4), .val (.int p5), .val (.int (2 : Int32)), .val (.ref b664), .val (.ref b712), .val (.ref b801), .val (.ref b664)] [(.ref b664)]))
      refine gv (fun tQ kQ => XS.iconst X853.here hx rfl (hb hby at_182) kQ) ?_
      show G (T853.setTop (mkF me_ 183 #[.val (.int p0), .val (.int p1), .val (.int p2), .val (.int p3), .val (.int p4), .val (.int p5), .val (.int (2 : Int32)), .val (.ref b664), .val (.ref b712), .val (.ref b801), .val (.ref b664)] [(.int (1 : Int32)), (.ref b664)]))
      obtain ⟨cq855, kq855, q855a, q855b, q855c⟩ := isOf hZ eq853 f834
      obtain ⟨_, _, ⟨T855, L855, k855, n855⟩, -, X855, ⟨Lc855, hQ855, l855, y855, z855⟩, st855⟩ := X853.interfaceBack hx (xi := (⟨"java/util/List", "get", "(I)Ljava/lang/Object;"⟩ : MethodName)) (y := (⟨"java/util/ArrayList", "get", "(I)Ljava/lang/Object;"⟩ : MethodName)) hown (mvT hZ (hw _ (List.mem_of_getElem? (i := 120) rfl))) (mvT hZ (hw _ (List.mem_of_getElem? (i := 121) rfl))) (mvT hZ (hw _ (List.mem_of_getElem? (i := 122) rfl))) (mvT hZ (hw _ (List.mem_of_getElem? (i := 123) rfl))) (mvT hZ (hw _ (List.mem_of_getElem? (i := 124) rfl))) (mvT hZ (hw _ (List.mem_of_getElem? (i := 125) rfl))) (mvT hZ (hw _ (List.mem_of_getElem? (i := 126) rfl))) (mvT hZ (hw _ (List.mem_of_getElem? (i := 56) rfl))) (by decide) (backOf (W := 0) (rm_get2_1 l Z a0 hw [] b664 b_683 k_683 r_676 r_694 h823 n0 O845 f834 f839 f840 f841) hZ (hw _ (List.mem_of_getElem? (i := 127) rfl)) (hw _ (List.mem_of_getElem? (i := 2) rfl)) (by decide) (by decide)) q855a q855b q855c (g := (mkF me_ 183 #[.val (.int p0), .val (.int p1), .val (.int p2), .val (.int p3), .val (.int p4), .val (.int p5), .val (.int (2 : Int32)), .val (.ref b664), .val (.ref b712), .val (.ref b801), .val (.ref b664)] [(.int (1 : Int32)), (.ref b664)])) rfl (by rw [hml]; rfl) (Steps.refl _) (argsL := [(.int (1 : Int32))]) (rest := []) (lenOf pd_14 rfl) rfl (by show 2 * 0 + _ ≤ _; exact Nat.le_of_eq rfl) (hb hby at_183) (fun _ _ => ⟨rfl, eq853, (by decide : 7 + 0 ≤ _), (by decide : 23 + 0 ≤ _)⟩)
      dsimp only [Pt.U, Pt.locs, Pt.cells, Pt.slots] at X855 l855 y855 z855 st855 hQ855
      subst l855 y855 z855
      obtain ⟨rfl, Nq855, eq855⟩ := hQ855
      have N856 := Fr.app N854 Nq855
      refine gv (fun tQ kQ => st855.trans kQ) ?_
      show G (T855.setTop (mkF me_ 188 #[.val (.int p0), .val (.int p1), .val (.int p2), .val (.int p3), .val (.int p4), .val (.int p5), .val (.int (2 : Int32)), .val (.ref b664), .val (.ref b712), .val (.ref b801), .val (.ref b664)] [(.ref r_694)]))
      obtain ⟨T857, X857, e857, st857⟩ := castY X855 hx hZ hown (hw _ (List.mem_of_getElem? (i := 141) rfl)) eq855 (Ins.self f837) (g := (mkF me_ 188 #[.val (.int p0), .val (.int p1), .val (.int p2), .val (.int p3), .val (.int p4), .val (.int p5), .val (.int (2 : Int32)), .val (.ref b664), .val (.ref b712), .val (.ref b801), .val (.ref b664)] [(.ref r_694)])) rfl rfl (hb hby at_188)
      refine gv st857 ?_
      show G (T857.setTop (mkF me_ 191 #[.val (.int p0), .val (.int p1), .val (.int p2), .val (.int p3), .val (.int p4), .val (.int p5), .val (.int (2 : Int32)), .val (.ref b664), .val (.ref b712), .val (.ref b801), .val (.ref b664)] [(.ref r_694)]))
      obtain ⟨cq858, kq858, q858a, q858b, q858c⟩ := isOf hZ e857 f837
      obtain ⟨_, _, ⟨T858, L858, k858, n858⟩, -, X858, ⟨Lc858, hQ858, l858, y858, z858⟩, st858⟩ := X857.virtualBack hx (y := (⟨"java/lang/Integer", "intValue", "()I"⟩ : MethodName)) (z := (⟨"java/lang/Integer", "intValue", "()I"⟩ : MethodName)) hown (mvT hZ (hw _ (List.mem_of_getElem? (i := 143) rfl))) (mvT hZ (hw _ (List.mem_of_getElem? (i := 144) rfl))) (notFace_of_selects (args := #[]) (mvT hZ (hw _ (List.mem_of_getElem? (i := 146) rfl)))) (mvT hZ (hw _ (List.mem_of_getElem? (i := 146) rfl))) (mvT hZ (hw _ (List.mem_of_getElem? (i := 145) rfl))) (by decide) (backOf (W := 0) (rm_iv l Z a0 hw [] r_694 p2 h823 n0 O845 f838) hZ (hw _ (List.mem_of_getElem? (i := 147) rfl)) (hw _ (List.mem_of_getElem? (i := 86) rfl)) (by decide) (by decide)) q858a q858c (g := (mkF me_ 191 #[.val (.int p0), .val (.int p1), .val (.int p2), .val (.int p3), .val (.int p4), .val (.int p5), .val (.int (2 : Int32)), .val (.ref b664), .val (.ref b712), .val (.ref b801), .val (.ref b664)] [(.ref r_694)])) rfl (by rw [hml]; rfl) (Steps.refl _) (argsL := []) (rest := []) (lenOf pd_17 rfl) rfl (by show 2 * 0 + _ ≤ _; exact Nat.le_of_eq rfl) (hb hby at_191) (fun _ _ => ⟨rfl, e857, (by decide : 7 + 0 ≤ _), (by decide : 23 + 0 ≤ _)⟩)
      dsimp only [Pt.U, Pt.locs, Pt.cells, Pt.slots] at X858 l858 y858 z858 st858 hQ858
      subst l858 y858 z858
      obtain ⟨rfl, Nq858, eq858⟩ := hQ858
      have N859 := Fr.app N856 Nq858
      refine gv (fun tQ kQ => st858.trans kQ) ?_
      show G (T858.setTop (mkF me_ 194 #[.val (.int p0), .val (.int p1), .val (.int p2), .val (.int p3), .val (.int p4), .val (.int p5), .val (.int (2 : Int32)), .val (.ref b664), .val (.ref b712), .val (.ref b801), .val (.ref b664)] [(.int p2)]))
      refine gv (fun tQ kQ => XS.iloadN X858.here hx rfl (hb hby at_194) rfl kQ) ?_
      show G (T858.setTop (mkF me_ 195 #[.val (.int p0), .val (.int p1), .val (.int p2), .val (.int p3), .val (.int p4), .val (.int p5), .val (.int (2 : Int32)), .val (.ref b664), .val (.ref b712), .val (.ref b801), .val (.ref b664)] [(.int p2), (.int p2)]))
      refine gv (fun tQ kQ => XS.icmpYes X858.here hx rfl (pc0 := 195) (pc' := 200) rfl (hb hby at_195) rfl (teq (rfl : p2 = p2)).1 (by decide) (by decide) kQ) ?_
      show G (T858.setTop (mkF me_ 200 #[.val (.int p0), .val (.int p1), .val (.int p2), .val (.int p3), .val (.int p4), .val (.int p5), .val (.int (2 : Int32)), .val (.ref b664), .val (.ref b712), .val (.ref b801), .val (.ref b664)] []))
      refine gv (fun tQ kQ => XS.iload X858.here hx rfl (hb hby at_200) rfl kQ) ?_
      show G (T858.setTop (mkF me_ 202 #[.val (.int p0), .val (.int p1), .val (.int p2), .val (.int p3), .val (.int p4), .val (.int p5), .val (.int (2 : Int32)), .val (.ref b664), .val (.ref b712), .val (.ref b801), .val (.ref b664)] [(.int (2 : Int32))]))
      refine gv (fun tQ kQ => XS.iconst X858.here hx rfl (hb hby at_202) kQ) ?_
      show G (T858.setTop (mkF me_ 203 #[.val (.int p0), .val (.int p1), .val (.int p2), .val (.int p3), .val (.int p4), .val (.int p5), .val (.int (2 : Int32)), .val (.ref b664), .val (.ref b712), .val (.ref b801), .val (.ref b664)] [(.int (2 : Int32)), (.int (2 : Int32))]))
      refine gv (fun tQ kQ => XS.icmpYes X858.here hx rfl (pc0 := 203) (pc' := 226) rfl (hb hby at_203) rfl (flt (by decide : ¬ ((2 : Int32) < (2 : Int32)))).2.2.2 (by decide) (by decide) kQ) ?_
      show G (T858.setTop (mkF me_ 226 #[.val (.int p0), .val (.int p1), .val (.int p2), .val (.int p3), .val (.int p4), .val (.int p5), .val (.int (2 : Int32)), .val (.ref b664), .val (.ref b712), .val (.ref b801), .val (.ref b664)] []))
      refine gv (fun tQ kQ => XS.iconst X858.here hx rfl (hb hby at_226) kQ) ?_
      show G (T858.setTop (mkF me_ 227 #[.val (.int p0), .val (.int p1), .val (.int p2), .val (.int p3), .val (.int p4), .val (.int p5), .val (.int (2 : Int32)), .val (.ref b664), .val (.ref b712), .val (.ref b801), .val (.ref b664)] [(.int (1 : Int32))]))
      refine gf _ (own_ret X858 Bd.notSynchronized (v := some (.int (1 : Int32))) (fun h => by rw [Bd.returns] at h; cases h) ?_ (by decide) (by decide) (fun fs hr => retN X858 hx (t := .boolean) Bd.returns (by simp) (hb hby at_227) hr))
      show Q0 Z p0 p1 p2 p3 p4 p5 cA bxc dA dk cs h0 n0 _ T858.heap _
      rw [eq858]
      exact ⟨rfl, N859⟩
  · rw [q]
    show G (s₁.setTop (mkF me_ 5 #[.val (.int p0), .val (.int p1), .val (.int p2), .val (.int p3), .val (.int p4), .val (.int p5), .val (.int (3 : Int32)), .unset, .unset, .unset, .unset] []))
    obtain ⟨T860, h860, X860, e860, E860, A860, D860, -, st860⟩ := newO X0 hx hZ hown (hw _ (List.mem_of_getElem? (i := 0) rfl)) (hw _ (List.mem_of_getElem? (i := 1) rfl)) (hw _ (List.mem_of_getElem? (i := 2) rfl)) e0 (g := (mkF me_ 5 #[.val (.int p0), .val (.int p1), .val (.int p2), .val (.int p3), .val (.int p4), .val (.int p5), .val (.int (3 : Int32)), .unset, .unset, .unset, .unset] [])) rfl (hb hby at_5) (by decide) (by decide)
    obtain ⟨b860, g860⟩ : ∃ z, z = h0.size := ⟨_, rfl⟩
    rw [← g860] at A860 D860 st860
    refine gv st860 ?_
    have ne861 : dA ≠ b860 := Nat.ne_of_lt (Nat.lt_of_lt_of_le (u4.ext O0.2).lt (Nat.le_of_eq g860.symm))
    have g862 : n0 ≤ b860 := Nat.le_trans (own_old O0) (Nat.le_of_eq g860.symm)
    have O864 := O0.ext E860
    have f865 : Fld Z h860 b860 "java/util/AbstractList" "modCount" "I" (.int (0 : Int32)) := D860 (Or.inl (hw _ (List.mem_of_getElem? (i := 22) rfl))) (ty := .int) (by decide)
    have f866 : Fld Z h860 b860 "java/util/ArrayList" "elementData" "[Ljava/lang/Object;" .null := D860 (Or.inl (hw _ (List.mem_of_getElem? (i := 25) rfl))) (ty := (.array (.object "java/lang/Object"))) (by decide)
    have f867 : Fld Z h860 b860 "java/util/ArrayList" "size" "I" (.int (0 : Int32)) := D860 (Or.inl (hw _ (List.mem_of_getElem? (i := 66) rfl))) (ty := .int) (by decide)
    show G (T860.setTop (mkF me_ 8 #[.val (.int p0), .val (.int p1), .val (.int p2), .val (.int p3), .val (.int p4), .val (.int p5), .val (.int (3 : Int32)), .unset, .unset, .unset, .unset] [(.ref b860)]))
    refine gv (fun tQ kQ => XS.dup X860.here hx rfl (hb hby at_8) rfl rfl kQ) ?_
    show G (T860.setTop (mkF me_ 9 #[.val (.int p0), .val (.int p1), .val (.int p2), .val (.int p3), .val (.int p4), .val (.int p5), .val (.int (3 : Int32)), .unset, .unset, .unset, .unset] [(.ref b860), (.ref b860)]))
    obtain ⟨_, _, ⟨T868, L868, k868, n868⟩, -, X868, ⟨Lc868, hQ868, l868, y868, z868⟩, st868⟩ := X860.specialBack hx (y := (⟨"java/util/ArrayList", "<init>", "()V"⟩ : MethodName)) rfl hown (mvT hZ (hw _ (List.mem_of_getElem? (i := 3) rfl))) (mvT hZ (hw _ (List.mem_of_getElem? (i := 4) rfl))) (mvT hZ (hw _ (List.mem_of_getElem? (i := 5) rfl))) (by decide) (backOf (W := 1) (rm_ali l Z a0 hw [] b860 dA dk h860 n0 O864 u3 u4 A860 f865 f866 f867 g862) hZ (hw _ (List.mem_of_getElem? (i := 5) rfl)) (hw _ (List.mem_of_getElem? (i := 2) rfl)) (by decide) (by decide)) (g := (mkF me_ 9 #[.val (.int p0), .val (.int p1), .val (.int p2), .val (.int p3), .val (.int p4), .val (.int p5), .val (.int (3 : Int32)), .unset, .unset, .unset, .unset] [(.ref b860), (.ref b860)])) rfl (by rw [hml]; rfl) (Steps.refl _) (a := b860) (argsL := []) (rest := [(.ref b860)]) (lenOf pd_0 rfl) rfl (by show 2 * 0 + _ ≤ _; exact Nat.le_of_eq rfl) (hb hby at_9) (fun _ _ => ⟨rfl, e860, (by decide : 1 + 0 ≤ _), (by decide : 3 + 0 ≤ _)⟩)
    dsimp only [Pt.U, Pt.locs, Pt.cells, Pt.slots] at X868 l868 y868 z868 st868 hQ868
    subst l868 y868 z868
    obtain ⟨rfl, Nq868, Kq868, w868_0, w868_1, w868_2, w868_3⟩ := hQ868
    have N869 := Fr.app N0 Nq868
    obtain ⟨h868, e868⟩ : ∃ z, T868.heap = z := ⟨_, rfl⟩
    rw [e868] at Kq868 w868_0 w868_1 w868_2 w868_3
    have f870 : Exa Z h868 b860 "java/util/ArrayList" := A860.keep Kq868
    have O871 := O864.keep Kq868 (allS g862 all0)
    refine gv (fun tQ kQ => st868.trans kQ) ?_
    show G (T868.setTop (mkF me_ 12 #[.val (.int p0), .val (.int p1), .val (.int p2), .val (.int p3), .val (.int p4), .val (.int p5), .val (.int (3 : Int32)), .unset, .unset, .unset, .unset] [(.ref b860)]))
    refine gv (fun tQ kQ => XS.astore X868.here hx rfl (hb hby at_12) rfl rfl (l' := #[.val (.int p0), .val (.int p1), .val (.int p2), .val (.int p3), .val (.int p4), .val (.int p5), .val (.int (3 : Int32)), .val (.ref b860), .unset, .unset, .unset]) rfl kQ) ?_
    show G (T868.setTop (mkF me_ 14 #[.val (.int p0), .val (.int p1), .val (.int p2), .val (.int p3), .val (.int p4), .val (.int p5), .val (.int (3 : Int32)), .val (.ref b860), .unset, .unset, .unset] []))
    refine gv (fun tQ kQ => XS.iload X868.here hx rfl (hb hby at_14) rfl kQ) ?_
    show G (T868.setTop (mkF me_ 16 #[.val (.int p0), .val (.int p1), .val (.int p2), .val (.int p3), .val (.int p4), .val (.int p5), .val (.int (3 : Int32)), .val (.ref b860), .unset, .unset, .unset] [(.int (3 : Int32))]))
    refine gv (fun tQ kQ => XS.ifNo X868.here hx rfl (hb hby at_16) rfl ((if0 _ _).trans (tlt (by decide : (0 : Int32) < (3 : Int32))).2.2.2) kQ) ?_
    show G (T868.setTop (mkF me_ 19 #[.val (.int p0), .val (.int p1), .val (.int p2), .val (.int p3), .val (.int p4), .val (.int p5), .val (.int (3 : Int32)), .val (.ref b860), .unset, .unset, .unset] []))
    refine gv (fun tQ kQ => XS.aload X868.here hx rfl (hb hby at_19) rfl rfl kQ) ?_
    show G (T868.setTop (mkF me_ 21 #[.val (.int p0), .val (.int p1), .val (.int p2), .val (.int p3), .val (.int p4), .val (.int p5), .val (.int (3 : Int32)), .val (.ref b860), .unset, .unset, .unset] [(.ref b860)]))
    refine gv (fun tQ kQ => XS.iloadN X868.here hx rfl (hb hby at_21) rfl kQ) ?_
    show G (T868.setTop (mkF me_ 22 #[.val (.int p0), .val (.int p1), .val (.int p2), .val (.int p3), .val (.int p4), .val (.int p5), .val (.int (3 : Int32)), .val (.ref b860), .unset, .unset, .unset] [(.int p1), (.ref b860)]))
    obtain ⟨_, _, ⟨T872, L872, k872, n872⟩, -, X872, ⟨Lc872, hQ872, l872, y872, z872⟩, st872⟩ := Jvm.LawKit.callS X868 hx (y := (⟨"java/lang/Integer", "valueOf", "(I)Ljava/lang/Integer;"⟩ : MethodName)) hown (mvT hZ (hw _ (List.mem_of_getElem? (i := 84) rfl))) (mvT hZ (hw _ (List.mem_of_getElem? (i := 85) rfl))) (mvT hZ (hw _ (List.mem_of_getElem? (i := 86) rfl))) (mvT hZ (hw _ (List.mem_of_getElem? (i := 87) rfl))) (by decide) (backOf (W := 1) (rm_vo l Z a0 hw [] p1 cA bxc h868 n0 O871 u0 u1 u2) hZ (hw _ (List.mem_of_getElem? (i := 87) rfl)) (hw _ (List.mem_of_getElem? (i := 86) rfl)) (by decide) (by decide)) (g := (mkF me_ 22 #[.val (.int p0), .val (.int p1), .val (.int p2), .val (.int p3), .val (.int p4), .val (.int p5), .val (.int (3 : Int32)), .val (.ref b860), .unset, .unset, .unset] [(.int p1), (.ref b860)])) rfl (by rw [hml]; rfl) (argsL := [(.int p1)]) (rest := [(.ref b860)]) (lenOf pd_19 rfl) rfl (by show 2 * 0 + _ ≤ _; exact Nat.le_of_eq rfl) (hb hby at_22) (fun _ _ => ⟨rfl, e868, (by decide : 1 + 1 ≤ _), (by decide : 3 + 1 ≤ _)⟩)
    dsimp only [Pt.U, Pt.locs, Pt.cells, Pt.slots] at X872 l872 y872 z872 st872 hQ872
    subst l872 y872 z872
    obtain ⟨r_872, rfl, Nq872, Kq872, w872_0, w872_1⟩ := hQ872
    have N873 := Fr.app N869 Nq872
    obtain ⟨h872, e872⟩ : ∃ z, T872.heap = z := ⟨_, rfl⟩
    rw [e872] at Kq872 w872_0 w872_1
    have f874 : Exa Z h872 b860 "java/util/ArrayList" := w868_0.keep Kq872
    have f875 : Fld Z h872 b860 "java/util/AbstractList" "modCount" "I" (.int (0 : Int32)) := w868_1.keep Kq872 nin0
    have f876 : Fld Z h872 b860 "java/util/ArrayList" "elementData" "[Ljava/lang/Object;" (.ref dA) := w868_2.keep Kq872 nin0
    have f877 : Fld Z h872 b860 "java/util/ArrayList" "size" "I" (.int (0 : Int32)) := w868_3.keep Kq872 nin0
    have O878 := O871.keep Kq872 all0
    refine gv st872 ?_
    show G (T872.setTop (mkF me_ 25 #[.val (.int p0), .val (.int p1), .val (.int p2), .val (.int p3), .val (.int p4), .val (.int p5), .val (.int (3 : Int32)), .val (.ref b860), .unset, .unset, .unset] [(.ref r_872), (.ref b860)]))
    obtain ⟨cq879, kq879, q879a, q879b, q879c⟩ := isOf hZ e872 f874
    obtain ⟨_, _, ⟨T879, L879, k879, n879⟩, -, X879, ⟨Lc879, hQ879, l879, y879, z879⟩, st879⟩ := X872.virtualBack hx (y := (⟨"java/util/ArrayList", "add", "(Ljava/lang/Object;)Z"⟩ : MethodName)) (z := (⟨"java/util/ArrayList", "add", "(Ljava/lang/Object;)Z"⟩ : MethodName)) hown (mvT hZ (hw _ (List.mem_of_getElem? (i := 91) rfl))) (mvT hZ (hw _ (List.mem_of_getElem? (i := 92) rfl))) (notFace_of_selects (args := #[]) (mvT hZ (hw _ (List.mem_of_getElem? (i := 94) rfl)))) (mvT hZ (hw _ (List.mem_of_getElem? (i := 94) rfl))) (mvT hZ (hw _ (List.mem_of_getElem? (i := 93) rfl))) (by decide) (backOf (W := 0) (rm_add0 l Z a0 hw [] b860 r_872 dA dk h872 n0 O878 u3 u4 f874 f876 f877 g862 w872_0 f875) hZ (hw _ (List.mem_of_getElem? (i := 95) rfl)) (hw _ (List.mem_of_getElem? (i := 2) rfl)) (by decide) (by decide)) q879a q879c (g := (mkF me_ 25 #[.val (.int p0), .val (.int p1), .val (.int p2), .val (.int p3), .val (.int p4), .val (.int p5), .val (.int (3 : Int32)), .val (.ref b860), .unset, .unset, .unset] [(.ref r_872), (.ref b860)])) rfl (by rw [hml]; rfl) (Steps.refl _) (argsL := [(.ref r_872)]) (rest := []) (lenOf pd_20 rfl) rfl (by show 2 * 0 + _ ≤ _; exact Nat.le_of_eq rfl) (hb hby at_25) (fun _ _ => ⟨rfl, e872, (by decide : 2 + 1 ≤ _), (by decide : 4 + 10 ≤ _)⟩)
    dsimp only [Pt.U, Pt.locs, Pt.cells, Pt.slots] at X879 l879 y879 z879 st879 hQ879
    subst l879 y879 z879
    obtain ⟨b_879, k_879, rfl, Nq879, Kq879, w879_0, w879_1, w879_2, w879_3, w879_4, w879_5, w879_6⟩ := hQ879
    have N880 := Fr.app N873 Nq879
    obtain ⟨h879, e879⟩ : ∃ z, T879.heap = z := ⟨_, rfl⟩
    rw [e879] at Kq879 w879_0 w879_1 w879_2 w879_4 w879_6
    have ne881 : dA ≠ b_879 := Nat.ne_of_lt (Nat.lt_of_lt_of_le (u4.ext O878.2).lt w879_3)
    have ne882 : b860 ≠ b_879 := Nat.ne_of_lt (Nat.lt_of_lt_of_le f874.lt w879_3)
    have ne883 : r_872 ≠ b_879 := Nat.ne_of_lt (Nat.lt_of_lt_of_le w872_0.lt w879_3)
    have g884 : n0 ≤ b_879 := Nat.le_trans (own_old O878) w879_3
    have f886 : Exa Z h879 b860 "java/util/ArrayList" := f874.keep Kq879
    have f887 : Exa Z h879 r_872 "java/lang/Integer" := w872_0.keep Kq879
    have f888 : Fld Z h879 r_872 "java/lang/Integer" "value" "I" (.int p1) := w872_1.keep Kq879 (ninS (ne_exa w872_0 f874 (by decide)) nin0)
    have O889 := O878.keep Kq879 (allS g862 all0)
    refine gv (fun tQ kQ => st879.trans kQ) ?_
    show G (T879.setTop (mkF me_ 28 #[.val (.int p0), .val (.int p1), .val (.int p2), .val (.int p3), .val (.int p4), .val (.int p5), .val (.int (3 : Int32)), .val (.ref b860), .unset, .unset, .unset] [(.int (1 : Int32))]))
    refine gv (fun tQ kQ => XS.pop X879.here hx rfl (hb hby at_28) rfl rfl kQ) ?_
    show G (T879.setTop (mkF me_ 29 #[.val (.int p0), .val (.int p1), .val (.int p2), .val (.int p3), .val (.int p4), .val (.int p5), .val (.int (3 : Int32)), .val (.ref b860), .unset, .unset, .unset] []))
    refine gv (fun tQ kQ => XS.iload X879.here hx rfl (hb hby at_29) rfl kQ) ?_
    show G (T879.setTop (mkF me_ 31 #[.val (.int p0), .val (.int p1), .val (.int p2), .val (.int p3), .val (.int p4), .val (.int p5), .val (.int (3 : Int32)), .val (.ref b860), .unset, .unset, .unset] [(.int (3 : Int32))]))
    refine gv (fun tQ kQ => XS.iconst X879.here hx rfl (hb hby at_31) kQ) ?_
    show G (T879.setTop (mkF me_ 32 #[.val (.int p0), .val (.int p1), .val (.int p2), .val (.int p3), .val (.int p4), .val (.int p5), .val (.int (3 : Int32)), .val (.ref b860), .unset, .unset, .unset] [(.int (1 : Int32)), (.int (3 : Int32))]))
    refine gv (fun tQ kQ => XS.icmpNo X879.here hx rfl (hb hby at_32) rfl (tlt (by decide : (1 : Int32) < (3 : Int32))).2.2.2 kQ) ?_
    show G (T879.setTop (mkF me_ 35 #[.val (.int p0), .val (.int p1), .val (.int p2), .val (.int p3), .val (.int p4), .val (.int p5), .val (.int (3 : Int32)), .val (.ref b860), .unset, .unset, .unset] []))
    refine gv (fun tQ kQ => XS.aload X879.here hx rfl (hb hby at_35) rfl rfl kQ) ?_
    show G (T879.setTop (mkF me_ 37 #[.val (.int p0), .val (.int p1), .val (.int p2), .val (.int p3), .val (.int p4), .val (.int p5), .val (.int (3 : Int32)), .val (.ref b860), .unset, .unset, .unset] [(.ref b860)]))
    refine gv (fun tQ kQ => XS.iloadN X879.here hx rfl (hb hby at_37) rfl kQ) ?_
    show G (T879.setTop (mkF me_ 38 #[.val (.int p0), .val (.int p1), .val (.int p2), .val (.int p3), .val (.int p4), .val (.int p5), .val (.int (3 : Int32)), .val (.ref b860), .unset, .unset, .unset] [(.int p2), (.ref b860)]))
    obtain ⟨_, _, ⟨T890, L890, k890, n890⟩, -, X890, ⟨Lc890, hQ890, l890, y890, z890⟩, st890⟩ := Jvm.LawKit.callS X879 hx (y := (⟨"java/lang/Integer", "valueOf", "(I)Ljava/lang/Integer;"⟩ : MethodName)) hown (mvT hZ (hw _ (List.mem_of_getElem? (i := 84) rfl))) (mvT hZ (hw _ (List.mem_of_getElem? (i := 85) rfl))) (mvT hZ (hw _ (List.mem_of_getElem? (i := 86) rfl))) (mvT hZ (hw _ (List.mem_of_getElem? (i := 87) rfl))) (by decide) (backOf (W := 1) (rm_vo l Z a0 hw [] p2 cA bxc h879 n0 O889 u0 u1 u2) hZ (hw _ (List.mem_of_getElem? (i := 87) rfl)) (hw _ (List.mem_of_getElem? (i := 86) rfl)) (by decide) (by decide)) (g := (mkF me_ 38 #[.val (.int p0), .val (.int p1), .val (.int p2), .val (.int p3), .val (.int p4), .val (.int p5), .val (.int (3 : Int32)), .val (.ref b860), .unset, .unset, .unset] [(.int p2), (.ref b860)])) rfl (by rw [hml]; rfl) (argsL := [(.int p2)]) (rest := [(.ref b860)]) (lenOf pd_19 rfl) rfl (by show 2 * 0 + _ ≤ _; exact Nat.le_of_eq rfl) (hb hby at_38) (fun _ _ => ⟨rfl, e879, (by decide : 3 + 1 ≤ _), (by decide : 14 + 1 ≤ _)⟩)
    dsimp only [Pt.U, Pt.locs, Pt.cells, Pt.slots] at X890 l890 y890 z890 st890 hQ890
    subst l890 y890 z890
    obtain ⟨r_890, rfl, Nq890, Kq890, w890_0, w890_1⟩ := hQ890
    have N891 := Fr.app N880 Nq890
    obtain ⟨h890, e890⟩ : ∃ z, T890.heap = z := ⟨_, rfl⟩
    rw [e890] at Kq890 w890_0 w890_1
    have f892 : Exa Z h890 b860 "java/util/ArrayList" := w879_0.keep Kq890
    have f893 : Exa Z h890 r_872 "java/lang/Integer" := f887.keep Kq890
    have f894 : Fld Z h890 r_872 "java/lang/Integer" "value" "I" (.int p1) := f888.keep Kq890 nin0
    have f895 : Fld Z h890 b860 "java/util/ArrayList" "elementData" "[Ljava/lang/Object;" (.ref b_879) := w879_1.keep Kq890 nin0
    have f896 : Fld Z h890 b860 "java/util/ArrayList" "size" "I" (.int (1 : Int32)) := w879_2.keep Kq890 nin0
    have f897 : Arv Z h890 b_879 k_879 (.object "java/lang/Object") (10 : Int32) [(.ref r_872), .null, .null, .null, .null, .null, .null, .null, .null, .null] .null := w879_4.keep Kq890 nin0
    have f898 : Fld Z h890 b860 "java/util/AbstractList" "modCount" "I" (.int (1 : Int32)) := w879_6.keep Kq890 nin0
    have O899 := O889.keep Kq890 all0
    refine gv st890 ?_
    show G (T890.setTop (mkF me_ 41 #[.val (.int p0), .val (.int p1), .val (.int p2), .val (.int p3), .val (.int p4), .val (.int p5), .val (.int (3 : Int32)), .val (.ref b860), .unset, .unset, .unset] [(.ref r_890), (.ref b860)]))
    obtain ⟨cq900, kq900, q900a, q900b, q900c⟩ := isOf hZ e890 f892
    obtain ⟨_, _, ⟨T900, L900, k900, n900⟩, -, X900, ⟨Lc900, hQ900, l900, y900, z900⟩, st900⟩ := X890.virtualBack hx (y := (⟨"java/util/ArrayList", "add", "(Ljava/lang/Object;)Z"⟩ : MethodName)) (z := (⟨"java/util/ArrayList", "add", "(Ljava/lang/Object;)Z"⟩ : MethodName)) hown (mvT hZ (hw _ (List.mem_of_getElem? (i := 91) rfl))) (mvT hZ (hw _ (List.mem_of_getElem? (i := 92) rfl))) (notFace_of_selects (args := #[]) (mvT hZ (hw _ (List.mem_of_getElem? (i := 94) rfl)))) (mvT hZ (hw _ (List.mem_of_getElem? (i := 94) rfl))) (mvT hZ (hw _ (List.mem_of_getElem? (i := 93) rfl))) (by decide) (backOf (W := 0) (rm_add1 l Z a0 hw [] b860 r_890 b_879 k_879 r_872 h890 n0 O899 f892 f895 f896 g862 f897 g884 w879_5 w890_0 f898) hZ (hw _ (List.mem_of_getElem? (i := 95) rfl)) (hw _ (List.mem_of_getElem? (i := 2) rfl)) (by decide) (by decide)) q900a q900c (g := (mkF me_ 41 #[.val (.int p0), .val (.int p1), .val (.int p2), .val (.int p3), .val (.int p4), .val (.int p5), .val (.int (3 : Int32)), .val (.ref b860), .unset, .unset, .unset] [(.ref r_890), (.ref b860)])) rfl (by rw [hml]; rfl) (Steps.refl _) (argsL := [(.ref r_890)]) (rest := []) (lenOf pd_20 rfl) rfl (by show 2 * 0 + _ ≤ _; exact Nat.le_of_eq rfl) (hb hby at_41) (fun _ _ => ⟨rfl, e890, (by decide : 4 + 0 ≤ _), (by decide : 15 + 0 ≤ _)⟩)
    dsimp only [Pt.U, Pt.locs, Pt.cells, Pt.slots] at X900 l900 y900 z900 st900 hQ900
    subst l900 y900 z900
    obtain ⟨rfl, Nq900, Kq900, w900_0, w900_1, w900_2, w900_3, w900_4⟩ := hQ900
    have N901 := Fr.app N891 Nq900
    obtain ⟨h900, e900⟩ : ∃ z, T900.heap = z := ⟨_, rfl⟩
    rw [e900] at Kq900 w900_0 w900_1 w900_2 w900_3 w900_4
    have f902 : Exa Z h900 b860 "java/util/ArrayList" := f892.keep Kq900
    have f903 : Exa Z h900 r_872 "java/lang/Integer" := f893.keep Kq900
    have f904 : Fld Z h900 r_872 "java/lang/Integer" "value" "I" (.int p1) := f894.keep Kq900 (ninS (ne_exa f893 f892 (by decide)) (ninS ne883 nin0))
    have f905 : Exa Z h900 r_890 "java/lang/Integer" := w890_0.keep Kq900
    have f906 : Fld Z h900 r_890 "java/lang/Integer" "value" "I" (.int p2) := w890_1.keep Kq900 (ninS (ne_exa w890_0 f892 (by decide)) (ninS (own_ne_arv w890_0 (hw _ (List.mem_of_getElem? (i := 151) rfl)) f897) nin0))
    have O907 := O899.keep Kq900 (allS g862 (allS g884 all0))
    refine gv (fun tQ kQ => st900.trans kQ) ?_
    show G (T900.setTop (mkF me_ 44 #[.val (.int p0), .val (.int p1), .val (.int p2), .val (.int p3), .val (.int p4), .val (.int p5), .val (.int (3 : Int32)), .val (.ref b860), .unset, .unset, .unset] [(.int (1 : Int32))]))
    refine gv (fun tQ kQ => XS.pop X900.here hx rfl (hb hby at_44) rfl rfl kQ) ?_
    show G (T900.setTop (mkF me_ 45 #[.val (.int p0), .val (.int p1), .val (.int p2), .val (.int p3), .val (.int p4), .val (.int p5), .val (.int (3 : Int32)), .val (.ref b860), .unset, .unset, .unset] []))
    refine gv (fun tQ kQ => XS.iload X900.here hx rfl (hb hby at_45) rfl kQ) ?_
    show G (T900.setTop (mkF me_ 47 #[.val (.int p0), .val (.int p1), .val (.int p2), .val (.int p3), .val (.int p4), .val (.int p5), .val (.int (3 : Int32)), .val (.ref b860), .unset, .unset, .unset] [(.int (3 : Int32))]))
    refine gv (fun tQ kQ => XS.iconst X900.here hx rfl (hb hby at_47) kQ) ?_
    show G (T900.setTop (mkF me_ 48 #[.val (.int p0), .val (.int p1), .val (.int p2), .val (.int p3), .val (.int p4), .val (.int p5), .val (.int (3 : Int32)), .val (.ref b860), .unset, .unset, .unset] [(.int (2 : Int32)), (.int (3 : Int32))]))
    refine gv (fun tQ kQ => XS.icmpNo X900.here hx rfl (hb hby at_48) rfl (tlt (by decide : (2 : Int32) < (3 : Int32))).2.2.2 kQ) ?_
    show G (T900.setTop (mkF me_ 51 #[.val (.int p0), .val (.int p1), .val (.int p2), .val (.int p3), .val (.int p4), .val (.int p5), .val (.int (3 : Int32)), .val (.ref b860), .unset, .unset, .unset] []))
    refine gv (fun tQ kQ => XS.aload X900.here hx rfl (hb hby at_51) rfl rfl kQ) ?_
    show G (T900.setTop (mkF me_ 53 #[.val (.int p0), .val (.int p1), .val (.int p2), .val (.int p3), .val (.int p4), .val (.int p5), .val (.int (3 : Int32)), .val (.ref b860), .unset, .unset, .unset] [(.ref b860)]))
    refine gv (fun tQ kQ => XS.iloadN X900.here hx rfl (hb hby at_53) rfl kQ) ?_
    show G (T900.setTop (mkF me_ 54 #[.val (.int p0), .val (.int p1), .val (.int p2), .val (.int p3), .val (.int p4), .val (.int p5), .val (.int (3 : Int32)), .val (.ref b860), .unset, .unset, .unset] [(.int p3), (.ref b860)]))
    obtain ⟨_, _, ⟨T908, L908, k908, n908⟩, -, X908, ⟨Lc908, hQ908, l908, y908, z908⟩, st908⟩ := Jvm.LawKit.callS X900 hx (y := (⟨"java/lang/Integer", "valueOf", "(I)Ljava/lang/Integer;"⟩ : MethodName)) hown (mvT hZ (hw _ (List.mem_of_getElem? (i := 84) rfl))) (mvT hZ (hw _ (List.mem_of_getElem? (i := 85) rfl))) (mvT hZ (hw _ (List.mem_of_getElem? (i := 86) rfl))) (mvT hZ (hw _ (List.mem_of_getElem? (i := 87) rfl))) (by decide) (backOf (W := 1) (rm_vo l Z a0 hw [] p3 cA bxc h900 n0 O907 u0 u1 u2) hZ (hw _ (List.mem_of_getElem? (i := 87) rfl)) (hw _ (List.mem_of_getElem? (i := 86) rfl)) (by decide) (by decide)) (g := (mkF me_ 54 #[.val (.int p0), .val (.int p1), .val (.int p2), .val (.int p3), .val (.int p4), .val (.int p5), .val (.int (3 : Int32)), .val (.ref b860), .unset, .unset, .unset] [(.int p3), (.ref b860)])) rfl (by rw [hml]; rfl) (argsL := [(.int p3)]) (rest := [(.ref b860)]) (lenOf pd_19 rfl) rfl (by show 2 * 0 + _ ≤ _; exact Nat.le_of_eq rfl) (hb hby at_54) (fun _ _ => ⟨rfl, e900, (by decide : 4 + 1 ≤ _), (by decide : 15 + 1 ≤ _)⟩)
    dsimp only [Pt.U, Pt.locs, Pt.cells, Pt.slots] at X908 l908 y908 z908 st908 hQ908
    subst l908 y908 z908
    obtain ⟨r_908, rfl, Nq908, Kq908, w908_0, w908_1⟩ := hQ908
    have N909 := Fr.app N901 Nq908
    obtain ⟨h908, e908⟩ : ∃ z, T908.heap = z := ⟨_, rfl⟩
    rw [e908] at Kq908 w908_0 w908_1
    have f910 : Exa Z h908 b860 "java/util/ArrayList" := w900_0.keep Kq908
    have f911 : Exa Z h908 r_872 "java/lang/Integer" := f903.keep Kq908
    have f912 : Fld Z h908 r_872 "java/lang/Integer" "value" "I" (.int p1) := f904.keep Kq908 nin0
    have f913 : Exa Z h908 r_890 "java/lang/Integer" := f905.keep Kq908
    have f914 : Fld Z h908 r_890 "java/lang/Integer" "value" "I" (.int p2) := f906.keep Kq908 nin0
    have f915 : Fld Z h908 b860 "java/util/ArrayList" "elementData" "[Ljava/lang/Object;" (.ref b_879) := w900_1.keep Kq908 nin0
    have f916 : Fld Z h908 b860 "java/util/ArrayList" "size" "I" (.int (2 : Int32)) := w900_2.keep Kq908 nin0
    have f917 : Arv Z h908 b_879 k_879 (.object "java/lang/Object") (10 : Int32) [(.ref r_872), (.ref r_890), .null, .null, .null, .null, .null, .null, .null, .null] .null := w900_3.keep Kq908 nin0
    have f918 : Fld Z h908 b860 "java/util/AbstractList" "modCount" "I" (.int (2 : Int32)) := w900_4.keep Kq908 nin0
    have O919 := O907.keep Kq908 all0
    refine gv st908 ?_
    show G (T908.setTop (mkF me_ 57 #[.val (.int p0), .val (.int p1), .val (.int p2), .val (.int p3), .val (.int p4), .val (.int p5), .val (.int (3 : Int32)), .val (.ref b860), .unset, .unset, .unset] [(.ref r_908), (.ref b860)]))
    obtain ⟨cq920, kq920, q920a, q920b, q920c⟩ := isOf hZ e908 f910
    obtain ⟨_, _, ⟨T920, L920, k920, n920⟩, -, X920, ⟨Lc920, hQ920, l920, y920, z920⟩, st920⟩ := X908.virtualBack hx (y := (⟨"java/util/ArrayList", "add", "(Ljava/lang/Object;)Z"⟩ : MethodName)) (z := (⟨"java/util/ArrayList", "add", "(Ljava/lang/Object;)Z"⟩ : MethodName)) hown (mvT hZ (hw _ (List.mem_of_getElem? (i := 91) rfl))) (mvT hZ (hw _ (List.mem_of_getElem? (i := 92) rfl))) (notFace_of_selects (args := #[]) (mvT hZ (hw _ (List.mem_of_getElem? (i := 94) rfl)))) (mvT hZ (hw _ (List.mem_of_getElem? (i := 94) rfl))) (mvT hZ (hw _ (List.mem_of_getElem? (i := 93) rfl))) (by decide) (backOf (W := 0) (rm_add2 l Z a0 hw [] b860 r_908 b_879 k_879 r_872 r_890 h908 n0 O919 f910 f915 f916 g862 f917 g884 w879_5 w908_0 f918) hZ (hw _ (List.mem_of_getElem? (i := 95) rfl)) (hw _ (List.mem_of_getElem? (i := 2) rfl)) (by decide) (by decide)) q920a q920c (g := (mkF me_ 57 #[.val (.int p0), .val (.int p1), .val (.int p2), .val (.int p3), .val (.int p4), .val (.int p5), .val (.int (3 : Int32)), .val (.ref b860), .unset, .unset, .unset] [(.ref r_908), (.ref b860)])) rfl (by rw [hml]; rfl) (Steps.refl _) (argsL := [(.ref r_908)]) (rest := []) (lenOf pd_20 rfl) rfl (by show 2 * 0 + _ ≤ _; exact Nat.le_of_eq rfl) (hb hby at_57) (fun _ _ => ⟨rfl, e908, (by decide : 5 + 0 ≤ _), (by decide : 16 + 0 ≤ _)⟩)
    dsimp only [Pt.U, Pt.locs, Pt.cells, Pt.slots] at X920 l920 y920 z920 st920 hQ920
    subst l920 y920 z920
    obtain ⟨rfl, Nq920, Kq920, w920_0, w920_1, w920_2, w920_3, w920_4⟩ := hQ920
    have N921 := Fr.app N909 Nq920
    obtain ⟨h920, e920⟩ : ∃ z, T920.heap = z := ⟨_, rfl⟩
    rw [e920] at Kq920 w920_0 w920_1 w920_2 w920_3 w920_4
    have f922 : Exa Z h920 b860 "java/util/ArrayList" := f910.keep Kq920
    have f923 : Exa Z h920 r_872 "java/lang/Integer" := f911.keep Kq920
    have f924 : Fld Z h920 r_872 "java/lang/Integer" "value" "I" (.int p1) := f912.keep Kq920 (ninS (ne_exa f911 f910 (by decide)) (ninS ne883 nin0))
    have f925 : Exa Z h920 r_890 "java/lang/Integer" := f913.keep Kq920
    have f926 : Fld Z h920 r_890 "java/lang/Integer" "value" "I" (.int p2) := f914.keep Kq920 (ninS (ne_exa f913 f910 (by decide)) (ninS (own_ne_arv f913 (hw _ (List.mem_of_getElem? (i := 151) rfl)) f917) nin0))
    have f927 : Exa Z h920 r_908 "java/lang/Integer" := w908_0.keep Kq920
    have f928 : Fld Z h920 r_908 "java/lang/Integer" "value" "I" (.int p3) := w908_1.keep Kq920 (ninS (ne_exa w908_0 f910 (by decide)) (ninS (own_ne_arv w908_0 (hw _ (List.mem_of_getElem? (i := 151) rfl)) f917) nin0))
    have O929 := O919.keep Kq920 (allS g862 (allS g884 all0))
    refine gv (fun tQ kQ => st920.trans kQ) ?_
    show G (T920.setTop (mkF me_ 60 #[.val (.int p0), .val (.int p1), .val (.int p2), .val (.int p3), .val (.int p4), .val (.int p5), .val (.int (3 : Int32)), .val (.ref b860), .unset, .unset, .unset] [(.int (1 : Int32))]))
    refine gv (fun tQ kQ => XS.pop X920.here hx rfl (hb hby at_60) rfl rfl kQ) ?_
    show G (T920.setTop (mkF me_ 61 #[.val (.int p0), .val (.int p1), .val (.int p2), .val (.int p3), .val (.int p4), .val (.int p5), .val (.int (3 : Int32)), .val (.ref b860), .unset, .unset, .unset] []))
    refine gv (fun tQ kQ => XS.iconst X920.here hx rfl (hb hby at_61) kQ) ?_
    show G (T920.setTop (mkF me_ 62 #[.val (.int p0), .val (.int p1), .val (.int p2), .val (.int p3), .val (.int p4), .val (.int p5), .val (.int (3 : Int32)), .val (.ref b860), .unset, .unset, .unset] [(.int (2 : Int32))]))
    obtain ⟨T930, h930, k930, X930, e930, E930, A930, st930⟩ := newP X920 hx hZ (hw _ (List.mem_of_getElem? (i := 26) rfl)) e920 (g := (mkF me_ 62 #[.val (.int p0), .val (.int p1), .val (.int p2), .val (.int p3), .val (.int p4), .val (.int p5), .val (.int (3 : Int32)), .val (.ref b860), .unset, .unset, .unset] [(.int (2 : Int32))])) rfl (hb hby at_62) rfl (by decide) (cap := 2) (by decide) (by decide) (by decide) (by decide)
    obtain ⟨b930, g930⟩ : ∃ z, z = h920.size := ⟨_, rfl⟩
    rw [← g930] at A930 st930
    refine gv st930 ?_
    have ne931 : dA ≠ b930 := Nat.ne_of_lt (Nat.lt_of_lt_of_le (u4.ext O929.2).lt (Nat.le_of_eq g930.symm))
    have ne932 : b860 ≠ b930 := Nat.ne_of_lt (Nat.lt_of_lt_of_le w920_0.lt (Nat.le_of_eq g930.symm))
    have ne933 : r_872 ≠ b930 := Nat.ne_of_lt (Nat.lt_of_lt_of_le f923.lt (Nat.le_of_eq g930.symm))
    have ne934 : r_890 ≠ b930 := Nat.ne_of_lt (Nat.lt_of_lt_of_le f925.lt (Nat.le_of_eq g930.symm))
    have ne935 : r_908 ≠ b930 := Nat.ne_of_lt (Nat.lt_of_lt_of_le f927.lt (Nat.le_of_eq g930.symm))
    have ne936 : b_879 ≠ b930 := Nat.ne_of_lt (Nat.lt_of_lt_of_le w920_3.lt (Nat.le_of_eq g930.symm))
    have g937 : n0 ≤ b930 := Nat.le_trans (own_old O929) (Nat.le_of_eq g930.symm)
    have f939 : Exa Z h930 b860 "java/util/ArrayList" := w920_0.ext E930
    have f940 : Exa Z h930 r_872 "java/lang/Integer" := f923.ext E930
    have f941 : Fld Z h930 r_872 "java/lang/Integer" "value" "I" (.int p1) := f924.ext E930
    have f942 : Exa Z h930 r_890 "java/lang/Integer" := f925.ext E930
    have f943 : Fld Z h930 r_890 "java/lang/Integer" "value" "I" (.int p2) := f926.ext E930
    have f944 : Exa Z h930 r_908 "java/lang/Integer" := f927.ext E930
    have f945 : Fld Z h930 r_908 "java/lang/Integer" "value" "I" (.int p3) := f928.ext E930
    have f946 : Fld Z h930 b860 "java/util/ArrayList" "elementData" "[Ljava/lang/Object;" (.ref b_879) := w920_1.ext E930
    have f947 : Fld Z h930 b860 "java/util/ArrayList" "size" "I" (.int (3 : Int32)) := w920_2.ext E930
    have f948 : Arv Z h930 b_879 k_879 (.object "java/lang/Object") (10 : Int32) [(.ref r_872), (.ref r_890), (.ref r_908), .null, .null, .null, .null, .null, .null, .null] .null := w920_3.ext E930
    have f949 : Fld Z h930 b860 "java/util/AbstractList" "modCount" "I" (.int (3 : Int32)) := w920_4.ext E930
    have O950 := O929.ext E930
    have V930 : Arv Z h930 b930 k930 .char (2 : Int32) [(.int (0 : Int32)), (.int (0 : Int32))] (.int (0 : Int32)) := (Arv.new A930 (by decide)).pad (pad_rep [] (.int (0 : Int32)) 2)
    show G (T930.setTop (mkF me_ 64 #[.val (.int p0), .val (.int p1), .val (.int p2), .val (.int p3), .val (.int p4), .val (.int p5), .val (.int (3 : Int32)), .val (.ref b860), .unset, .unset, .unset] [(.ref b930)]))
    refine gv (fun tQ kQ => XS.astore X930.here hx rfl (hb hby at_64) rfl rfl (l' := #[.val (.int p0), .val (.int p1), .val (.int p2), .val (.int p3), .val (.int p4), .val (.int p5), .val (.int (3 : Int32)), .val (.ref b860), .val (.ref b930), .unset, .unset]) rfl kQ) ?_
    show G (T930.setTop (mkF me_ 66 #[.val (.int p0), .val (.int p1), .val (.int p2), .val (.int p3), .val (.int p4), .val (.int p5), .val (.int (3 : Int32)), .val (.ref b860), .val (.ref b930), .unset, .unset] []))
    refine gv (fun tQ kQ => XS.aload X930.here hx rfl (hb hby at_66) rfl rfl kQ) ?_
    show G (T930.setTop (mkF me_ 68 #[.val (.int p0), .val (.int p1), .val (.int p2), .val (.int p3), .val (.int p4), .val (.int p5), .val (.int (3 : Int32)), .val (.ref b860), .val (.ref b930), .unset, .unset] [(.ref b930)]))
    refine gv (fun tQ kQ => XS.iconst X930.here hx rfl (hb hby at_68) kQ) ?_
    show G (T930.setTop (mkF me_ 69 #[.val (.int p0), .val (.int p1), .val (.int p2), .val (.int p3), .val (.int p4), .val (.int p5), .val (.int (3 : Int32)), .val (.ref b860), .val (.ref b930), .unset, .unset] [(.int (0 : Int32)), (.ref b930)]))
    refine gv (fun tQ kQ => XS.iload X930.here hx rfl (hb hby at_69) rfl kQ) ?_
    show G (T930.setTop (mkF me_ 71 #[.val (.int p0), .val (.int p1), .val (.int p2), .val (.int p3), .val (.int p4), .val (.int p5), .val (.int (3 : Int32)), .val (.ref b860), .val (.ref b930), .unset, .unset] [(.int p4), (.int (0 : Int32)), (.ref b930)]))
    refine gv (fun tQ kQ => XS.sipush X930.here hx rfl (hb hby at_71) kQ) ?_
    show G (T930.setTop (mkF me_ 74 #[.val (.int p0), .val (.int p1), .val (.int p2), .val (.int p3), .val (.int p4), .val (.int p5), .val (.int (3 : Int32)), .val (.ref b860), .val (.ref b930), .unset, .unset] [(.int (255 : Int32)), (.int p4), (.int (0 : Int32)), (.ref b930)]))
    refine gv (fun tQ kQ => XS.iand X930.here hx rfl (hb hby at_74) rfl kQ) ?_
    show G (T930.setTop (mkF me_ 75 #[.val (.int p0), .val (.int p1), .val (.int p2), .val (.int p3), .val (.int p4), .val (.int p5), .val (.int (3 : Int32)), .val (.ref b860), .val (.ref b930), .unset, .unset] [(.int (p4 &&& (255 : Int32))), (.int (0 : Int32)), (.ref b930)]))
    refine gv (fun tQ kQ => XS.i2c X930.here hx rfl (hb hby at_75) rfl kQ) ?_
    show G (T930.setTop (mkF me_ 76 #[.val (.int p0), .val (.int p1), .val (.int p2), .val (.int p3), .val (.int p4), .val (.int p5), .val (.int (3 : Int32)), .val (.ref b860), .val (.ref b930), .unset, .unset] [(.int ((p4 &&& (255 : Int32)).toUInt32.toUInt16.toUInt32.toInt32)), (.int (0 : Int32)), (.ref b930)]))
    obtain ⟨cl951, Ar951, q951, S951, n951, H951, G951⟩ := (id V930)
    have in951 : ¬ ((0 : Int32) < 0 ∨ cl951.slots.size ≤ ((0 : Int32)).toNatClampNeg) := inb_of S951 ⟨by decide, by decide⟩
    obtain ⟨T951, h951, X951, e951, W951, st951⟩ := stC X930 hx hZ e930 Ar951 (j := (0 : Int32)) in951 (g := (mkF me_ 76 #[.val (.int p0), .val (.int p1), .val (.int p2), .val (.int p3), .val (.int p4), .val (.int p5), .val (.int (3 : Int32)), .val (.ref b860), .val (.ref b930), .unset, .unset] [(.int ((p4 &&& (255 : Int32)).toUInt32.toUInt16.toUInt32.toInt32)), (.int (0 : Int32)), (.ref b930)])) rfl rfl (hb hby at_76)
    have W951 : Wr h930 h951 b930 ((0 : Int32)).toNatClampNeg (.int ((p4 &&& (255 : Int32)).toUInt32.toUInt16.toUInt32.toInt32)) := by have z := W951; rw [(own_narC _)] at z; exact z
    refine gv st951 ?_
    have f953 : Exa Z h951 b860 "java/util/ArrayList" := f939.wr W951
    have f954 : Exa Z h951 r_872 "java/lang/Integer" := f940.wr W951
    have f955 : Fld Z h951 r_872 "java/lang/Integer" "value" "I" (.int p1) := f941.other W951 (Or.inl ne933)
    have f956 : Exa Z h951 r_890 "java/lang/Integer" := f942.wr W951
    have f957 : Fld Z h951 r_890 "java/lang/Integer" "value" "I" (.int p2) := f943.other W951 (Or.inl ne934)
    have f958 : Exa Z h951 r_908 "java/lang/Integer" := f944.wr W951
    have f959 : Fld Z h951 r_908 "java/lang/Integer" "value" "I" (.int p3) := f945.other W951 (Or.inl ne935)
    have f960 : Fld Z h951 b860 "java/util/ArrayList" "elementData" "[Ljava/lang/Object;" (.ref b_879) := f946.other W951 (Or.inl ne932)
    have f961 : Fld Z h951 b860 "java/util/ArrayList" "size" "I" (.int (3 : Int32)) := f947.other W951 (Or.inl ne932)
    have f962 : Arv Z h951 b_879 k_879 (.object "java/lang/Object") (10 : Int32) [(.ref r_872), (.ref r_890), (.ref r_908), .null, .null, .null, .null, .null, .null, .null] .null := f948.other W951 ne936
    have f963 : Fld Z h951 b860 "java/util/AbstractList" "modCount" "I" (.int (3 : Int32)) := f949.other W951 (Or.inl ne932)
    have O964 := O950.wr W951 g937
    have N965 := Fr.snoc X951 N921 g937
    have f952 : Arv Z h951 b930 k930 .char (2 : Int32) [(.int ((p4 &&& (255 : Int32)).toUInt32.toUInt16.toUInt32.toInt32)), (.int (0 : Int32))] (.int (0 : Int32)) := Arv.set Ar951 q951 S951 n951 H951 G951 (fits_nar_char _) W951 0 rfl (Nat.le_of_ble_eq_true rfl)
    show G (T951.setTop (mkF me_ 77 #[.val (.int p0), .val (.int p1), .val (.int p2), .val (.int p3), .val (.int p4), .val (.int p5), .val (.int (3 : Int32)), .val (.ref b860), .val (.ref b930), .unset, .unset] []))
    refine gv (fun tQ kQ => XS.aload X951.here hx rfl (hb hby at_77) rfl rfl kQ) ?_
    show G (T951.setTop (mkF me_ 79 #[.val (.int p0), .val (.int p1), .val (.int p2), .val (.int p3), .val (.int p4), .val (.int p5), .val (.int (3 : Int32)), .val (.ref b860), .val (.ref b930), .unset, .unset] [(.ref b930)]))
    refine gv (fun tQ kQ => XS.iconst X951.here hx rfl (hb hby at_79) kQ) ?_
    show G (T951.setTop (mkF me_ 80 #[.val (.int p0), .val (.int p1), .val (.int p2), .val (.int p3), .val (.int p4), .val (.int p5), .val (.int (3 : Int32)), .val (.ref b860), .val (.ref b930), .unset, .unset] [(.int (1 : Int32)), (.ref b930)]))
    refine gv (fun tQ kQ => XS.iload X951.here hx rfl (hb hby at_80) rfl kQ) ?_
    show G (T951.setTop (mkF me_ 82 #[.val (.int p0), .val (.int p1), .val (.int p2), .val (.int p3), .val (.int p4), .val (.int p5), .val (.int (3 : Int32)), .val (.ref b860), .val (.ref b930), .unset, .unset] [(.int p5), (.int (1 : Int32)), (.ref b930)]))
    refine gv (fun tQ kQ => XS.sipush X951.here hx rfl (hb hby at_82) kQ) ?_
    show G (T951.setTop (mkF me_ 85 #[.val (.int p0), .val (.int p1), .val (.int p2), .val (.int p3), .val (.int p4), .val (.int p5), .val (.int (3 : Int32)), .val (.ref b860), .val (.ref b930), .unset, .unset] [(.int (255 : Int32)), (.int p5), (.int (1 : Int32)), (.ref b930)]))
    refine gv (fun tQ kQ => XS.iand X951.here hx rfl (hb hby at_85) rfl kQ) ?_
    show G (T951.setTop (mkF me_ 86 #[.val (.int p0), .val (.int p1), .val (.int p2), .val (.int p3), .val (.int p4), .val (.int p5), .val (.int (3 : Int32)), .val (.ref b860), .val (.ref b930), .unset, .unset] [(.int (p5 &&& (255 : Int32))), (.int (1 : Int32)), (.ref b930)]))
    refine gv (fun tQ kQ => XS.i2c X951.here hx rfl (hb hby at_86) rfl kQ) ?_
    show G (T951.setTop (mkF me_ 87 #[.val (.int p0), .val (.int p1), .val (.int p2), .val (.int p3), .val (.int p4), .val (.int p5), .val (.int (3 : Int32)), .val (.ref b860), .val (.ref b930), .unset, .unset] [(.int ((p5 &&& (255 : Int32)).toUInt32.toUInt16.toUInt32.toInt32)), (.int (1 : Int32)), (.ref b930)]))
    obtain ⟨cl966, Ar966, q966, S966, n966, H966, G966⟩ := (id f952)
    have in966 : ¬ ((1 : Int32) < 0 ∨ cl966.slots.size ≤ ((1 : Int32)).toNatClampNeg) := inb_of S966 ⟨by decide, by decide⟩
    obtain ⟨T966, h966, X966, e966, W966, st966⟩ := stC X951 hx hZ e951 Ar966 (j := (1 : Int32)) in966 (g := (mkF me_ 87 #[.val (.int p0), .val (.int p1), .val (.int p2), .val (.int p3), .val (.int p4), .val (.int p5), .val (.int (3 : Int32)), .val (.ref b860), .val (.ref b930), .unset, .unset] [(.int ((p5 &&& (255 : Int32)).toUInt32.toUInt16.toUInt32.toInt32)), (.int (1 : Int32)), (.ref b930)])) rfl rfl (hb hby at_87)
    have W966 : Wr h951 h966 b930 ((1 : Int32)).toNatClampNeg (.int ((p5 &&& (255 : Int32)).toUInt32.toUInt16.toUInt32.toInt32)) := by have z := W966; rw [(own_narC _)] at z; exact z
    refine gv st966 ?_
    have f968 : Exa Z h966 b860 "java/util/ArrayList" := f953.wr W966
    have f969 : Exa Z h966 r_872 "java/lang/Integer" := f954.wr W966
    have f970 : Fld Z h966 r_872 "java/lang/Integer" "value" "I" (.int p1) := f955.other W966 (Or.inl ne933)
    have f971 : Exa Z h966 r_890 "java/lang/Integer" := f956.wr W966
    have f972 : Fld Z h966 r_890 "java/lang/Integer" "value" "I" (.int p2) := f957.other W966 (Or.inl ne934)
    have f973 : Exa Z h966 r_908 "java/lang/Integer" := f958.wr W966
    have f974 : Fld Z h966 r_908 "java/lang/Integer" "value" "I" (.int p3) := f959.other W966 (Or.inl ne935)
    have f975 : Fld Z h966 b860 "java/util/ArrayList" "elementData" "[Ljava/lang/Object;" (.ref b_879) := f960.other W966 (Or.inl ne932)
    have f976 : Fld Z h966 b860 "java/util/ArrayList" "size" "I" (.int (3 : Int32)) := f961.other W966 (Or.inl ne932)
    have f977 : Arv Z h966 b_879 k_879 (.object "java/lang/Object") (10 : Int32) [(.ref r_872), (.ref r_890), (.ref r_908), .null, .null, .null, .null, .null, .null, .null] .null := f962.other W966 ne936
    have f978 : Fld Z h966 b860 "java/util/AbstractList" "modCount" "I" (.int (3 : Int32)) := f963.other W966 (Or.inl ne932)
    have O979 := O964.wr W966 g937
    have N980 := Fr.snoc X966 N965 g937
    have f967 : Arv Z h966 b930 k930 .char (2 : Int32) [(.int ((p4 &&& (255 : Int32)).toUInt32.toUInt16.toUInt32.toInt32)), (.int ((p5 &&& (255 : Int32)).toUInt32.toUInt16.toUInt32.toInt32))] (.int (0 : Int32)) := Arv.set Ar966 q966 S966 n966 H966 G966 (fits_nar_char _) W966 1 rfl (Nat.le_of_ble_eq_true rfl)
    show G (T966.setTop (mkF me_ 88 #[.val (.int p0), .val (.int p1), .val (.int p2), .val (.int p3), .val (.int p4), .val (.int p5), .val (.int (3 : Int32)), .val (.ref b860), .val (.ref b930), .unset, .unset] []))
    refine gv (fun tQ kQ => XS.iloadN X966.here hx rfl (hb hby at_88) rfl kQ) ?_
    show G (T966.setTop (mkF me_ 89 #[.val (.int p0), .val (.int p1), .val (.int p2), .val (.int p3), .val (.int p4), .val (.int p5), .val (.int (3 : Int32)), .val (.ref b860), .val (.ref b930), .unset, .unset] [(.int p0)]))
    refine gv (fun tQ kQ => XS.iconst X966.here hx rfl (hb hby at_89) kQ) ?_
    show G (T966.setTop (mkF me_ 90 #[.val (.int p0), .val (.int p1), .val (.int p2), .val (.int p3), .val (.int p4), .val (.int p5), .val (.int (3 : Int32)), .val (.ref b860), .val (.ref b930), .unset, .unset] [(.int (2 : Int32)), (.int p0)]))
    refine gv (fun tQ kQ => XS.iushr X966.here hx rfl (hb hby at_90) rfl kQ) ?_
    show G (T966.setTop (mkF me_ 91 #[.val (.int p0), .val (.int p1), .val (.int p2), .val (.int p3), .val (.int p4), .val (.int p5), .val (.int (3 : Int32)), .val (.ref b860), .val (.ref b930), .unset, .unset] [(.int ((p0.toUInt32 >>> ((2 : Int32) &&& 31).toUInt32).toInt32))]))
    refine gv (fun tQ kQ => XS.iconst X966.here hx rfl (hb hby at_91) kQ) ?_
    show G (T966.setTop (mkF me_ 92 #[.val (.int p0), .val (.int p1), .val (.int p2), .val (.int p3), .val (.int p4), .val (.int p5), .val (.int (3 : Int32)), .val (.ref b860), .val (.ref b930), .unset, .unset] [(.int (1 : Int32)), (.int ((p0.toUInt32 >>> ((2 : Int32) &&& 31).toUInt32).toInt32))]))
    refine gv (fun tQ kQ => XS.iand X966.here hx rfl (hb hby at_92) rfl kQ) ?_
    show G (T966.setTop (mkF me_ 93 #[.val (.int p0), .val (.int p1), .val (.int p2), .val (.int p3), .val (.int p4), .val (.int p5), .val (.int (3 : Int32)), .val (.ref b860), .val (.ref b930), .unset, .unset] [(.int (((p0.toUInt32 >>> ((2 : Int32) &&& 31).toUInt32).toInt32) &&& (1 : Int32)))]))
    by_cases hc981 : (((p0.toUInt32 >>> ((2 : Int32) &&& 31).toUInt32).toInt32) &&& (1 : Int32)) = (0 : Int32)
    · refine gv (fun tQ kQ => XS.ifYes X966.here hx rfl (pc0 := 93) (pc' := 108) rfl (hb hby at_93) rfl ((if0 _ _).trans (teq hc981).1) (by decide) (by decide) kQ) ?_
      show G (T966.setTop (mkF me_ 108 #[.val (.int p0), .val (.int p1), .val (.int p2), .val (.int p3), .val (.int p4), .val (.int p5), .val (.int (3 : Int32)), .val (.ref b860), .val (.ref b930), .unset, .unset] []))
      refine gv (fun tQ kQ => XS.aload X966.here hx rfl (hb hby at_108) rfl rfl kQ) ?_
      show G (T966.setTop (mkF me_ 110 #[.val (.int p0), .val (.int p1), .val (.int p2), .val (.int p3), .val (.int p4), .val (.int p5), .val (.int (3 : Int32)), .val (.ref b860), .val (.ref b930), .unset, .unset] [(.ref b930)]))
      refine gv (fun tQ kQ => XS.iconst X966.here hx rfl (hb hby at_110) kQ) ?_
      show G (T966.setTop (mkF me_ 111 #[.val (.int p0), .val (.int p1), .val (.int p2), .val (.int p3), .val (.int p4), .val (.int p5), .val (.int (3 : Int32)), .val (.ref b860), .val (.ref b930), .unset, .unset] [(.int (0 : Int32)), (.ref b930)]))
      obtain ⟨cl982, Ar982, q982, S982, n982, H982, G982⟩ := (id f967)
      have in982 : ¬ ((0 : Int32) < 0 ∨ cl982.slots.size ≤ ((0 : Int32)).toNatClampNeg) := inb_of S982 ⟨by decide, by decide⟩
      refine gv (X966.caload hx (j := (0 : Int32)) (v := (.int ((p4 &&& (255 : Int32)).toUInt32.toUInt16.toUInt32.toInt32))) (by rw [e966]; exact Ar982.1) (State.isArrayOf_alike hZ.alike Ar982.2.1) Ar982.2.2 in982 (Has.at H982 in982 rfl) (g := (mkF me_ 111 #[.val (.int p0), .val (.int p1), .val (.int p2), .val (.int p3), .val (.int p4), .val (.int p5), .val (.int (3 : Int32)), .val (.ref b860), .val (.ref b930), .unset, .unset] [(.int (0 : Int32)), (.ref b930)])) rfl rfl (hb hby at_111)) ?_
      show G (T966.setTop (mkF me_ 112 #[.val (.int p0), .val (.int p1), .val (.int p2), .val (.int p3), .val (.int p4), .val (.int p5), .val (.int (3 : Int32)), .val (.ref b860), .val (.ref b930), .unset, .unset] [(.int ((p4 &&& (255 : Int32)).toUInt32.toUInt16.toUInt32.toInt32))]))
      obtain ⟨_, _, ⟨T983, L983, k983, n983⟩, -, X983, ⟨Lc983, hQ983, l983, y983, z983⟩, st983⟩ := Jvm.LawKit.callS X966 hx (y := (⟨"java/lang/String", "valueOf", "(C)Ljava/lang/String;"⟩ : MethodName)) hown (mvT hZ (hw _ (List.mem_of_getElem? (i := 27) rfl))) (mvT hZ (hw _ (List.mem_of_getElem? (i := 28) rfl))) (mvT hZ (hw _ (List.mem_of_getElem? (i := 29) rfl))) (mvT hZ (hw _ (List.mem_of_getElem? (i := 30) rfl))) (by decide) (backOf (W := 0) (rm_voL l Z a0 hw [] ((p4 &&& (255 : Int32)).toUInt32.toUInt16.toUInt32.toInt32) cs h966 n0 O979 u5 u6 (own_lt255 p4)) hZ (hw _ (List.mem_of_getElem? (i := 30) rfl)) (hw _ (List.mem_of_getElem? (i := 29) rfl)) (by decide) (by decide)) (g := (mkF me_ 112 #[.val (.int p0), .val (.int p1), .val (.int p2), .val (.int p3), .val (.int p4), .val (.int p5), .val (.int (3 : Int32)), .val (.ref b860), .val (.ref b930), .unset, .unset] [(.int ((p4 &&& (255 : Int32)).toUInt32.toUInt16.toUInt32.toInt32))])) rfl (by rw [hml]; rfl) (argsL := [(.int ((p4 &&& (255 : Int32)).toUInt32.toUInt16.toUInt32.toInt32))]) (rest := []) (lenOf pd_15 rfl) rfl (by show 2 * 0 + _ ≤ _; exact Nat.le_of_eq rfl) (hb hby at_112) (fun _ _ => ⟨rfl, e966, (by decide : 6 + 2 ≤ _), (by decide : 18 + 5 ≤ _)⟩)
      dsimp only [Pt.U, Pt.locs, Pt.cells, Pt.slots] at X983 l983 y983 z983 st983 hQ983
      subst l983 y983 z983
      obtain ⟨s_983, b_983, k_983, rfl, Nq983, Kq983, w983_0, w983_1, w983_2, w983_3, w983_4, w983_5, w983_6⟩ := hQ983
      have N984 := Fr.app N980 Nq983
      obtain ⟨h983, e983⟩ : ∃ z, T983.heap = z := ⟨_, rfl⟩
      rw [e983] at Kq983 w983_3 w983_4 w983_5 w983_6
      have ne985 : dA ≠ s_983 := Nat.ne_of_lt (Nat.lt_of_lt_of_le (u4.ext O979.2).lt w983_0)
      have ne986 : b860 ≠ s_983 := Nat.ne_of_lt (Nat.lt_of_lt_of_le f968.lt w983_0)
      have ne987 : r_872 ≠ s_983 := Nat.ne_of_lt (Nat.lt_of_lt_of_le f969.lt w983_0)
      have ne988 : r_890 ≠ s_983 := Nat.ne_of_lt (Nat.lt_of_lt_of_le f971.lt w983_0)
      have ne989 : r_908 ≠ s_983 := Nat.ne_of_lt (Nat.lt_of_lt_of_le f973.lt w983_0)
      have ne990 : b_879 ≠ s_983 := Nat.ne_of_lt (Nat.lt_of_lt_of_le f977.lt w983_0)
      have ne991 : b930 ≠ s_983 := Nat.ne_of_lt (Nat.lt_of_lt_of_le f967.lt w983_0)
      have g992 : n0 ≤ s_983 := Nat.le_trans (own_old O979) w983_0
      have ne994 : dA ≠ b_983 := Nat.ne_of_lt (Nat.lt_of_lt_of_le (u4.ext O979.2).lt w983_1)
      have ne995 : b860 ≠ b_983 := Nat.ne_of_lt (Nat.lt_of_lt_of_le f968.lt w983_1)
      have ne996 : r_872 ≠ b_983 := Nat.ne_of_lt (Nat.lt_of_lt_of_le f969.lt w983_1)
      have ne997 : r_890 ≠ b_983 := Nat.ne_of_lt (Nat.lt_of_lt_of_le f971.lt w983_1)
      have ne998 : r_908 ≠ b_983 := Nat.ne_of_lt (Nat.lt_of_lt_of_le f973.lt w983_1)
      have ne999 : b_879 ≠ b_983 := Nat.ne_of_lt (Nat.lt_of_lt_of_le f977.lt w983_1)
      have ne1000 : b930 ≠ b_983 := Nat.ne_of_lt (Nat.lt_of_lt_of_le f967.lt w983_1)
      have g1001 : n0 ≤ b_983 := Nat.le_trans (own_old O979) w983_1
      have f1003 : Exa Z h983 b860 "java/util/ArrayList" := f968.keep Kq983
      have f1004 : Exa Z h983 r_872 "java/lang/Integer" := f969.keep Kq983
      have f1005 : Fld Z h983 r_872 "java/lang/Integer" "value" "I" (.int p1) := f970.keep Kq983 nin0
      have f1006 : Exa Z h983 r_890 "java/lang/Integer" := f971.keep Kq983
      have f1007 : Fld Z h983 r_890 "java/lang/Integer" "value" "I" (.int p2) := f972.keep Kq983 nin0
      have f1008 : Exa Z h983 r_908 "java/lang/Integer" := f973.keep Kq983
      have f1009 : Fld Z h983 r_908 "java/lang/Integer" "value" "I" (.int p3) := f974.keep Kq983 nin0
      have f1010 : Fld Z h983 b860 "java/util/ArrayList" "elementData" "[Ljava/lang/Object;" (.ref b_879) := f975.keep Kq983 nin0
      have f1011 : Fld Z h983 b860 "java/util/ArrayList" "size" "I" (.int (3 : Int32)) := f976.keep Kq983 nin0
      have f1012 : Arv Z h983 b_879 k_879 (.object "java/lang/Object") (10 : Int32) [(.ref r_872), (.ref r_890), (.ref r_908), .null, .null, .null, .null, .null, .null, .null] .null := f977.keep Kq983 nin0
      have f1013 : Fld Z h983 b860 "java/util/AbstractList" "modCount" "I" (.int (3 : Int32)) := f978.keep Kq983 nin0
      have f1014 : Arv Z h983 b930 k930 .char (2 : Int32) [(.int ((p4 &&& (255 : Int32)).toUInt32.toUInt16.toUInt32.toInt32)), (.int ((p5 &&& (255 : Int32)).toUInt32.toUInt16.toUInt32.toInt32))] (.int (0 : Int32)) := f967.keep Kq983 nin0
      have O1015 := O979.keep Kq983 all0
      refine gv st983 ?_
      show G (T983.setTop (mkF me_ 115 #[.val (.int p0), .val (.int p1), .val (.int p2), .val (.int p3), .val (.int p4), .val (.int p5), .val (.int (3 : Int32)), .val (.ref b860), .val (.ref b930), .unset, .unset] [(.ref s_983)]))
      refine gv (fun tQ kQ => XS.astore X983.here hx rfl (hb hby at_115) rfl rfl (l' := #[.val (.int p0), .val (.int p1), .val (.int p2), .val (.int p3), .val (.int p4), .val (.int p5), .val (.int (3 : Int32)), .val (.ref b860), .val (.ref b930), .val (.ref s_983), .unset]) rfl kQ) ?_
      show G (T983.setTop (mkF me_ 117 #[.val (.int p0), .val (.int p1), .val (.int p2), .val (.int p3), .val (.int p4), .val (.int p5), .val (.int (3 : Int32)), .val (.ref b860), .val (.ref b930), .val (.ref s_983), .unset] []))
      refine gv (fun tQ kQ => XS.aload X983.here hx rfl (hb hby at_117) rfl rfl kQ) ?_
      show G (T983.setTop (mkF me_ 119 #[.val (.int p0), .val (.int p1), .val (.int p2), .val (.int p3), .val (.int p4), .val (.int p5), .val (.int (3 : Int32)), .val (.ref b860), .val (.ref b930), .val (.ref s_983), .unset] [(.ref b860)]))
      refine gv (fun tQ kQ => XS.aload X983.here hx rfl (hb hby at_119) rfl rfl kQ) ?_
      show G (T983.setTop (mkF me_ 121 #[.val (.int p0), .val (.int p1), .val (.int p2), .val (.int p3), .val (.int p4), .val (.int p5), .val (.int (3 : Int32)), .val (.ref b860), .val (.ref b930), .val (.ref s_983), .unset] [(.ref s_983), (.ref b860)]))
      obtain ⟨_, _, ⟨T1016, L1016, k1016, n1016⟩, -, X1016, ⟨Lc1016, hQ1016, l1016, y1016, z1016⟩, st1016⟩ := Jvm.LawKit.callS X983 hx (y := (⟨"com/example/slot1/slot1/balance/Options", "array", "(Ljava/lang/Object;Ljava/lang/String;)Ljava/util/List;"⟩ : MethodName)) hown (mvT hZ (hw _ (List.mem_of_getElem? (i := 51) rfl))) (mvT hZ (hw _ (List.mem_of_getElem? (i := 52) rfl))) (mvT hZ (hw _ (List.mem_of_getElem? (i := 53) rfl))) (mvT hZ (hw _ (List.mem_of_getElem? (i := 54) rfl))) (by decide) (backOf (W := 0) (rm_arr l Z a0 hw [] b860 s_983 h983 n0 O1015 f1003) hZ (hw _ (List.mem_of_getElem? (i := 54) rfl)) (hw _ (List.mem_of_getElem? (i := 53) rfl)) (by decide) (by decide)) (g := (mkF me_ 121 #[.val (.int p0), .val (.int p1), .val (.int p2), .val (.int p3), .val (.int p4), .val (.int p5), .val (.int (3 : Int32)), .val (.ref b860), .val (.ref b930), .val (.ref s_983), .unset] [(.ref s_983), (.ref b860)])) rfl (by rw [hml]; rfl) (argsL := [(.ref b860), (.ref s_983)]) (rest := []) (lenOf pd_16 rfl) rfl (by show 2 * 0 + _ ≤ _; exact Nat.le_of_eq rfl) (hb hby at_121) (fun _ _ => ⟨rfl, e983, (by decide : 8 + 0 ≤ _), (by decide : 23 + 0 ≤ _)⟩)
      dsimp only [Pt.U, Pt.locs, Pt.cells, Pt.slots] at X1016 l1016 y1016 z1016 st1016 hQ1016
      subst l1016 y1016 z1016
      obtain ⟨rfl, Nq1016, eq1016⟩ := hQ1016
      have N1017 := Fr.app N984 Nq1016
      refine gv st1016 ?_
      show G (T1016.setTop (mkF me_ 124 #[.val (.int p0), .val (.int p1), .val (.int p2), .val (.int p3), .val (.int p4), .val (.int p5), .val (.int (3 : Int32)), .val (.ref b860), .val (.ref b930), .val (.ref s_983), .unset] [(.ref b860)]))
      refine gv (fun tQ kQ => XS.astore X1016.here hx rfl (hb hby at_124) rfl rfl (l' := #[.val (.int p0), .val (.int p1), .val (.int p2), .val (.int p3), .val (.int p4), .val (.int p5), .val (.int (3 : Int32)), .val (.ref b860), .val (.ref b930), .val (.ref s_983), .val (.ref b860)]) rfl kQ) ?_
      show G (T1016.setTop (mkF me_ 126 #[.val (.int p0), .val (.int p1), .val (.int p2), .val (.int p3), .val (.int p4), .val (.int p5), .val (.int (3 : Int32)), .val (.ref b860), .val (.ref b930), .val (.ref s_983), .val (.ref b860)] []))
      refine gv (fun tQ kQ => XS.aload X1016.here hx rfl (hb hby at_126) rfl rfl kQ) ?_
      show G (T1016.setTop (mkF me_ 128 #[.val (.int p0), .val (.int p1), .val (.int p2), .val (.int p3), .val (.int p4), .val (.int p5), .val (.int (3 : Int32)), .val (.ref b860), .val (.ref b930), .val (.ref s_983), .val (.ref b860)] [(.ref b860)]))
      refine gv (fun tQ kQ => XS.aload X1016.here hx rfl (hb hby at_128) rfl rfl kQ) ?_
      show G (T1016.setTop (mkF me_ 130 #[.val (.int p0), .val (.int p1), .val (.int p2), .val (.int p3), .val (.int p4), .val (.int p5), .val (.int (3 : Int32)), .val (.ref b860), .val (.ref b930), .val (.ref s_983), .val (.ref b860)] [(.ref b860), (.ref b860)]))
      refine gv (fun tQ kQ => Jvm.RoadKit.acmp (g := (mkF me_ 130 #[.val (.int p0), .val (.int p1), .val (.int p2), .val (.int p3), .val (.int p4), .val (.int p5), .val (.int (3 : Int32)), .val (.ref b860), .val (.ref b930), .val (.ref s_983), .val (.ref b860)] [(.ref b860), (.ref b860)])) X1016 hx rfl rfl rfl (pc0 := 130) (pc' := 135) (same := true) rfl (hb hby at_130) rfl (decide_eq_true rfl) (by decide) (by decide) kQ) ?_
      show G (T1016.setTop (mkF me_ 135 #[.val (.int p0), .val (.int p1), .val (.int p2), .val (.int p3), .val (.int p4), .val (.int p5), .val (.int (3 : Int32)), .val (.ref b860), .val (.ref b930), .val (.ref s_983), .val (.ref b860)] []))
      refine gv (fun tQ kQ => XS.aload X1016.here hx rfl (hb hby at_135) rfl rfl kQ) ?_
      show G (T1016.setTop (mkF me_ 137 #[.val (.int p0), .val (.int p1), .val (.int p2), .val (.int p3), .val (.int p4), .val (.int p5), .val (.int (3 : Int32)), .val (.ref b860), .val (.ref b930), .val (.ref s_983), .val (.ref b860)] [(.ref b860)]))
      obtain ⟨cq1018, kq1018, q1018a, q1018b, q1018c⟩ := isOf hZ eq1016 f1003
      obtain ⟨_, _, ⟨T1018, L1018, k1018, n1018⟩, -, X1018, ⟨Lc1018, hQ1018, l1018, y1018, z1018⟩, st1018⟩ := X1016.interfaceBack hx (xi := (⟨"java/util/List", "size", "()I"⟩ : MethodName)) (y := (⟨"java/util/ArrayList", "size", "()I"⟩ : MethodName)) hown (mvT hZ (hw _ (List.mem_of_getElem? (i := 57) rfl))) (mvT hZ (hw _ (List.mem_of_getElem? (i := 58) rfl))) (mvT hZ (hw _ (List.mem_of_getElem? (i := 59) rfl))) (mvT hZ (hw _ (List.mem_of_getElem? (i := 60) rfl))) (mvT hZ (hw _ (List.mem_of_getElem? (i := 61) rfl))) (mvT hZ (hw _ (List.mem_of_getElem? (i := 62) rfl))) (mvT hZ (hw _ (List.mem_of_getElem? (i := 63) rfl))) (mvT hZ (hw _ (List.mem_of_getElem? (i := 56) rfl))) (by decide) (backOf (W := 0) (rm_size3 l Z a0 hw [] b860 h983 n0 O1015 f1011) hZ (hw _ (List.mem_of_getElem? (i := 64) rfl)) (hw _ (List.mem_of_getElem? (i := 2) rfl)) (by decide) (by decide)) q1018a q1018b q1018c (g := (mkF me_ 137 #[.val (.int p0), .val (.int p1), .val (.int p2), .val (.int p3), .val (.int p4), .val (.int p5), .val (.int (3 : Int32)), .val (.ref b860), .val (.ref b930), .val (.ref s_983), .val (.ref b860)] [(.ref b860)])) rfl (by rw [hml]; rfl) (Steps.refl _) (argsL := []) (rest := []) (lenOf pd_17 rfl) rfl (by show 2 * 0 + _ ≤ _; exact Nat.le_of_eq rfl) (hb hby at_137) (fun _ _ => ⟨rfl, eq1016, (by decide : 8 + 0 ≤ _), (by decide : 23 + 0 ≤ _)⟩)
      dsimp only [Pt.U, Pt.locs, Pt.cells, Pt.slots] at X1018 l1018 y1018 z1018 st1018 hQ1018
      subst l1018 y1018 z1018
      obtain ⟨rfl, Nq1018, eq1018⟩ := hQ1018
      have N1019 := Fr.app N1017 Nq1018
      refine gv (fun tQ kQ => st1018.trans kQ) ?_
      show G (T1018.setTop (mkF me_ 142 #[.val (.int p0), .val (.int p1), .val (.int p2), .val (.int p3), .val (.int p4), .val (.int p5), .val (.int (3 : Int32)), .val (.ref b860), .val (.ref b930), .val (.ref s_983), .val (.ref b860)] [(.int (3 : Int32))]))
      refine gv (fun tQ kQ => XS.iload X1018.here hx rfl (hb hby at_142) rfl kQ) ?_
      show G (T1018.setTop (mkF me_ 144 #[.val (.int p0), .val (.int p1), .val (.int p2), .val (.int p3), .val (.int p4), .val (.int p5), .val (.int (3 : Int32)), .val (.ref b860), .val (.ref b930), .val (.ref s_983), .val (.ref b860)] [(.int (3 : Int32)), (.int (3 : Int32))]))
      refine gv (fun tQ kQ => XS.icmpYes X1018.here hx rfl (pc0 := 144) (pc' := 149) rfl (hb hby at_144) rfl (teq (by decide : (3 : Int32) = (3 : Int32))).1 (by decide) (by decide) kQ) ?_
      show G (T1018.setTop (mkF me_ 149 #[.val (.int p0), .val (.int p1), .val (.int p2), .val (.int p3), .val (.int p4), .val (.int p5), .val (.int (3 : Int32)), .val (.ref b860), .val (.ref b930), .val (.ref s_983), .val (.ref b860)] []))
      refine gv (fun tQ kQ => XS.iload X1018.here hx rfl (hb hby at_149) rfl kQ) ?_
      show G (T1018.setTop (mkF me_ 151 #[.val (.int p0), .val (.int p1), .val (.int p2), .val (.int p3), .val (.int p4), .val (.int p5), .val (.int (3 : Int32)), .val (.ref b860), .val (.ref b930), .val (.ref s_983), .val (.ref b860)] [(.int (3 : Int32))]))
      refine gv (fun tQ kQ => XS.ifNo X1018.here hx rfl (hb hby at_151) rfl ((if0 _ _).trans (tlt (by decide : (0 : Int32) < (3 : Int32))).2.2.2) kQ) ?_
      show G (T1018.setTop (mkF me_ 154 #[.val (.int p0), .val (.int p1), .val (.int p2), .val (.int p3), .val (.int p4), .val (.int p5), .val (.int (3 : Int32)), .val (.ref b860), .val (.ref b930), .val (.ref s_983), .val (.ref b860)] []))
      refine gv (fun tQ kQ => XS.aload X1018.here hx rfl (hb hby at_154) rfl rfl kQ) ?_
      show G (T1018.setTop (mkF me_ 156 #[.val (.int p0), .val (.int p1), .val (.int p2), .val (.int p3), .val (.int p4), .val (.int p5), .val (.int (3 : Int32)), .val (.ref b860), .val (.ref b930), .val (.ref s_983), .val (.ref b860)] [(.ref b860)]))
      refine gv (fun tQ kQ => XS.iconst X1018.here hx rfl (hb hby at_156) kQ) ?_
      show G (T1018.setTop (mkF me_ 157 #[.val (.int p0), .val (.int p1), .val (.int p2), .val (.int p3), .val (.int p4), .val (.int p5), .val (.int (3 : Int32)), .val (.ref b860), .val (.ref b930), .val (.ref s_983), .val (.ref b860)] [(.int (0 : Int32)), (.ref b860)]))
      obtain ⟨cq1020, kq1020, q1020a, q1020b, q1020c⟩ := isOf hZ eq1018 f1003
      obtain ⟨_, _, ⟨T1020, L1020, k1020, n1020⟩, -, X1020, ⟨Lc1020, hQ1020, l1020, y1020, z1020⟩, st1020⟩ := X1018.interfaceBack hx (xi := (⟨"java/util/List", "get", "(I)Ljava/lang/Object;"⟩ : MethodName)) (y := (⟨"java/util/ArrayList", "get", "(I)Ljava/lang/Object;"⟩ : MethodName)) hown (mvT hZ (hw _ (List.mem_of_getElem? (i := 120) rfl))) (mvT hZ (hw _ (List.mem_of_getElem? (i := 121) rfl))) (mvT hZ (hw _ (List.mem_of_getElem? (i := 122) rfl))) (mvT hZ (hw _ (List.mem_of_getElem? (i := 123) rfl))) (mvT hZ (hw _ (List.mem_of_getElem? (i := 124) rfl))) (mvT hZ (hw _ (List.mem_of_getElem? (i := 125) rfl))) (mvT hZ (hw _ (List.mem_of_getElem? (i := 126) rfl))) (mvT hZ (hw _ (List.mem_of_getElem? (i := 56) rfl))) (by decide) (backOf (W := 0) (rm_get3_0 l Z a0 hw [] b860 b_879 k_879 r_872 r_890 r_908 h983 n0 O1015 f1003 f1010 f1011 f1012) hZ (hw _ (List.mem_of_getElem? (i := 127) rfl)) (hw _ (List.mem_of_getElem? (i := 2) rfl)) (by decide) (by decide)) q1020a q1020b q1020c (g := (mkF me_ 157 #[.val (.int p0), .val (.int p1), .val (.int p2), .val (.int p3), .val (.int p4), .val (.int p5), .val (.int (3 : Int32)), .val (.ref b860), .val (.ref b930), .val (.ref s_983), .val (.ref b860)] [(.int (0 : Int32)), (.ref b860)])) rfl (by rw [hml]; rfl) (Steps.refl _) (argsL := [(.int (0 : Int32))]) (rest := []) (lenOf pd_14 rfl) rfl (by show 2 * 0 + _ ≤ _; exact Nat.le_of_eq rfl) (hb hby at_157) (fun _ _ => ⟨rfl, eq1018, (by decide : 8 + 0 ≤ _), (by decide : 23 + 0 ≤ _)⟩)
      dsimp only [Pt.U, Pt.locs, Pt.cells, Pt.slots] at X1020 l1020 y1020 z1020 st1020 hQ1020
      subst l1020 y1020 z1020
      obtain ⟨rfl, Nq1020, eq1020⟩ := hQ1020
      have N1021 := Fr.app N1019 Nq1020
      refine gv (fun tQ kQ => st1020.trans kQ) ?_
      show G (T1020.setTop (mkF me_ 162 #[.val (.int p0), .val (.int p1), .val (.int p2), .val (.int p3), .val (.int p4), .val (.int p5), .val (.int (3 : Int32)), .val (.ref b860), .val (.ref b930), .val (.ref s_983), .val (.ref b860)] [(.ref r_872)]))
      obtain ⟨T1022, X1022, e1022, st1022⟩ := castY X1020 hx hZ hown (hw _ (List.mem_of_getElem? (i := 141) rfl)) eq1020 (Ins.self f1004) (g := (mkF me_ 162 #[.val (.int p0), .val (.int p1), .val (.int p2), .val (.int p3), .val (.int p4), .val (.int p5), .val (.int (3 : Int32)), .val (.ref b860), .val (.ref b930), .val (.ref s_983), .val (.ref b860)] [(.ref r_872)])) rfl rfl (hb hby at_162)
      refine gv st1022 ?_
      show G (T1022.setTop (mkF me_ 165 #[.val (.int p0), .val (.int p1), .val (.int p2), .val (.int p3), .val (.int p4), .val (.int p5), .val (.int (3 : Int32)), .val (.ref b860), .val (.ref b930), .val (.ref s_983), .val (.ref b860)] [(.ref r_872)]))
      obtain ⟨cq1023, kq1023, q1023a, q1023b, q1023c⟩ := isOf hZ e1022 f1004
      obtain ⟨_, _, ⟨T1023, L1023, k1023, n1023⟩, -, X1023, ⟨Lc1023, hQ1023, l1023, y1023, z1023⟩, st1023⟩ := X1022.virtualBack hx (y := (⟨"java/lang/Integer", "intValue", "()I"⟩ : MethodName)) (z := (⟨"java/lang/Integer", "intValue", "()I"⟩ : MethodName)) hown (mvT hZ (hw _ (List.mem_of_getElem? (i := 143) rfl))) (mvT hZ (hw _ (List.mem_of_getElem? (i := 144) rfl))) (notFace_of_selects (args := #[]) (mvT hZ (hw _ (List.mem_of_getElem? (i := 146) rfl)))) (mvT hZ (hw _ (List.mem_of_getElem? (i := 146) rfl))) (mvT hZ (hw _ (List.mem_of_getElem? (i := 145) rfl))) (by decide) (backOf (W := 0) (rm_iv l Z a0 hw [] r_872 p1 h983 n0 O1015 f1005) hZ (hw _ (List.mem_of_getElem? (i := 147) rfl)) (hw _ (List.mem_of_getElem? (i := 86) rfl)) (by decide) (by decide)) q1023a q1023c (g := (mkF me_ 165 #[.val (.int p0), .val (.int p1), .val (.int p2), .val (.int p3), .val (.int p4), .val (.int p5), .val (.int (3 : Int32)), .val (.ref b860), .val (.ref b930), .val (.ref s_983), .val (.ref b860)] [(.ref r_872)])) rfl (by rw [hml]; rfl) (Steps.refl _) (argsL := []) (rest := []) (lenOf pd_17 rfl) rfl (by show 2 * 0 + _ ≤ _; exact Nat.le_of_eq rfl) (hb hby at_165) (fun _ _ => ⟨rfl, e1022, (by decide : 8 + 0 ≤ _), (by decide : 23 + 0 ≤ _)⟩)
      dsimp only [Pt.U, Pt.locs, Pt.cells, Pt.slots] at X1023 l1023 y1023 z1023 st1023 hQ1023
      subst l1023 y1023 z1023
      obtain ⟨rfl, Nq1023, eq1023⟩ := hQ1023
      have N1024 := Fr.app N1021 Nq1023
      refine gv (fun tQ kQ => st1023.trans kQ) ?_
      show G (T1023.setTop (mkF me_ 168 #[.val (.int p0), .val (.int p1), .val (.int p2), .val (.int p3), .val (.int p4), .val (.int p5), .val (.int (3 : Int32)), .val (.ref b860), .val (.ref b930), .val (.ref s_983), .val (.ref b860)] [(.int p1)]))
      refine gv (fun tQ kQ => XS.iloadN X1023.here hx rfl (hb hby at_168) rfl kQ) ?_
      show G (T1023.setTop (mkF me_ 169 #[.val (.int p0), .val (.int p1), .val (.int p2), .val (.int p3), .val (.int p4), .val (.int p5), .val (.int (3 : Int32)), .val (.ref b860), .val (.ref b930), .val (.ref s_983), .val (.ref b860)] [(.int p1), (.int p1)]))
      refine gv (fun tQ kQ => XS.icmpYes X1023.here hx rfl (pc0 := 169) (pc' := 174) rfl (hb hby at_169) rfl (teq (rfl : p1 = p1)).1 (by decide) (by decide) kQ) ?_
      show G (T1023.setTop (mkF me_ 174 #[.val (.int p0), .val (.int p1), .val (.int p2), .val (.int p3), .val (.int p4), .val (.int p5), .val (.int (3 : Int32)), .val (.ref b860), .val (.ref b930), .val (.ref s_983), .val (.ref b860)] []))
      refine gv (fun tQ kQ => XS.iload X1023.here hx rfl (hb hby at_174) rfl kQ) ?_
      show G (T1023.setTop (mkF me_ 176 #[.val (.int p0), .val (.int p1), .val (.int p2), .val (.int p3), .val (.int p4), .val (.int p5), .val (.int (3 : Int32)), .val (.ref b860), .val (.ref b930), .val (.ref s_983), .val (.ref b860)] [(.int (3 : Int32))]))
      refine gv (fun tQ kQ => XS.iconst X1023.here hx rfl (hb hby at_176) kQ) ?_
      show G (T1023.setTop (mkF me_ 177 #[.val (.int p0), .val (.int p1), .val (.int p2), .val (.int p3), .val (.int p4), .val (.int p5), .val (.int (3 : Int32)), .val (.ref b860), .val (.ref b930), .val (.ref s_983), .val (.ref b860)] [(.int (1 : Int32)), (.int (3 : Int32))]))
      refine gv (fun tQ kQ => XS.icmpNo X1023.here hx rfl (hb hby at_177) rfl (tlt (by decide : (1 : Int32) < (3 : Int32))).2.2.2 kQ) ?_
      show G (T1023.setTop (mkF me_ 180 #[.val (.int p0), .val (.int p1), .val (.int p2), .val (.int p3), .val (.int p4), .val (.int p5), .val (.int (3 : Int32)), .val (.ref b860), .val (.ref b930), .val (.ref s_983), .val (.ref b860)] []))
      refine gv (fun tQ kQ => XS.aload X1023.here hx rfl (hb hby at_180) rfl rfl kQ) ?_
      show G (T1023.setTop (mkF me_ 182 #[.val (.int p0), .val (.int p1), .val (.int p2), .val (.int p3), .val (.int p4), .val (.int p5), .val (.int (3 : Int32)), .val (.ref b860), .val (.ref b930), .val (.ref s_983), .val (.ref b860)] [(.ref b860)]))
      refine gv (fun tQ kQ => XS.iconst X1023.here hx rfl (hb hby at_182) kQ) ?_
      show G (T1023.setTop (mkF me_ 183 #[.val (.int p0), .val (.int p1), .val (.int p2), .val (.int p3), .val (.int p4), .val (.int p5), .val (.int (3 : Int32)), .val (.ref b860), .val (.ref b930), .val (.ref s_983), .val (.ref b860)] [(.int (1 : Int32)), (.ref b860)]))
      obtain ⟨cq1025, kq1025, q1025a, q1025b, q1025c⟩ := isOf hZ eq1023 f1003
      obtain ⟨_, _, ⟨T1025, L1025, k1025, n1025⟩, -, X1025, ⟨Lc1025, hQ1025, l1025, y1025, z1025⟩, st1025⟩ := X1023.interfaceBack hx (xi := (⟨"java/util/List", "get", "(I)Ljava/lang/Object;"⟩ : MethodName)) (y := (⟨"java/util/ArrayList", "get", "(I)Ljava/lang/Object;"⟩ : MethodName)) hown (mvT hZ (hw _ (List.mem_of_getElem? (i := 120) rfl))) (mvT hZ (hw _ (List.mem_of_getElem? (i := 121) rfl))) (mvT hZ (hw _ (List.mem_of_getElem? (i := 122) rfl))) (mvT hZ (hw _ (List.mem_of_getElem? (i := 123) rfl))) (mvT hZ (hw _ (List.mem_of_getElem? (i := 124) rfl))) (mvT hZ (hw _ (List.mem_of_getElem? (i := 125) rfl))) (mvT hZ (hw _ (List.mem_of_getElem? (i := 126) rfl))) (mvT hZ (hw _ (List.mem_of_getElem? (i := 56) rfl))) (by decide) (backOf (W := 0) (rm_get3_1 l Z a0 hw [] b860 b_879 k_879 r_872 r_890 r_908 h983 n0 O1015 f1003 f1010 f1011 f1012) hZ (hw _ (List.mem_of_getElem? (i := 127) rfl)) (hw _ (List.mem_of_getElem? (i := 2) rfl)) (by decide) (by decide)) q1025a q1025b q1025c (g := (mkF me_ 183 #[.val (.int p0), .val (.int p1), .val (.int p2), .val (.int p3), .val (.int p4), .val (.int p5), .val (.int (3 : Int32)), .val (.ref b860), .val (.ref b930), .val (.ref s_983), .val (.ref b860)] [(.int (1 : Int32)), (.ref b860)])) rfl (by rw [hml]; rfl) (Steps.refl _) (argsL := [(.int (1 : Int32))]) (rest := []) (lenOf pd_14 rfl) rfl (by show 2 * 0 + _ ≤ _; exact Nat.le_of_eq rfl) (hb hby at_183) (fun _ _ => ⟨rfl, eq1023, (by decide : 8 + 0 ≤ _), (by decide : 23 + 0 ≤ _)⟩)
      dsimp only [Pt.U, Pt.locs, Pt.cells, Pt.slots] at X1025 l1025 y1025 z1025 st1025 hQ1025
      subst l1025 y1025 z1025
      obtain ⟨rfl, Nq1025, eq1025⟩ := hQ1025
      have N1026 := Fr.app N1024 Nq1025
      refine gv (fun tQ kQ => st1025.trans kQ) ?_
      show G (T1025.setTop (mkF me_ 188 #[.val (.int p0), .val (.int p1), .val (.int p2), .val (.int p3), .val (.int p4), .val (.int p5), .val (.int (3 : Int32)), .val (.ref b860), .val (.ref b930), .val (.ref s_983), .val (.ref b860)] [(.ref r_890)]))
      obtain ⟨T1027, X1027, e1027, st1027⟩ := castY X1025 hx hZ hown (hw _ (List.mem_of_getElem? (i := 141) rfl)) eq1025 (Ins.self f1006) (g := (mkF me_ 188 #[.val (.int p0), .val (.int p1), .val (.int p2), .val (.int p3), .val (.int p4), .val (.int p5), .val (.int (3 : Int32)), .val (.ref b860), .val (.ref b930), .val (.ref s_983), .val (.ref b860)] [(.ref r_890)])) rfl rfl (hb hby at_188)
      refine gv st1027 ?_
      show G (T1027.setTop (mkF me_ 191 #[.val (.int p0), .val (.int p1), .val (.int p2), .val (.int p3), .val (.int p4), .val (.int p5), .val (.int (3 : Int32)), .val (.ref b860), .val (.ref b930), .val (.ref s_983), .val (.ref b860)] [(.ref r_890)]))
      obtain ⟨cq1028, kq1028, q1028a, q1028b, q1028c⟩ := isOf hZ e1027 f1006
      obtain ⟨_, _, ⟨T1028, L1028, k1028, n1028⟩, -, X1028, ⟨Lc1028, hQ1028, l1028, y1028, z1028⟩, st1028⟩ := X1027.virtualBack hx (y := (⟨"java/lang/Integer", "intValue", "()I"⟩ : MethodName)) (z := (⟨"java/lang/Integer", "intValue", "()I"⟩ : MethodName)) hown (mvT hZ (hw _ (List.mem_of_getElem? (i := 143) rfl))) (mvT hZ (hw _ (List.mem_of_getElem? (i := 144) rfl))) (notFace_of_selects (args := #[]) (mvT hZ (hw _ (List.mem_of_getElem? (i := 146) rfl)))) (mvT hZ (hw _ (List.mem_of_getElem? (i := 146) rfl))) (mvT hZ (hw _ (List.mem_of_getElem? (i := 145) rfl))) (by decide) (backOf (W := 0) (rm_iv l Z a0 hw [] r_890 p2 h983 n0 O1015 f1007) hZ (hw _ (List.mem_of_getElem? (i := 147) rfl)) (hw _ (List.mem_of_getElem? (i := 86) rfl)) (by decide) (by decide)) q1028a q1028c (g := (mkF me_ 191 #[.val (.int p0), .val (.int p1), .val (.int p2), .val (.int p3), .val (.int p4), .val (.int p5), .val (.int (3 : Int32)), .val (.ref b860), .val (.ref b930), .val (.ref s_983), .val (.ref b860)] [(.ref r_890)])) rfl (by rw [hml]; rfl) (Steps.refl _) (argsL := []) (rest := []) (lenOf pd_17 rfl) rfl (by show 2 * 0 + _ ≤ _; exact Nat.le_of_eq rfl) (hb hby at_191) (fun _ _ => ⟨rfl, e1027, (by decide : 8 + 0 ≤ _), (by decide : 23 + 0 ≤ _)⟩)
      dsimp only [Pt.U, Pt.locs, Pt.cells, Pt.slots] at X1028 l1028 y1028 z1028 st1028 hQ1028
      subst l1028 y1028 z1028
      obtain ⟨rfl, Nq1028, eq1028⟩ := hQ1028
      have N1029 := Fr.app N1026 Nq1028
      refine gv (fun tQ kQ => st1028.trans kQ) ?_
      show G (T1028.setTop (mkF me_ 194 #[.val (.int p0), .val (.int p1), .val (.int p2), .val (.int p3), .val (.int p4), .val (.int p5), .val (.int (3 : Int32)), .val (.ref b860), .val (.ref b930), .val (.ref s_983), .val (.ref b860)] [(.int p2)]))
      refine gv (fun tQ kQ => XS.iloadN X1028.here hx rfl (hb hby at_194) rfl kQ) ?_
      show G (T1028.setTop (mkF me_ 195 #[.val (.int p0), .val (.int p1), .val (.int p2), .val (.int p3), .val (.int p4), .val (.int p5), .val (.int (3 : Int32)), .val (.ref b860), .val (.ref b930), .val (.ref s_983), .val (.ref b860)] [(.int p2), (.int p2)]))
      refine gv (fun tQ kQ => XS.icmpYes X1028.here hx rfl (pc0 := 195) (pc' := 200) rfl (hb hby at_195) rfl (teq (rfl : p2 = p2)).1 (by decide) (by decide) kQ) ?_
      show G (T1028.setTop (mkF me_ 200 #[.val (.int p0), .val (.int p1), .val (.int p2), .val (.int p3), .val (.int p4), .val (.int p5), .val (.int (3 : Int32)), .val (.ref b860), .val (.ref b930), .val (.ref s_983), .val (.ref b860)] []))
      refine gv (fun tQ kQ => XS.iload X1028.here hx rfl (hb hby at_200) rfl kQ) ?_
      show G (T1028.setTop (mkF me_ 202 #[.val (.int p0), .val (.int p1), .val (.int p2), .val (.int p3), .val (.int p4), .val (.int p5), .val (.int (3 : Int32)), .val (.ref b860), .val (.ref b930), .val (.ref s_983), .val (.ref b860)] [(.int (3 : Int32))]))
      refine gv (fun tQ kQ => XS.iconst X1028.here hx rfl (hb hby at_202) kQ) ?_
      show G (T1028.setTop (mkF me_ 203 #[.val (.int p0), .val (.int p1), .val (.int p2), .val (.int p3), .val (.int p4), .val (.int p5), .val (.int (3 : Int32)), .val (.ref b860), .val (.ref b930), .val (.ref s_983), .val (.ref b860)] [(.int (2 : Int32)), (.int (3 : Int32))]))
      refine gv (fun tQ kQ => XS.icmpNo X1028.here hx rfl (hb hby at_203) rfl (tlt (by decide : (2 : Int32) < (3 : Int32))).2.2.2 kQ) ?_
      show G (T1028.setTop (mkF me_ 206 #[.val (.int p0), .val (.int p1), .val (.int p2), .val (.int p3), .val (.int p4), .val (.int p5), .val (.int (3 : Int32)), .val (.ref b860), .val (.ref b930), .val (.ref s_983), .val (.ref b860)] []))
      refine gv (fun tQ kQ => XS.aload X1028.here hx rfl (hb hby at_206) rfl rfl kQ) ?_
      show G (T1028.setTop (mkF me_ 208 #[.val (.int p0), .val (.int p1), .val (.int p2), .val (.int p3), .val (.int p4), .val (.int p5), .val (.int (3 : Int32)), .val (.ref b860), .val (.ref b930), .val (.ref s_983), .val (.ref b860)] [(.ref b860)]))
      refine gv (fun tQ kQ => XS.iconst X1028.here hx rfl (hb hby at_208) kQ) ?_
      show G (T1028.setTop (mkF me_ 209 #[.val (.int p0), .val (.int p1), .val (.int p2), .val (.int p3), .val (.int p4), .val (.int p5), .val (.int (3 : Int32)), .val (.ref b860), .val (.ref b930), .val (.ref s_983), .val (.ref b860)] [(.int (2 : Int32)), (.ref b860)]))
      obtain ⟨cq1030, kq1030, q1030a, q1030b, q1030c⟩ := isOf hZ eq1028 f1003
      obtain ⟨_, _, ⟨T1030, L1030, k1030, n1030⟩, -, X1030, ⟨Lc1030, hQ1030, l1030, y1030, z1030⟩, st1030⟩ := X1028.interfaceBack hx (xi := (⟨"java/util/List", "get", "(I)Ljava/lang/Object;"⟩ : MethodName)) (y := (⟨"java/util/ArrayList", "get", "(I)Ljava/lang/Object;"⟩ : MethodName)) hown (mvT hZ (hw _ (List.mem_of_getElem? (i := 120) rfl))) (mvT hZ (hw _ (List.mem_of_getElem? (i := 121) rfl))) (mvT hZ (hw _ (List.mem_of_getElem? (i := 122) rfl))) (mvT hZ (hw _ (List.mem_of_getElem? (i := 123) rfl))) (mvT hZ (hw _ (List.mem_of_getElem? (i := 124) rfl))) (mvT hZ (hw _ (List.mem_of_getElem? (i := 125) rfl))) (mvT hZ (hw _ (List.mem_of_getElem? (i := 126) rfl))) (mvT hZ (hw _ (List.mem_of_getElem? (i := 56) rfl))) (by decide) (backOf (W := 0) (rm_get3_2 l Z a0 hw [] b860 b_879 k_879 r_872 r_890 r_908 h983 n0 O1015 f1003 f1010 f1011 f1012) hZ (hw _ (List.mem_of_getElem? (i := 127) rfl)) (hw _ (List.mem_of_getElem? (i := 2) rfl)) (by decide) (by decide)) q1030a q1030b q1030c (g := (mkF me_ 209 #[.val (.int p0), .val (.int p1), .val (.int p2), .val (.int p3), .val (.int p4), .val (.int p5), .val (.int (3 : Int32)), .val (.ref b860), .val (.ref b930), .val (.ref s_983), .val (.ref b860)] [(.int (2 : Int32)), (.ref b860)])) rfl (by rw [hml]; rfl) (Steps.refl _) (argsL := [(.int (2 : Int32))]) (rest := []) (lenOf pd_14 rfl) rfl (by show 2 * 0 + _ ≤ _; exact Nat.le_of_eq rfl) (hb hby at_209) (fun _ _ => ⟨rfl, eq1028, (by decide : 8 + 0 ≤ _), (by decide : 23 + 0 ≤ _)⟩)
      dsimp only [Pt.U, Pt.locs, Pt.cells, Pt.slots] at X1030 l1030 y1030 z1030 st1030 hQ1030
      subst l1030 y1030 z1030
      obtain ⟨rfl, Nq1030, eq1030⟩ := hQ1030
      have N1031 := Fr.app N1029 Nq1030
      refine gv (fun tQ kQ => st1030.trans kQ) ?_
      show G (T1030.setTop (mkF me_ 214 #[.val (.int p0), .val (.int p1), .val (.int p2), .val (.int p3), .val (.int p4), .val (.int p5), .val (.int (3 : Int32)), .val (.ref b860), .val (.ref b930), .val (.ref s_983), .val (.ref b860)] [(.ref r_908)]))
      obtain ⟨T1032, X1032, e1032, st1032⟩ := castY X1030 hx hZ hown (hw _ (List.mem_of_getElem? (i := 141) rfl)) eq1030 (Ins.self f1008) (g := (mkF me_ 214 #[.val (.int p0), .val (.int p1), .val (.int p2), .val (.int p3), .val (.int p4), .val (.int p5), .val (.int (3 : Int32)), .val (.ref b860), .val (.ref b930), .val (.ref s_983), .val (.ref b860)] [(.ref r_908)])) rfl rfl (hb hby at_214)
      refine gv st1032 ?_
      show G (T1032.setTop (mkF me_ 217 #[.val (.int p0), .val (.int p1), .val (.int p2), .val (.int p3), .val (.int p4), .val (.int p5), .val (.int (3 : Int32)), .val (.ref b860), .val (.ref b930), .val (.ref s_983), .val (.ref b860)] [(.ref r_908)]))
      obtain ⟨cq1033, kq1033, q1033a, q1033b, q1033c⟩ := isOf hZ e1032 f1008
      obtain ⟨_, _, ⟨T1033, L1033, k1033, n1033⟩, -, X1033, ⟨Lc1033, hQ1033, l1033, y1033, z1033⟩, st1033⟩ := X1032.virtualBack hx (y := (⟨"java/lang/Integer", "intValue", "()I"⟩ : MethodName)) (z := (⟨"java/lang/Integer", "intValue", "()I"⟩ : MethodName)) hown (mvT hZ (hw _ (List.mem_of_getElem? (i := 143) rfl))) (mvT hZ (hw _ (List.mem_of_getElem? (i := 144) rfl))) (notFace_of_selects (args := #[]) (mvT hZ (hw _ (List.mem_of_getElem? (i := 146) rfl)))) (mvT hZ (hw _ (List.mem_of_getElem? (i := 146) rfl))) (mvT hZ (hw _ (List.mem_of_getElem? (i := 145) rfl))) (by decide) (backOf (W := 0) (rm_iv l Z a0 hw [] r_908 p3 h983 n0 O1015 f1009) hZ (hw _ (List.mem_of_getElem? (i := 147) rfl)) (hw _ (List.mem_of_getElem? (i := 86) rfl)) (by decide) (by decide)) q1033a q1033c (g := (mkF me_ 217 #[.val (.int p0), .val (.int p1), .val (.int p2), .val (.int p3), .val (.int p4), .val (.int p5), .val (.int (3 : Int32)), .val (.ref b860), .val (.ref b930), .val (.ref s_983), .val (.ref b860)] [(.ref r_908)])) rfl (by rw [hml]; rfl) (Steps.refl _) (argsL := []) (rest := []) (lenOf pd_17 rfl) rfl (by show 2 * 0 + _ ≤ _; exact Nat.le_of_eq rfl) (hb hby at_217) (fun _ _ => ⟨rfl, e1032, (by decide : 8 + 0 ≤ _), (by decide : 23 + 0 ≤ _)⟩)
      dsimp only [Pt.U, Pt.locs, Pt.cells, Pt.slots] at X1033 l1033 y1033 z1033 st1033 hQ1033
      subst l1033 y1033 z1033
      obtain ⟨rfl, Nq1033, eq1033⟩ := hQ1033
      have N1034 := Fr.app N1031 Nq1033
      refine gv (fun tQ kQ => st1033.trans kQ) ?_
      show G (T1033.setTop (mkF me_ 220 #[.val (.int p0), .val (.int p1), .val (.int p2), .val (.int p3), .val (.int p4), .val (.int p5), .val (.int (3 : Int32)), .val (.ref b860), .val (.ref b930), .val (.ref s_983), .val (.ref b860)] [(.int p3)]))
      refine gv (fun tQ kQ => XS.iloadN X1033.here hx rfl (hb hby at_220) rfl kQ) ?_
      show G (T1033.setTop (mkF me_ 221 #[.val (.int p0), .val (.int p1), .val (.int p2), .val (.int p3), .val (.int p4), .val (.int p5), .val (.int (3 : Int32)), .val (.ref b860), .val (.ref b930), .val (.ref s_983), .val (.ref b860)] [(.int p3), (.int p3)]))
      refine gv (fun tQ kQ => XS.icmpYes X1033.here hx rfl (pc0 := 221) (pc' := 226) rfl (hb hby at_221) rfl (teq (rfl : p3 = p3)).1 (by decide) (by decide) kQ) ?_
      show G (T1033.setTop (mkF me_ 226 #[.val (.int p0), .val (.int p1), .val (.int p2), .val (.int p3), .val (.int p4), .val (.int p5), .val (.int (3 : Int32)), .val (.ref b860), .val (.ref b930), .val (.ref s_983), .val (.ref b860)] []))
      refine gv (fun tQ kQ => XS.iconst X1033.here hx rfl (hb hby at_226) kQ) ?_
      show G (T1033.setTop (mkF me_ 227 #[.val (.int p0), .val (.int p1), .val (.int p2), .val (.int p3), .val (.int p4), .val (.int p5), .val (.int (3 : Int32)), .val (.ref b860), .val (.ref b930), .val (.ref s_983), .val (.ref b860)] [(.int (1 : Int32))]))
      refine gf _ (own_ret X1033 Bd.notSynchronized (v := some (.int (1 : Int32))) (fun h => by rw [Bd.returns] at h; cases h) ?_ (by decide) (by decide) (fun fs hr => retN X1033 hx (t := .boolean) Bd.returns (by simp) (hb hby at_227) hr))
      show Q0 Z p0 p1 p2 p3 p4 p5 cA bxc dA dk cs h0 n0 _ T1033.heap _
      rw [eq1033]
      exact ⟨rfl, N1034⟩
    · refine gv (fun tQ kQ => XS.ifNo X966.here hx rfl (hb hby at_93) rfl ((if0 _ _).trans (feq hc981).1) kQ) ?_
      show G (T966.setTop (mkF me_ 96 #[.val (.int p0), .val (.int p1), .val (.int p2), .val (.int p3), .val (.int p4), .val (.int p5), .val (.int (3 : Int32)), .val (.ref b860), .val (.ref b930), .unset, .unset] []))
      obtain ⟨T1035, h1035, X1035, e1035, E1035, A1035, D1035, -, st1035⟩ := newO X966 hx hZ hown (hw _ (List.mem_of_getElem? (i := 67) rfl)) (hw _ (List.mem_of_getElem? (i := 37) rfl)) (hw _ (List.mem_of_getElem? (i := 29) rfl)) e966 (g := (mkF me_ 96 #[.val (.int p0), .val (.int p1), .val (.int p2), .val (.int p3), .val (.int p4), .val (.int p5), .val (.int (3 : Int32)), .val (.ref b860), .val (.ref b930), .unset, .unset] [])) rfl (hb hby at_96) (by decide) (by decide)
      obtain ⟨b1035, g1035⟩ : ∃ z, z = h966.size := ⟨_, rfl⟩
      rw [← g1035] at A1035 D1035 st1035
      refine gv st1035 ?_
      have ne1036 : dA ≠ b1035 := Nat.ne_of_lt (Nat.lt_of_lt_of_le (u4.ext O979.2).lt (Nat.le_of_eq g1035.symm))
      have ne1037 : b860 ≠ b1035 := Nat.ne_of_lt (Nat.lt_of_lt_of_le f968.lt (Nat.le_of_eq g1035.symm))
      have ne1038 : r_872 ≠ b1035 := Nat.ne_of_lt (Nat.lt_of_lt_of_le f969.lt (Nat.le_of_eq g1035.symm))
      have ne1039 : r_890 ≠ b1035 := Nat.ne_of_lt (Nat.lt_of_lt_of_le f971.lt (Nat.le_of_eq g1035.symm))
      have ne1040 : r_908 ≠ b1035 := Nat.ne_of_lt (Nat.lt_of_lt_of_le f973.lt (Nat.le_of_eq g1035.symm))
      have ne1041 : b_879 ≠ b1035 := Nat.ne_of_lt (Nat.lt_of_lt_of_le f977.lt (Nat.le_of_eq g1035.symm))
      have ne1042 : b930 ≠ b1035 := Nat.ne_of_lt (Nat.lt_of_lt_of_le f967.lt (Nat.le_of_eq g1035.symm))
      have g1043 : n0 ≤ b1035 := Nat.le_trans (own_old O979) (Nat.le_of_eq g1035.symm)
      have f1045 : Exa Z h1035 b860 "java/util/ArrayList" := f968.ext E1035
      have f1046 : Exa Z h1035 r_872 "java/lang/Integer" := f969.ext E1035
      have f1047 : Fld Z h1035 r_872 "java/lang/Integer" "value" "I" (.int p1) := f970.ext E1035
      have f1048 : Exa Z h1035 r_890 "java/lang/Integer" := f971.ext E1035
      have f1049 : Fld Z h1035 r_890 "java/lang/Integer" "value" "I" (.int p2) := f972.ext E1035
      have f1050 : Exa Z h1035 r_908 "java/lang/Integer" := f973.ext E1035
      have f1051 : Fld Z h1035 r_908 "java/lang/Integer" "value" "I" (.int p3) := f974.ext E1035
      have f1052 : Fld Z h1035 b860 "java/util/ArrayList" "elementData" "[Ljava/lang/Object;" (.ref b_879) := f975.ext E1035
      have f1053 : Fld Z h1035 b860 "java/util/ArrayList" "size" "I" (.int (3 : Int32)) := f976.ext E1035
      have f1054 : Arv Z h1035 b_879 k_879 (.object "java/lang/Object") (10 : Int32) [(.ref r_872), (.ref r_890), (.ref r_908), .null, .null, .null, .null, .null, .null, .null] .null := f977.ext E1035
      have f1055 : Fld Z h1035 b860 "java/util/AbstractList" "modCount" "I" (.int (3 : Int32)) := f978.ext E1035
      have f1056 : Arv Z h1035 b930 k930 .char (2 : Int32) [(.int ((p4 &&& (255 : Int32)).toUInt32.toUInt16.toUInt32.toInt32)), (.int ((p5 &&& (255 : Int32)).toUInt32.toUInt16.toUInt32.toInt32))] (.int (0 : Int32)) := f967.ext E1035
      have O1057 := O979.ext E1035
      have f1058 : Fld Z h1035 b1035 "java/lang/String" "value" "[B" .null := D1035 (Or.inr (hw _ (List.mem_of_getElem? (i := 48) rfl))) (ty := (.array .byte)) (by decide)
      have f1059 : Fld Z h1035 b1035 "java/lang/String" "coder" "B" (.int (0 : Int32)) := D1035 (Or.inr (hw _ (List.mem_of_getElem? (i := 50) rfl))) (ty := .byte) (by decide)
      show G (T1035.setTop (mkF me_ 99 #[.val (.int p0), .val (.int p1), .val (.int p2), .val (.int p3), .val (.int p4), .val (.int p5), .val (.int (3 : Int32)), .val (.ref b860), .val (.ref b930), .unset, .unset] [(.ref b1035)]))
      refine gv (fun tQ kQ => XS.dup X1035.here hx rfl (hb hby at_99) rfl rfl kQ) ?_
      show G (T1035.setTop (mkF me_ 100 #[.val (.int p0), .val (.int p1), .val (.int p2), .val (.int p3), .val (.int p4), .val (.int p5), .val (.int (3 : Int32)), .val (.ref b860), .val (.ref b930), .unset, .unset] [(.ref b1035), (.ref b1035)]))
      refine gv (fun tQ kQ => XS.aload X1035.here hx rfl (hb hby at_100) rfl rfl kQ) ?_
      show G (T1035.setTop (mkF me_ 102 #[.val (.int p0), .val (.int p1), .val (.int p2), .val (.int p3), .val (.int p4), .val (.int p5), .val (.int (3 : Int32)), .val (.ref b860), .val (.ref b930), .unset, .unset] [(.ref b930), (.ref b1035), (.ref b1035)]))
      obtain ⟨_, _, ⟨T1060, L1060, k1060, n1060⟩, -, X1060, ⟨Lc1060, hQ1060, l1060, y1060, z1060⟩, st1060⟩ := X1035.specialBack hx (y := (⟨"java/lang/String", "<init>", "([C)V"⟩ : MethodName)) rfl hown (mvT hZ (hw _ (List.mem_of_getElem? (i := 68) rfl))) (mvT hZ (hw _ (List.mem_of_getElem? (i := 69) rfl))) (mvT hZ (hw _ (List.mem_of_getElem? (i := 70) rfl))) (by decide) (backOf (W := 1) (rm_sc l Z a0 hw [] b1035 b930 k930 ((p4 &&& (255 : Int32)).toUInt32.toUInt16.toUInt32.toInt32) ((p5 &&& (255 : Int32)).toUInt32.toUInt16.toUInt32.toInt32) cs h1035 n0 O1057 u5 u6 (own_lt255 p4) (own_lt255 p5) A1035 f1058 f1059 g1043 f1056 (Ne.symm ne1042)) hZ (hw _ (List.mem_of_getElem? (i := 70) rfl)) (hw _ (List.mem_of_getElem? (i := 29) rfl)) (by decide) (by decide)) (g := (mkF me_ 102 #[.val (.int p0), .val (.int p1), .val (.int p2), .val (.int p3), .val (.int p4), .val (.int p5), .val (.int (3 : Int32)), .val (.ref b860), .val (.ref b930), .unset, .unset] [(.ref b930), (.ref b1035), (.ref b1035)])) rfl (by rw [hml]; rfl) (Steps.refl _) (a := b1035) (argsL := [(.ref b930)]) (rest := [(.ref b1035)]) (lenOf pd_18 rfl) rfl (by show 2 * 0 + _ ≤ _; exact Nat.le_of_eq rfl) (hb hby at_102) (fun _ _ => ⟨rfl, e1035, (by decide : 7 + 1 ≤ _), (by decide : 22 + 2 ≤ _)⟩)
      dsimp only [Pt.U, Pt.locs, Pt.cells, Pt.slots] at X1060 l1060 y1060 z1060 st1060 hQ1060
      subst l1060 y1060 z1060
      obtain ⟨b_1060, k_1060, rfl, Nq1060, Kq1060, w1060_0, w1060_1, w1060_2, w1060_3, w1060_4⟩ := hQ1060
      have N1061 := Fr.app N980 Nq1060
      obtain ⟨h1060, e1060⟩ : ∃ z, T1060.heap = z := ⟨_, rfl⟩
      rw [e1060] at Kq1060 w1060_1 w1060_2 w1060_3 w1060_4
      have ne1062 : dA ≠ b_1060 := Nat.ne_of_lt (Nat.lt_of_lt_of_le (u4.ext O1057.2).lt w1060_0)
      have ne1063 : b860 ≠ b_1060 := Nat.ne_of_lt (Nat.lt_of_lt_of_le f1045.lt w1060_0)
      have ne1064 : r_872 ≠ b_1060 := Nat.ne_of_lt (Nat.lt_of_lt_of_le f1046.lt w1060_0)
      have ne1065 : r_890 ≠ b_1060 := Nat.ne_of_lt (Nat.lt_of_lt_of_le f1048.lt w1060_0)
      have ne1066 : r_908 ≠ b_1060 := Nat.ne_of_lt (Nat.lt_of_lt_of_le f1050.lt w1060_0)
      have ne1067 : b_879 ≠ b_1060 := Nat.ne_of_lt (Nat.lt_of_lt_of_le f1054.lt w1060_0)
      have ne1068 : b930 ≠ b_1060 := Nat.ne_of_lt (Nat.lt_of_lt_of_le f1056.lt w1060_0)
      have ne1069 : b1035 ≠ b_1060 := Nat.ne_of_lt (Nat.lt_of_lt_of_le A1035.lt w1060_0)
      have g1070 : n0 ≤ b_1060 := Nat.le_trans (own_old O1057) w1060_0
      have f1072 : Exa Z h1060 b860 "java/util/ArrayList" := f1045.keep Kq1060
      have f1073 : Exa Z h1060 r_872 "java/lang/Integer" := f1046.keep Kq1060
      have f1074 : Fld Z h1060 r_872 "java/lang/Integer" "value" "I" (.int p1) := f1047.keep Kq1060 (ninS ne1038 nin0)
      have f1075 : Exa Z h1060 r_890 "java/lang/Integer" := f1048.keep Kq1060
      have f1076 : Fld Z h1060 r_890 "java/lang/Integer" "value" "I" (.int p2) := f1049.keep Kq1060 (ninS ne1039 nin0)
      have f1077 : Exa Z h1060 r_908 "java/lang/Integer" := f1050.keep Kq1060
      have f1078 : Fld Z h1060 r_908 "java/lang/Integer" "value" "I" (.int p3) := f1051.keep Kq1060 (ninS ne1040 nin0)
      have f1079 : Fld Z h1060 b860 "java/util/ArrayList" "elementData" "[Ljava/lang/Object;" (.ref b_879) := f1052.keep Kq1060 (ninS ne1037 nin0)
      have f1080 : Fld Z h1060 b860 "java/util/ArrayList" "size" "I" (.int (3 : Int32)) := f1053.keep Kq1060 (ninS ne1037 nin0)
      have f1081 : Arv Z h1060 b_879 k_879 (.object "java/lang/Object") (10 : Int32) [(.ref r_872), (.ref r_890), (.ref r_908), .null, .null, .null, .null, .null, .null, .null] .null := f1054.keep Kq1060 (ninS ne1041 nin0)
      have f1082 : Fld Z h1060 b860 "java/util/AbstractList" "modCount" "I" (.int (3 : Int32)) := f1055.keep Kq1060 (ninS ne1037 nin0)
      have f1083 : Arv Z h1060 b930 k930 .char (2 : Int32) [(.int ((p4 &&& (255 : Int32)).toUInt32.toUInt16.toUInt32.toInt32)), (.int ((p5 &&& (255 : Int32)).toUInt32.toUInt16.toUInt32.toInt32))] (.int (0 : Int32)) := f1056.keep Kq1060 (ninS ne1042 nin0)
      have f1084 : Exa Z h1060 b1035 "java/lang/String" := A1035.keep Kq1060
      have O1085 := O1057.keep Kq1060 (allS g1043 all0)
      refine gv (fun tQ kQ => st1060.trans kQ) ?_
      show G (T1060.setTop (mkF me_ 105 #[.val (.int p0), .val (.int p1), .val (.int p2), .val (.int p3), .val (.int p4), .val (.int p5), .val (.int (3 : Int32)), .val (.ref b860), .val (.ref b930), .unset, .unset] [(.ref b1035)]))
      refine gv (fun tQ kQ => XS.goto X1060.here hx rfl (pc0 := 105) (pc' := 115) rfl (hb hby at_105) (by decide) (by decide) kQ) ?_
      show G (T1060.setTop (mkF me_ 115 #[.val (.int p0), .val (.int p1), .val (.int p2), .val (.int p3), .val (.int p4), .val (.int p5), .val (.int (3 : Int32)), .val (.ref b860), .val (.ref b930), .unset, .unset] [(.ref b1035)]))
      refine gv (fun tQ kQ => XS.astore X1060.here hx rfl (hb hby at_115) rfl rfl (l' := #[.val (.int p0), .val (.int p1), .val (.int p2), .val (.int p3), .val (.int p4), .val (.int p5), .val (.int (3 : Int32)), .val (.ref b860), .val (.ref b930), .val (.ref b1035), .unset]) rfl kQ) ?_
      show G (T1060.setTop (mkF me_ 117 #[.val (.int p0), .val (.int p1), .val (.int p2), .val (.int p3), .val (.int p4), .val (.int p5), .val (.int (3 : Int32)), .val (.ref b860), .val (.ref b930), .val (.ref b1035), .unset] []))
      refine gv (fun tQ kQ => XS.aload X1060.here hx rfl (hb hby at_117) rfl rfl kQ) ?_
      show G (T1060.setTop (mkF me_ 119 #[.val (.int p0), .val (.int p1), .val (.int p2), .val (.int p3), .val (.int p4), .val (.int p5), .val (.int (3 : Int32)), .val (.ref b860), .val (.ref b930), .val (.ref b1035), .unset] [(.ref b860)]))
      refine gv (fun tQ kQ => XS.aload X1060.here hx rfl (hb hby at_119) rfl rfl kQ) ?_
      show G (T1060.setTop (mkF me_ 121 #[.val (.int p0), .val (.int p1), .val (.int p2), .val (.int p3), .val (.int p4), .val (.int p5), .val (.int (3 : Int32)), .val (.ref b860), .val (.ref b930), .val (.ref b1035), .unset] [(.ref b1035), (.ref b860)]))
      obtain ⟨_, _, ⟨T1086, L1086, k1086, n1086⟩, -, X1086, ⟨Lc1086, hQ1086, l1086, y1086, z1086⟩, st1086⟩ := Jvm.LawKit.callS X1060 hx (y := (⟨"com/example/slot1/slot1/balance/Options", "array", "(Ljava/lang/Object;Ljava/lang/String;)Ljava/util/List;"⟩ : MethodName)) hown (mvT hZ (hw _ (List.mem_of_getElem? (i := 51) rfl))) (mvT hZ (hw _ (List.mem_of_getElem? (i := 52) rfl))) (mvT hZ (hw _ (List.mem_of_getElem? (i := 53) rfl))) (mvT hZ (hw _ (List.mem_of_getElem? (i := 54) rfl))) (by decide) (backOf (W := 0) (rm_arr l Z a0 hw [] b860 b1035 h1060 n0 O1085 f1072) hZ (hw _ (List.mem_of_getElem? (i := 54) rfl)) (hw _ (List.mem_of_getElem? (i := 53) rfl)) (by decide) (by decide)) (g := (mkF me_ 121 #[.val (.int p0), .val (.int p1), .val (.int p2), .val (.int p3), .val (.int p4), .val (.int p5), .val (.int (3 : Int32)), .val (.ref b860), .val (.ref b930), .val (.ref b1035), .unset] [(.ref b1035), (.ref b860)])) rfl (by rw [hml]; rfl) (argsL := [(.ref b860), (.ref b1035)]) (rest := []) (lenOf pd_16 rfl) rfl (by show 2 * 0 + _ ≤ _; exact Nat.le_of_eq rfl) (hb hby at_121) (fun _ _ => ⟨rfl, e1060, (by decide : 8 + 0 ≤ _), (by decide : 24 + 0 ≤ _)⟩)
      dsimp only [Pt.U, Pt.locs, Pt.cells, Pt.slots] at X1086 l1086 y1086 z1086 st1086 hQ1086
      subst l1086 y1086 z1086
      obtain ⟨rfl, Nq1086, eq1086⟩ := hQ1086
      have N1087 := Fr.app N1061 Nq1086
      refine gv st1086 ?_
      show G (T1086.setTop (mkF me_ 124 #[.val (.int p0), .val (.int p1), .val (.int p2), .val (.int p3), .val (.int p4), .val (.int p5), .val (.int (3 : Int32)), .val (.ref b860), .val (.ref b930), .val (.ref b1035), .unset] [(.ref b860)]))
      refine gv (fun tQ kQ => XS.astore X1086.here hx rfl (hb hby at_124) rfl rfl (l' := #[.val (.int p0), .val (.int p1), .val (.int p2), .val (.int p3), .val (.int p4), .val (.int p5), .val (.int (3 : Int32)), .val (.ref b860), .val (.ref b930), .val (.ref b1035), .val (.ref b860)]) rfl kQ) ?_
      show G (T1086.setTop (mkF me_ 126 #[.val (.int p0), .val (.int p1), .val (.int p2), .val (.int p3), .val (.int p4), .val (.int p5), .val (.int (3 : Int32)), .val (.ref b860), .val (.ref b930), .val (.ref b1035), .val (.ref b860)] []))
      refine gv (fun tQ kQ => XS.aload X1086.here hx rfl (hb hby at_126) rfl rfl kQ) ?_
      show G (T1086.setTop (mkF me_ 128 #[.val (.int p0), .val (.int p1), .val (.int p2), .val (.int p3), .val (.int p4), .val (.int p5), .val (.int (3 : Int32)), .val (.ref b860), .val (.ref b930), .val (.ref b1035), .val (.ref b860)] [(.ref b860)]))
      refine gv (fun tQ kQ => XS.aload X1086.here hx rfl (hb hby at_128) rfl rfl kQ) ?_
      show G (T1086.setTop (mkF me_ 130 #[.val (.int p0), .val (.int p1), .val (.int p2), .val (.int p3), .val (.int p4), .val (.int p5), .val (.int (3 : Int32)), .val (.ref b860), .val (.ref b930), .val (.ref b1035), .val (.ref b860)] [(.ref b860), (.ref b860)]))
      refine gv (fun tQ kQ => Jvm.RoadKit.acmp (g := (mkF me_ 130 #[.val (.int p0), .val (.int p1), .val (.int p2), .val (.int p3), .val (.int p4), .val (.int p5), .val (.int (3 : Int32)), .val (.ref b860), .val (.ref b930), .val (.ref b1035), .val (.ref b860)] [(.ref b860), (.ref b860)])) X1086 hx rfl rfl rfl (pc0 := 130) (pc' := 135) (same := true) rfl (hb hby at_130) rfl (decide_eq_true rfl) (by decide) (by decide) kQ) ?_
      show G (T1086.setTop (mkF me_ 135 #[.val (.int p0), .val (.int p1), .val (.int p2), .val (.int p3), .val (.int p4), .val (.int p5), .val (.int (3 : Int32)), .val (.ref b860), .val (.ref b930), .val (.ref b1035), .val (.ref b860)] []))
      refine gv (fun tQ kQ => XS.aload X1086.here hx rfl (hb hby at_135) rfl rfl kQ) ?_
      show G (T1086.setTop (mkF me_ 137 #[.val (.int p0), .val (.int p1), .val (.int p2), .val (.int p3), .val (.int p4), .val (.int p5), .val (.int (3 : Int32)), .val (.ref b860), .val (.ref b930), .val (.ref b1035), .val (.ref b860)] [(.ref b860)]))
      obtain ⟨cq1088, kq1088, q1088a, q1088b, q1088c⟩ := isOf hZ eq1086 f1072
      obtain ⟨_, _, ⟨T1088, L1088, k1088, n1088⟩, -, X1088, ⟨Lc1088, hQ1088, l1088, y1088, z1088⟩, st1088⟩ := X1086.interfaceBack hx (xi := (⟨"java/util/List", "size", "()I"⟩ : MethodName)) (y := (⟨"java/util/ArrayList", "size", "()I"⟩ : MethodName)) hown (mvT hZ (hw _ (List.mem_of_getElem? (i := 57) rfl))) (mvT hZ (hw _ (List.mem_of_getElem? (i := 58) rfl))) (mvT hZ (hw _ (List.mem_of_getElem? (i := 59) rfl))) (mvT hZ (hw _ (List.mem_of_getElem? (i := 60) rfl))) (mvT hZ (hw _ (List.mem_of_getElem? (i := 61) rfl))) (mvT hZ (hw _ (List.mem_of_getElem? (i := 62) rfl))) (mvT hZ (hw _ (List.mem_of_getElem? (i := 63) rfl))) (mvT hZ (hw _ (List.mem_of_getElem? (i := 56) rfl))) (by decide) (backOf (W := 0) (rm_size3 l Z a0 hw [] b860 h1060 n0 O1085 f1080) hZ (hw _ (List.mem_of_getElem? (i := 64) rfl)) (hw _ (List.mem_of_getElem? (i := 2) rfl)) (by decide) (by decide)) q1088a q1088b q1088c (g := (mkF me_ 137 #[.val (.int p0), .val (.int p1), .val (.int p2), .val (.int p3), .val (.int p4), .val (.int p5), .val (.int (3 : Int32)), .val (.ref b860), .val (.ref b930), .val (.ref b1035), .val (.ref b860)] [(.ref b860)])) rfl (by rw [hml]; rfl) (Steps.refl _) (argsL := []) (rest := []) (lenOf pd_17 rfl) rfl (by show 2 * 0 + _ ≤ _; exact Nat.le_of_eq rfl) (hb hby at_137) (fun _ _ => ⟨rfl, eq1086, (by decide : 8 + 0 ≤ _), (by decide : 24 + 0 ≤ _)⟩)
      dsimp only [Pt.U, Pt.locs, Pt.cells, Pt.slots] at X1088 l1088 y1088 z1088 st1088 hQ1088
      subst l1088 y1088 z1088
      obtain ⟨rfl, Nq1088, eq1088⟩ := hQ1088
      have N1089 := Fr.app N1087 Nq1088
      refine gv (fun tQ kQ => st1088.trans kQ) ?_
      show G (T1088.setTop (mkF me_ 142 #[.val (.int p0), .val (.int p1), .val (.int p2), .val (.int p3), .val (.int p4), .val (.int p5), .val (.int (3 : Int32)), .val (.ref b860), .val (.ref b930), .val (.ref b1035), .val (.ref b860)] [(.int (3 : Int32))]))
      refine gv (fun tQ kQ => XS.iload X1088.here hx rfl (hb hby at_142) rfl kQ) ?_
      show G (T1088.setTop (mkF me_ 144 #[.val (.int p0), .val (.int p1), .val (.int p2), .val (.int p3), .val (.int p4), .val (.int p5), .val (.int (3 : Int32)), .val (.ref b860), .val (.ref b930), .val (.ref b1035), .val (.ref b860)] [(.int (3 : Int32)), (.int (3 : Int32))]))
      refine gv (fun tQ kQ => XS.icmpYes X1088.here hx rfl (pc0 := 144) (pc' := 149) rfl (hb hby at_144) rfl (teq (by decide : (3 : Int32) = (3 : Int32))).1 (by decide) (by decide) kQ) ?_
      show G (T1088.setTop (mkF me_ 149 #[.val (.int p0), .val (.int p1), .val (.int p2), .val (.int p3), .val (.int p4), .val (.int p5), .val (.int (3 : Int32)), .val (.ref b860), .val (.ref b930), .val (.ref b1035), .val (.ref b860)] []))
      refine gv (fun tQ kQ => XS.iload X1088.here hx rfl (hb hby at_149) rfl kQ) ?_
      show G (T1088.setTop (mkF me_ 151 #[.val (.int p0), .val (.int p1), .val (.int p2), .val (.int p3), .val (.int p4), .val (.int p5), .val (.int (3 : Int32)), .val (.ref b860), .val (.ref b930), .val (.ref b1035), .val (.ref b860)] [(.int (3 : Int32))]))
      refine gv (fun tQ kQ => XS.ifNo X1088.here hx rfl (hb hby at_151) rfl ((if0 _ _).trans (tlt (by decide : (0 : Int32) < (3 : Int32))).2.2.2) kQ) ?_
      show G (T1088.setTop (mkF me_ 154 #[.val (.int p0), .val (.int p1), .val (.int p2), .val (.int p3), .val (.int p4), .val (.int p5), .val (.int (3 : Int32)), .val (.ref b860), .val (.ref b930), .val (.ref b1035), .val (.ref b860)] []))
      refine gv (fun tQ kQ => XS.aload X1088.here hx rfl (hb hby at_154) rfl rfl kQ) ?_
      show G (T1088.setTop (mkF me_ 156 #[.val (.int p0), .val (.int p1), .val (.int p2), .val (.int p3), .val (.int p4), .val (.int p5), .val (.int (3 : Int32)), .val (.ref b860), .val (.ref b930), .val (.ref b1035), .val (.ref b860)] [(.ref b860)]))
      refine gv (fun tQ kQ => XS.iconst X1088.here hx rfl (hb hby at_156) kQ) ?_
      show G (T1088.setTop (mkF me_ 157 #[.val (.int p0), .val (.int p1), .val (.int p2), .val (.int p3), .val (.int p4), .val (.int p5), .val (.int (3 : Int32)), .val (.ref b860), .val (.ref b930), .val (.ref b1035), .val (.ref b860)] [(.int (0 : Int32)), (.ref b860)]))
      obtain ⟨cq1090, kq1090, q1090a, q1090b, q1090c⟩ := isOf hZ eq1088 f1072
      obtain ⟨_, _, ⟨T1090, L1090, k1090, n1090⟩, -, X1090, ⟨Lc1090, hQ1090, l1090, y1090, z1090⟩, st1090⟩ := X1088.interfaceBack hx (xi := (⟨"java/util/List", "get", "(I)Ljava/lang/Object;"⟩ : MethodName)) (y := (⟨"java/util/ArrayList", "get", "(I)Ljava/lang/Object;"⟩ : MethodName)) hown (mvT hZ (hw _ (List.mem_of_getElem? (i := 120) rfl))) (mvT hZ (hw _ (List.mem_of_getElem? (i := 121) rfl))) (mvT hZ (hw _ (List.mem_of_getElem? (i := 122) rfl))) (mvT hZ (hw _ (List.mem_of_getElem? (i := 123) rfl))) (mvT hZ (hw _ (List.mem_of_getElem? (i := 124) rfl))) (mvT hZ (hw _ (List.mem_of_getElem? (i := 125) rfl))) (mvT hZ (hw _ (List.mem_of_getElem? (i := 126) rfl))) (mvT hZ (hw _ (List.mem_of_getElem? (i := 56) rfl))) (by decide) (backOf (W := 0) (rm_get3_0 l Z a0 hw [] b860 b_879 k_879 r_872 r_890 r_908 h1060 n0 O1085 f1072 f1079 f1080 f1081) hZ (hw _ (List.mem_of_getElem? (i := 127) rfl)) (hw _ (List.mem_of_getElem? (i := 2) rfl)) (by decide) (by decide)) q1090a q1090b q1090c (g := (mkF me_ 157 #[.val (.int p0), .val (.int p1), .val (.int p2), .val (.int p3), .val (.int p4), .val (.int p5), .val (.int (3 : Int32)), .val (.ref b860), .val (.ref b930), .val (.ref b1035), .val (.ref b860)] [(.int (0 : Int32)), (.ref b860)])) rfl (by rw [hml]; rfl) (Steps.refl _) (argsL := [(.int (0 : Int32))]) (rest := []) (lenOf pd_14 rfl) rfl (by show 2 * 0 + _ ≤ _; exact Nat.le_of_eq rfl) (hb hby at_157) (fun _ _ => ⟨rfl, eq1088, (by decide : 8 + 0 ≤ _), (by decide : 24 + 0 ≤ _)⟩)
      dsimp only [Pt.U, Pt.locs, Pt.cells, Pt.slots] at X1090 l1090 y1090 z1090 st1090 hQ1090
      subst l1090 y1090 z1090
      obtain ⟨rfl, Nq1090, eq1090⟩ := hQ1090
      have N1091 := Fr.app N1089 Nq1090
      refine gv (fun tQ kQ => st1090.trans kQ) ?_
      show G (T1090.setTop (mkF me_ 162 #[.val (.int p0), .val (.int p1), .val (.int p2), .val (.int p3), .val (.int p4), .val (.int p5), .val (.int (3 : Int32)), .val (.ref b860), .val (.ref b930), .val (.ref b1035), .val (.ref b860)] [(.ref r_872)]))
      obtain ⟨T1092, X1092, e1092, st1092⟩ := castY X1090 hx hZ hown (hw _ (List.mem_of_getElem? (i := 141) rfl)) eq1090 (Ins.self f1073) (g := (mkF me_ 162 #[.val (.int p0), .val (.int p1), .val (.int p2), .val (.int p3), .val (.int p4), .val (.int p5), .val (.int (3 : Int32)), .val (.ref b860), .val (.ref b930), .val (.ref b1035), .val (.ref b860)] [(.ref r_872)])) rfl rfl (hb hby at_162)
      refine gv st1092 ?_
      show G (T1092.setTop (mkF me_ 165 #[.val (.int p0), .val (.int p1), .val (.int p2), .val (.int p3), .val (.int p4), .val (.int p5), .val (.int (3 : Int32)), .val (.ref b860), .val (.ref b930), .val (.ref b1035), .val (.ref b860)] [(.ref r_872)]))
      obtain ⟨cq1093, kq1093, q1093a, q1093b, q1093c⟩ := isOf hZ e1092 f1073
      obtain ⟨_, _, ⟨T1093, L1093, k1093, n1093⟩, -, X1093, ⟨Lc1093, hQ1093, l1093, y1093, z1093⟩, st1093⟩ := X1092.virtualBack hx (y := (⟨"java/lang/Integer", "intValue", "()I"⟩ : MethodName)) (z := (⟨"java/lang/Integer", "intValue", "()I"⟩ : MethodName)) hown (mvT hZ (hw _ (List.mem_of_getElem? (i := 143) rfl))) (mvT hZ (hw _ (List.mem_of_getElem? (i := 144) rfl))) (notFace_of_selects (args := #[]) (mvT hZ (hw _ (List.mem_of_getElem? (i := 146) rfl)))) (mvT hZ (hw _ (List.mem_of_getElem? (i := 146) rfl))) (mvT hZ (hw _ (List.mem_of_getElem? (i := 145) rfl))) (by decide) (backOf (W := 0) (rm_iv l Z a0 hw [] r_872 p1 h1060 n0 O1085 f1074) hZ (hw _ (List.mem_of_getElem? (i := 147) rfl)) (hw _ (List.mem_of_getElem? (i := 86) rfl)) (by decide) (by decide)) q1093a q1093c (g := (mkF me_ 165 #[.val (.int p0), .val (.int p1), .val (.int p2), .val (.int p3), .val (.int p4), .val (.int p5), .val (.int (3 : Int32)), .val (.ref b860), .val (.ref b930), .val (.ref b1035), .val (.ref b860)] [(.ref r_872)])) rfl (by rw [hml]; rfl) (Steps.refl _) (argsL := []) (rest := []) (lenOf pd_17 rfl) rfl (by show 2 * 0 + _ ≤ _; exact Nat.le_of_eq rfl) (hb hby at_165) (fun _ _ => ⟨rfl, e1092, (by decide : 8 + 0 ≤ _), (by decide : 24 + 0 ≤ _)⟩)
      dsimp only [Pt.U, Pt.locs, Pt.cells, Pt.slots] at X1093 l1093 y1093 z1093 st1093 hQ1093
      subst l1093 y1093 z1093
      obtain ⟨rfl, Nq1093, eq1093⟩ := hQ1093
      have N1094 := Fr.app N1091 Nq1093
      refine gv (fun tQ kQ => st1093.trans kQ) ?_
      show G (T1093.setTop (mkF me_ 168 #[.val (.int p0), .val (.int p1), .val (.int p2), .val (.int p3), .val (.int p4), .val (.int p5), .val (.int (3 : Int32)), .val (.ref b860), .val (.ref b930), .val (.ref b1035), .val (.ref b860)] [(.int p1)]))
      refine gv (fun tQ kQ => XS.iloadN X1093.here hx rfl (hb hby at_168) rfl kQ) ?_
      show G (T1093.setTop (mkF me_ 169 #[.val (.int p0), .val (.int p1), .val (.int p2), .val (.int p3), .val (.int p4), .val (.int p5), .val (.int (3 : Int32)), .val (.ref b860), .val (.ref b930), .val (.ref b1035), .val (.ref b860)] [(.int p1), (.int p1)]))
      refine gv (fun tQ kQ => XS.icmpYes X1093.here hx rfl (pc0 := 169) (pc' := 174) rfl (hb hby at_169) rfl (teq (rfl : p1 = p1)).1 (by decide) (by decide) kQ) ?_
      show G (T1093.setTop (mkF me_ 174 #[.val (.int p0), .val (.int p1), .val (.int p2), .val (.int p3), .val (.int p4), .val (.int p5), .val (.int (3 : Int32)), .val (.ref b860), .val (.ref b930), .val (.ref b1035), .val (.ref b860)] []))
      refine gv (fun tQ kQ => XS.iload X1093.here hx rfl (hb hby at_174) rfl kQ) ?_
      show G (T1093.setTop (mkF me_ 176 #[.val (.int p0), .val (.int p1), .val (.int p2), .val (.int p3), .val (.int p4), .val (.int p5), .val (.int (3 : Int32)), .val (.ref b860), .val (.ref b930), .val (.ref b1035), .val (.ref b860)] [(.int (3 : Int32))]))
      refine gv (fun tQ kQ => XS.iconst X1093.here hx rfl (hb hby at_176) kQ) ?_
      show G (T1093.setTop (mkF me_ 177 #[.val (.int p0), .val (.int p1), .val (.int p2), .val (.int p3), .val (.int p4), .val (.int p5), .val (.int (3 : Int32)), .val (.ref b860), .val (.ref b930), .val (.ref b1035), .val (.ref b860)] [(.int (1 : Int32)), (.int (3 : Int32))]))
      refine gv (fun tQ kQ => XS.icmpNo X1093.here hx rfl (hb hby at_177) rfl (tlt (by decide : (1 : Int32) < (3 : Int32))).2.2.2 kQ) ?_
      show G (T1093.setTop (mkF me_ 180 #[.val (.int p0), .val (.int p1), .val (.int p2), .val (.int p3), .val (.int p4), .val (.int p5), .val (.int (3 : Int32)), .val (.ref b860), .val (.ref b930), .val (.ref b1035), .val (.ref b860)] []))
      refine gv (fun tQ kQ => XS.aload X1093.here hx rfl (hb hby at_180) rfl rfl kQ) ?_
      show G (T1093.setTop (mkF me_ 182 #[.val (.int p0), .val (.int p1), .val (.int p2), .val (.int p3), .val (.int p4), .val (.int p5), .val (.int (3 : Int32)), .val (.ref b860), .val (.ref b930), .val (.ref b1035), .val (.ref b860)] [(.ref b860)]))
      refine gv (fun tQ kQ => XS.iconst X1093.here hx rfl (hb hby at_182) kQ) ?_
      show G (T1093.setTop (mkF me_ 183 #[.val (.int p0), .val (.int p1), .val (.int p2), .val (.int p3), .val (.int p4), .val (.int p5), .val (.int (3 : Int32)), .val (.ref b860), .val (.ref b930), .val (.ref b1035), .val (.ref b860)] [(.int (1 : Int32)), (.ref b860)]))
      obtain ⟨cq1095, kq1095, q1095a, q1095b, q1095c⟩ := isOf hZ eq1093 f1072
      obtain ⟨_, _, ⟨T1095, L1095, k1095, n1095⟩, -, X1095, ⟨Lc1095, hQ1095, l1095, y1095, z1095⟩, st1095⟩ := X1093.interfaceBack hx (xi := (⟨"java/util/List", "get", "(I)Ljava/lang/Object;"⟩ : MethodName)) (y := (⟨"java/util/ArrayList", "get", "(I)Ljava/lang/Object;"⟩ : MethodName)) hown (mvT hZ (hw _ (List.mem_of_getElem? (i := 120) rfl))) (mvT hZ (hw _ (List.mem_of_getElem? (i := 121) rfl))) (mvT hZ (hw _ (List.mem_of_getElem? (i := 122) rfl))) (mvT hZ (hw _ (List.mem_of_getElem? (i := 123) rfl))) (mvT hZ (hw _ (List.mem_of_getElem? (i := 124) rfl))) (mvT hZ (hw _ (List.mem_of_getElem? (i := 125) rfl))) (mvT hZ (hw _ (List.mem_of_getElem? (i := 126) rfl))) (mvT hZ (hw _ (List.mem_of_getElem? (i := 56) rfl))) (by decide) (backOf (W := 0) (rm_get3_1 l Z a0 hw [] b860 b_879 k_879 r_872 r_890 r_908 h1060 n0 O1085 f1072 f1079 f1080 f1081) hZ (hw _ (List.mem_of_getElem? (i := 127) rfl)) (hw _ (List.mem_of_getElem? (i := 2) rfl)) (by decide) (by decide)) q1095a q1095b q1095c (g := (mkF me_ 183 #[.val (.int p0), .val (.int p1), .val (.int p2), .val (.int p3), .val (.int p4), .val (.int p5), .val (.int (3 : Int32)), .val (.ref b860), .val (.ref b930), .val (.ref b1035), .val (.ref b860)] [(.int (1 : Int32)), (.ref b860)])) rfl (by rw [hml]; rfl) (Steps.refl _) (argsL := [(.int (1 : Int32))]) (rest := []) (lenOf pd_14 rfl) rfl (by show 2 * 0 + _ ≤ _; exact Nat.le_of_eq rfl) (hb hby at_183) (fun _ _ => ⟨rfl, eq1093, (by decide : 8 + 0 ≤ _), (by decide : 24 + 0 ≤ _)⟩)
      dsimp only [Pt.U, Pt.locs, Pt.cells, Pt.slots] at X1095 l1095 y1095 z1095 st1095 hQ1095
      subst l1095 y1095 z1095
      obtain ⟨rfl, Nq1095, eq1095⟩ := hQ1095
      have N1096 := Fr.app N1094 Nq1095
      refine gv (fun tQ kQ => st1095.trans kQ) ?_
      show G (T1095.setTop (mkF me_ 188 #[.val (.int p0), .val (.int p1), .val (.int p2), .val (.int p3), .val (.int p4), .val (.int p5), .val (.int (3 : Int32)), .val (.ref b860), .val (.ref b930), .val (.ref b1035), .val (.ref b860)] [(.ref r_890)]))
      obtain ⟨T1097, X1097, e1097, st1097⟩ := castY X1095 hx hZ hown (hw _ (List.mem_of_getElem? (i := 141) rfl)) eq1095 (Ins.self f1075) (g := (mkF me_ 188 #[.val (.int p0), .val (.int p1), .val (.int p2), .val (.int p3), .val (.int p4), .val (.int p5), .val (.int (3 : Int32)), .val (.ref b860), .val (.ref b930), .val (.ref b1035), .val (.ref b860)] [(.ref r_890)])) rfl rfl (hb hby at_188)
      refine gv st1097 ?_
      show G (T1097.setTop (mkF me_ 191 #[.val (.int p0), .val (.int p1), .val (.int p2), .val (.int p3), .val (.int p4), .val (.int p5), .val (.int (3 : Int32)), .val (.ref b860), .val (.ref b930), .val (.ref b1035), .val (.ref b860)] [(.ref r_890)]))
      obtain ⟨cq1098, kq1098, q1098a, q1098b, q1098c⟩ := isOf hZ e1097 f1075
      obtain ⟨_, _, ⟨T1098, L1098, k1098, n1098⟩, -, X1098, ⟨Lc1098, hQ1098, l1098, y1098, z1098⟩, st1098⟩ := X1097.virtualBack hx (y := (⟨"java/lang/Integer", "intValue", "()I"⟩ : MethodName)) (z := (⟨"java/lang/Integer", "intValue", "()I"⟩ : MethodName)) hown (mvT hZ (hw _ (List.mem_of_getElem? (i := 143) rfl))) (mvT hZ (hw _ (List.mem_of_getElem? (i := 144) rfl))) (notFace_of_selects (args := #[]) (mvT hZ (hw _ (List.mem_of_getElem? (i := 146) rfl)))) (mvT hZ (hw _ (List.mem_of_getElem? (i := 146) rfl))) (mvT hZ (hw _ (List.mem_of_getElem? (i := 145) rfl))) (by decide) (backOf (W := 0) (rm_iv l Z a0 hw [] r_890 p2 h1060 n0 O1085 f1076) hZ (hw _ (List.mem_of_getElem? (i := 147) rfl)) (hw _ (List.mem_of_getElem? (i := 86) rfl)) (by decide) (by decide)) q1098a q1098c (g := (mkF me_ 191 #[.val (.int p0), .val (.int p1), .val (.int p2), .val (.int p3), .val (.int p4), .val (.int p5), .val (.int (3 : Int32)), .val (.ref b860), .val (.ref b930), .val (.ref b1035), .val (.ref b860)] [(.ref r_890)])) rfl (by rw [hml]; rfl) (Steps.refl _) (argsL := []) (rest := []) (lenOf pd_17 rfl) rfl (by show 2 * 0 + _ ≤ _; exact Nat.le_of_eq rfl) (hb hby at_191) (fun _ _ => ⟨rfl, e1097, (by decide : 8 + 0 ≤ _), (by decide : 24 + 0 ≤ _)⟩)
      dsimp only [Pt.U, Pt.locs, Pt.cells, Pt.slots] at X1098 l1098 y1098 z1098 st1098 hQ1098
      subst l1098 y1098 z1098
      obtain ⟨rfl, Nq1098, eq1098⟩ := hQ1098
      have N1099 := Fr.app N1096 Nq1098
      refine gv (fun tQ kQ => st1098.trans kQ) ?_
      show G (T1098.setTop (mkF me_ 194 #[.val (.int p0), .val (.int p1), .val (.int p2), .val (.int p3), .val (.int p4), .val (.int p5), .val (.int (3 : Int32)), .val (.ref b860), .val (.ref b930), .val (.ref b1035), .val (.ref b860)] [(.int p2)]))
      refine gv (fun tQ kQ => XS.iloadN X1098.here hx rfl (hb hby at_194) rfl kQ) ?_
      show G (T1098.setTop (mkF me_ 195 #[.val (.int p0), .val (.int p1), .val (.int p2), .val (.int p3), .val (.int p4), .val (.int p5), .val (.int (3 : Int32)), .val (.ref b860), .val (.ref b930), .val (.ref b1035), .val (.ref b860)] [(.int p2), (.int p2)]))
      refine gv (fun tQ kQ => XS.icmpYes X1098.here hx rfl (pc0 := 195) (pc' := 200) rfl (hb hby at_195) rfl (teq (rfl : p2 = p2)).1 (by decide) (by decide) kQ) ?_
      show G (T1098.setTop (mkF me_ 200 #[.val (.int p0), .val (.int p1), .val (.int p2), .val (.int p3), .val (.int p4), .val (.int p5), .val (.int (3 : Int32)), .val (.ref b860), .val (.ref b930), .val (.ref b1035), .val (.ref b860)] []))
      refine gv (fun tQ kQ => XS.iload X1098.here hx rfl (hb hby at_200) rfl kQ) ?_
      show G (T1098.setTop (mkF me_ 202 #[.val (.int p0), .val (.int p1), .val (.int p2), .val (.int p3), .val (.int p4), .val (.int p5), .val (.int (3 : Int32)), .val (.ref b860), .val (.ref b930), .val (.ref b1035), .val (.ref b860)] [(.int (3 : Int32))]))
      refine gv (fun tQ kQ => XS.iconst X1098.here hx rfl (hb hby at_202) kQ) ?_
      show G (T1098.setTop (mkF me_ 203 #[.val (.int p0), .val (.int p1), .val (.int p2), .val (.int p3), .val (.int p4), .val (.int p5), .val (.int (3 : Int32)), .val (.ref b860), .val (.ref b930), .val (.ref b1035), .val (.ref b860)] [(.int (2 : Int32)), (.int (3 : Int32))]))
      refine gv (fun tQ kQ => XS.icmpNo X1098.here hx rfl (hb hby at_203) rfl (tlt (by decide : (2 : Int32) < (3 : Int32))).2.2.2 kQ) ?_
      show G (T1098.setTop (mkF me_ 206 #[.val (.int p0), .val (.int p1), .val (.int p2), .val (.int p3), .val (.int p4), .val (.int p5), .val (.int (3 : Int32)), .val (.ref b860), .val (.ref b930), .val (.ref b1035), .val (.ref b860)] []))
      refine gv (fun tQ kQ => XS.aload X1098.here hx rfl (hb hby at_206) rfl rfl kQ) ?_
      show G (T1098.setTop (mkF me_ 208 #[.val (.int p0), .val (.int p1), .val (.int p2), .val (.int p3), .val (.int p4), .val (.int p5), .val (.int (3 : Int32)), .val (.ref b860), .val (.ref b930), .val (.ref b1035), .val (.ref b860)] [(.ref b860)]))
      refine gv (fun tQ kQ => XS.iconst X1098.here hx rfl (hb hby at_208) kQ) ?_
      show G (T1098.setTop (mkF me_ 209 #[.val (.int p0), .val (.int p1), .val (.int p2), .val (.int p3), .val (.int p4), .val (.int p5), .val (.int (3 : Int32)), .val (.ref b860), .val (.ref b930), .val (.ref b1035), .val (.ref b860)] [(.int (2 : Int32)), (.ref b860)]))
      obtain ⟨cq1100, kq1100, q1100a, q1100b, q1100c⟩ := isOf hZ eq1098 f1072
      obtain ⟨_, _, ⟨T1100, L1100, k1100, n1100⟩, -, X1100, ⟨Lc1100, hQ1100, l1100, y1100, z1100⟩, st1100⟩ := X1098.interfaceBack hx (xi := (⟨"java/util/List", "get", "(I)Ljava/lang/Object;"⟩ : MethodName)) (y := (⟨"java/util/ArrayList", "get", "(I)Ljava/lang/Object;"⟩ : MethodName)) hown (mvT hZ (hw _ (List.mem_of_getElem? (i := 120) rfl))) (mvT hZ (hw _ (List.mem_of_getElem? (i := 121) rfl))) (mvT hZ (hw _ (List.mem_of_getElem? (i := 122) rfl))) (mvT hZ (hw _ (List.mem_of_getElem? (i := 123) rfl))) (mvT hZ (hw _ (List.mem_of_getElem? (i := 124) rfl))) (mvT hZ (hw _ (List.mem_of_getElem? (i := 125) rfl))) (mvT hZ (hw _ (List.mem_of_getElem? (i := 126) rfl))) (mvT hZ (hw _ (List.mem_of_getElem? (i := 56) rfl))) (by decide) (backOf (W := 0) (rm_get3_2 l Z a0 hw [] b860 b_879 k_879 r_872 r_890 r_908 h1060 n0 O1085 f1072 f1079 f1080 f1081) hZ (hw _ (List.mem_of_getElem? (i := 127) rfl)) (hw _ (List.mem_of_getElem? (i := 2) rfl)) (by decide) (by decide)) q1100a q1100b q1100c (g := (mkF me_ 209 #[.val (.int p0), .val (.int p1), .val (.int p2), .val (.int p3), .val (.int p4), .val (.int p5), .val (.int (3 : Int32)), .val (.ref b860), .val (.ref b930), .val (.ref b1035), .val (.ref b860)] [(.int (2 : Int32)), (.ref b860)])) rfl (by rw [hml]; rfl) (Steps.refl _) (argsL := [(.int (2 : Int32))]) (rest := []) (lenOf pd_14 rfl) rfl (by show 2 * 0 + _ ≤ _; exact Nat.le_of_eq rfl) (hb hby at_209) (fun _ _ => ⟨rfl, eq1098, (by decide : 8 + 0 ≤ _), (by decide : 24 + 0 ≤ _)⟩)
      dsimp only [Pt.U, Pt.locs, Pt.cells, Pt.slots] at X1100 l1100 y1100 z1100 st1100 hQ1100
      subst l1100 y1100 z1100
      obtain ⟨rfl, Nq1100, eq1100⟩ := hQ1100
      have N1101 := Fr.app N1099 Nq1100
      refine gv (fun tQ kQ => st1100.trans kQ) ?_
      show G (T1100.setTop (mkF me_ 214 #[.val (.int p0), .val (.int p1), .val (.int p2), .val (.int p3), .val (.int p4), .val (.int p5), .val (.int (3 : Int32)), .val (.ref b860), .val (.ref b930), .val (.ref b1035), .val (.ref b860)] [(.ref r_908)]))
      obtain ⟨T1102, X1102, e1102, st1102⟩ := castY X1100 hx hZ hown (hw _ (List.mem_of_getElem? (i := 141) rfl)) eq1100 (Ins.self f1077) (g := (mkF me_ 214 #[.val (.int p0), .val (.int p1), .val (.int p2), .val (.int p3), .val (.int p4), .val (.int p5), .val (.int (3 : Int32)), .val (.ref b860), .val (.ref b930), .val (.ref b1035), .val (.ref b860)] [(.ref r_908)])) rfl rfl (hb hby at_214)
      refine gv st1102 ?_
      show G (T1102.setTop (mkF me_ 217 #[.val (.int p0), .val (.int p1), .val (.int p2), .val (.int p3), .val (.int p4), .val (.int p5), .val (.int (3 : Int32)), .val (.ref b860), .val (.ref b930), .val (.ref b1035), .val (.ref b860)] [(.ref r_908)]))
      obtain ⟨cq1103, kq1103, q1103a, q1103b, q1103c⟩ := isOf hZ e1102 f1077
      obtain ⟨_, _, ⟨T1103, L1103, k1103, n1103⟩, -, X1103, ⟨Lc1103, hQ1103, l1103, y1103, z1103⟩, st1103⟩ := X1102.virtualBack hx (y := (⟨"java/lang/Integer", "intValue", "()I"⟩ : MethodName)) (z := (⟨"java/lang/Integer", "intValue", "()I"⟩ : MethodName)) hown (mvT hZ (hw _ (List.mem_of_getElem? (i := 143) rfl))) (mvT hZ (hw _ (List.mem_of_getElem? (i := 144) rfl))) (notFace_of_selects (args := #[]) (mvT hZ (hw _ (List.mem_of_getElem? (i := 146) rfl)))) (mvT hZ (hw _ (List.mem_of_getElem? (i := 146) rfl))) (mvT hZ (hw _ (List.mem_of_getElem? (i := 145) rfl))) (by decide) (backOf (W := 0) (rm_iv l Z a0 hw [] r_908 p3 h1060 n0 O1085 f1078) hZ (hw _ (List.mem_of_getElem? (i := 147) rfl)) (hw _ (List.mem_of_getElem? (i := 86) rfl)) (by decide) (by decide)) q1103a q1103c (g := (mkF me_ 217 #[.val (.int p0), .val (.int p1), .val (.int p2), .val (.int p3), .val (.int p4), .val (.int p5), .val (.int (3 : Int32)), .val (.ref b860), .val (.ref b930), .val (.ref b1035), .val (.ref b860)] [(.ref r_908)])) rfl (by rw [hml]; rfl) (Steps.refl _) (argsL := []) (rest := []) (lenOf pd_17 rfl) rfl (by show 2 * 0 + _ ≤ _; exact Nat.le_of_eq rfl) (hb hby at_217) (fun _ _ => ⟨rfl, e1102, (by decide : 8 + 0 ≤ _), (by decide : 24 + 0 ≤ _)⟩)
      dsimp only [Pt.U, Pt.locs, Pt.cells, Pt.slots] at X1103 l1103 y1103 z1103 st1103 hQ1103
      subst l1103 y1103 z1103
      obtain ⟨rfl, Nq1103, eq1103⟩ := hQ1103
      have N1104 := Fr.app N1101 Nq1103
      refine gv (fun tQ kQ => st1103.trans kQ) ?_
      show G (T1103.setTop (mkF me_ 220 #[.val (.int p0), .val (.int p1), .val (.int p2), .val (.int p3), .val (.int p4), .val (.int p5), .val (.int (3 : Int32)), .val (.ref b860), .val (.ref b930), .val (.ref b1035), .val (.ref b860)] [(.int p3)]))
      refine gv (fun tQ kQ => XS.iloadN X1103.here hx rfl (hb hby at_220) rfl kQ) ?_
      show G (T1103.setTop (mkF me_ 221 #[.val (.int p0), .val (.int p1), .val (.int p2), .val (.int p3), .val (.int p4), .val (.int p5), .val (.int (3 : Int32)), .val (.ref b860), .val (.ref b930), .val (.ref b1035), .val (.ref b860)] [(.int p3), (.int p3)]))
      refine gv (fun tQ kQ => XS.icmpYes X1103.here hx rfl (pc0 := 221) (pc' := 226) rfl (hb hby at_221) rfl (teq (rfl : p3 = p3)).1 (by decide) (by decide) kQ) ?_
      show G (T1103.setTop (mkF me_ 226 #[.val (.int p0), .val (.int p1), .val (.int p2), .val (.int p3), .val (.int p4), .val (.int p5), .val (.int (3 : Int32)), .val (.ref b860), .val (.ref b930), .val (.ref b1035), .val (.ref b860)] []))
      refine gv (fun tQ kQ => XS.iconst X1103.here hx rfl (hb hby at_226) kQ) ?_
      show G (T1103.setTop (mkF me_ 227 #[.val (.int p0), .val (.int p1), .val (.int p2), .val (.int p3), .val (.int p4), .val (.int p5), .val (.int (3 : Int32)), .val (.ref b860), .val (.ref b930), .val (.ref b1035), .val (.ref b860)] [(.int (1 : Int32))]))
      refine gf _ (own_ret X1103 Bd.notSynchronized (v := some (.int (1 : Int32))) (fun h => by rw [Bd.returns] at h; cases h) ?_ (by decide) (by decide) (fun fs hr => retN X1103 hx (t := .boolean) Bd.returns (by simp) (hb hby at_227) hr))
      show Q0 Z p0 p1 p2 p3 p4 p5 cA bxc dA dk cs h0 n0 _ T1103.heap _
      rw [eq1103]
      exact ⟨rfl, N1104⟩
set_option maxRecDepth 65536 in
set_option maxHeartbeats 40000000 in
theorem comes_1 {Post : Tables → Env → Array Value → State → Outcome → State → Prop} (hpost : ∀ tb e args s v u, (limb_1_1.after args s (.returned v) u = true ∧ limb_1_2.after args s (.returned v) u = true ∧ True) → FrameEnd s (.returned v) u (Jvm.fieldLocs frame_1_writes args s ++ Jvm.arrayLocs frame_1_arrays args s ++ Jvm.staticLocs frame_1_statics s) 24 128 → Post tb e args s (.returned v) u) :
    ArmFor flags0 classFile x code maxLocals ret World_1 tables_1 room_1 Calls_1 rest_1 Pre_1 Post := by
  intro l hfl _ _ p e ha hc hk s m args below hf hA hF happ hP
  obtain ⟨hcalls, hrest, hpre⟩ := hP
  obtain ⟨-, -, -, hnamed, -, -, -, hat⟩ := (Spec.applies_iff hf).mp happ
  obtain ⟨hg, hn⟩ := and_e (Cond.before_iff.mp (show (Jvm.Cond.and given_1 narrow_1).before args s = true from hpre))
  obtain ⟨g1, g2⟩ := and_e hg
  obtain ⟨g3, g4⟩ := and_e g2
  obtain ⟨g5, g6⟩ := and_e g4
  obtain ⟨g7, g8⟩ := and_e g6
  obtain ⟨g9, g10⟩ := and_e g8
  obtain ⟨g11, g12⟩ := and_e g10
  obtain ⟨w0, w1, w2, w3, w4, w5, rfl⟩ : ∃ w0 w1 w2 w3 w4 w5 : Value, args = #[w0, w1, w2, w3, w4, w5] := by
    have hs : args.size = 6 := by simpa [Cond.value, given_1] using g1
    obtain ⟨L⟩ := args
    match L, hs with
    | [w0, w1, w2, w3, w4, w5], _ => exact ⟨w0, w1, w2, w3, w4, w5, rfl⟩
  have hw := fun d (hd : d ∈ tables_1) => atoms_spec (ws := Jvm.Cond.code x code maxLocals ret :: tables_1) hat d (List.mem_cons_of_mem _ hd)
  have hfit : Fit s := fun {y c} hc i hi => by
    obtain ⟨ha, rfl⟩ := Array.getElem?_eq_some_iff.mp hc
    have q := List.all_eq_true.mp ((Array.all_eq_true_iff_forall_mem.mp hF) _ (Array.getElem_mem ha)) i (List.mem_range.mpr hi)
    simpa [Array.getElem?_eq_getElem hi] using q
  obtain ⟨hsets, hown0⟩ := atoms_of _ (rest_1_c_eq ▸ (show rest_1_c.before _ s = true from hrest))
  obtain ⟨i0, ei0⟩ := is_v g3
  obtain rfl : w0 = (.int i0) := Option.some.inj ei0
  obtain ⟨i1, ei1⟩ := is_v g5
  obtain rfl : w1 = (.int i1) := Option.some.inj ei1
  obtain ⟨i2, ei2⟩ := is_v g7
  obtain rfl : w2 = (.int i2) := Option.some.inj ei2
  obtain ⟨i3, ei3⟩ := is_v g9
  obtain rfl : w3 = (.int i3) := Option.some.inj ei3
  obtain ⟨i4, ei4⟩ := is_v g11
  obtain rfl : w4 = (.int i4) := Option.some.inj ei4
  obtain ⟨i5, ei5⟩ := is_v g12
  obtain rfl : w5 = (.int i5) := Option.some.inj ei5
  have S_high : Sta s s.heap "java/lang/Integer$IntegerCache" "high" "I" (.int 127) := Sta.start (eqv_i (Term.int_eval 127) (Cond.before_iff.mp (hsets _ (List.mem_of_getElem? (i := 21) rfl)))) (Or.inl (hsets _ (List.mem_of_getElem? (i := 19) rfl)))
  obtain ⟨cA, bxc, evc, hbx⟩ := own_cache (t := .static "java/lang/Integer$IntegerCache" "cache" "[Ljava/lang/Integer;") (fun _ _ => rfl) (Cond.before_iff.mp (hsets _ (List.mem_of_getElem? (i := 22) rfl))) (Cond.before_iff.mp (hsets _ (List.mem_of_getElem? (i := 24) rfl))) (Cond.before_iff.mp (hsets _ (List.mem_of_getElem? (i := 25) rfl)))
  have S_cache : Sta s s.heap "java/lang/Integer$IntegerCache" "cache" "[Ljava/lang/Integer;" (.ref cA) := Sta.start evc (Or.inr ⟨(hw _ (List.mem_of_getElem? (i := 89) rfl)), (hsets _ (List.mem_of_getElem? (i := 20) rfl))⟩)
  obtain ⟨cs, ev_cs⟩ := is_v (Cond.before_iff.mp (hsets _ (List.mem_of_getElem? (i := 10) rfl)))
  have S_cs : Sta s s.heap "java/lang/String" "COMPACT_STRINGS" "Z" (.int cs) := Sta.start ev_cs (Or.inl (hsets _ (List.mem_of_getElem? (i := 9) rfl)))
  have n_cs : ¬ (cs = (0 : Int32)) := own_not0 ev_cs (Cond.before_iff.mp (hsets _ (List.mem_of_getElem? (i := 11) rfl)))
  obtain ⟨dA, dk, ev_df, A_df⟩ := own_empty hfit (t := .static "java/util/ArrayList" "DEFAULTCAPACITY_EMPTY_ELEMENTDATA" "[Ljava/lang/Object;") (Cond.before_iff.mp (hsets _ (List.mem_of_getElem? (i := 6) rfl))) (Cond.before_iff.mp (hsets _ (List.mem_of_getElem? (i := 8) rfl)))
  have S_df : Sta s s.heap "java/util/ArrayList" "DEFAULTCAPACITY_EMPTY_ELEMENTDATA" "[Ljava/lang/Object;" (.ref dA) := Sta.start ev_df (Or.inr ⟨(hw _ (List.mem_of_getElem? (i := 2) rfl)), (hsets _ (List.mem_of_getElem? (i := 2) rfl))⟩)
  obtain ⟨n, o, h1, h2, h3, _, L, rfl, ⟨rfl, N⟩, hq⟩ := rm0 l s _ hw tables_1 i0 i1 i2 i3 i4 i5 cA bxc dA dk cs s.heap s.heap.size (Old.start s) S_high S_cache hbx S_df A_df S_cs n_cs p e ha hc hk s m _ below hf ((Spec.applies_iff_loose hf).mp happ).1 ⟨rfl, State.Warmed39.refl s, rfl⟩ trivial
  refine ⟨n, _, h1, h2, h3, hpost _ _ _ _ _ _ ⟨Cond.after_iff.mpr rfl, Cond.after_iff.mpr (eq_i res_at (Term.int_eval (1)) rfl), trivial⟩ ⟨hq.1, hq.2.1, (hq.2.2.sift fun y hy => Or.inr (N y hy)).mono (by decide) (by decide)⟩⟩
theorem main_1_1 : Claimed_1_1 := comes_1 fun _ _ _ _ _ _ h hF => ⟨h.1, hF⟩
theorem main_1_2 : Claimed_1_2 := comes_1 fun _ _ _ _ _ _ h hF => ⟨h.2.1, hF⟩
end Jvm.Pilot.@@N@@
namespace Jvm.Pilot.@@N@@
open Jvm Jvm.ClassFile Sem Op Lib Jvm.Free Jvm.Stand Jvm.Pilot.@@N@@.Jvm.D
/-! MADE BY PROGRAM (witnessworld.py) out of the Statement's table words and the real class files: 35 classes; the members and pool entries that the words name. The judged class is class 1, her method 1. -/
namespace start1
open Jvm.ClassFile
def u (s : String) : CpInfo := .utf8 (stringToUtf16 s)
/-- a pool by its gaps: so many unusable entries, then the entry; so many at the end -/
def gap : Nat → List CpInfo → List CpInfo
  | 0, r => r
  | n + 1, r => .unusable :: gap n r
def poolList (es : List (Nat × CpInfo)) (last : Nat) : List CpInfo := es.foldr (fun e r => gap e.1 (e.2 :: r)) (gap last [])
def pool (es : List (Nat × CpInfo)) (last : Nat) : Array CpInfo := ⟨poolList es last⟩
def fileOf (pool : Array CpInfo) (this : Nat) (attrs : Array Attribute := #[]) (ms : Array MethodInfo := #[]) (fl : Nat := 33) (sup : Nat := 0) (ifs : Array Nat := #[]) (fds : Array FieldInfo := #[]) : ClassFile where
  minorVersion := 0
  majorVersion := 65
  constantPool := pool
  accessFlags := fl
  thisClass := this
  superClass := sup
  interfaces := ifs
  fields := fds
  methods := ms
  attributes := attrs
def plain (name : String) (sup : Option ClassId) : Class where
  name := name
  kind := .ordinary
  loader := none
  accessFlags := 33
  super := sup
  interfaces := #[]
  cf := none
  fields := #[]
  methods := #[]
  instanceTypes := #[]
  staticTypes := #[]
  resolved := #[]
  callSites := []
  init := .initialized
  statics := none
  mirror := none

def pool0 : Array CpInfo := pool [(5, u "<init>"), (0, u "()V"), (1, .class_ 10), (1, u "java/lang/Object")] 113

def k0c0 : Code := { maxStack := 0, maxLocals := 1, code := object_method_1_code, exceptionTable := #[], attributes := #[] }
def k0m0 : Method := { name := "<init>", desc := "()V", sig := { parameters := [], returnType := none }, accessFlags := 1, code := some k0c0 }
/-- java/lang/Object -/
def k0 : Class := { plain "java/lang/Object" none with
  accessFlags := 33
  interfaces := #[]
  cf := some (fileOf pool0 8 #[] #[{ accessFlags := 1, nameIndex := 5, descriptorIndex := 6, attributes := #[] }] 33 0 #[] #[])
  fields := #[]
  methods := #[k0m0]
  instanceTypes := #[]
  staticTypes := #[]
  resolved := Array.replicate 124 none
  statics := none }

def pool1 : Array CpInfo := pool [(2, .class_ 4), (0, .nameAndType 5 6), (0, u "java/lang/Object"), (0, u "<init>"), (0, u "()V"), (0, .class_ 8), (0, u "java/util/ArrayList"), (0, .methodref 7 3), (0, .methodref 11 12), (0, .class_ 13), (0, .nameAndType 14 15), (0, u "java/lang/Integer"), (0, u "valueOf"), (0, u "(I)Ljava/lang/Integer;"), (0, .methodref 7 17), (0, .nameAndType 18 19), (0, u "add"), (0, u "(Ljava/lang/Object;)Z"), (0, .class_ 21), (0, u "java/lang/String"), (0, .methodref 20 23), (0, .nameAndType 5 24), (0, u "([C)V"), (0, .methodref 20 26), (0, .nameAndType 14 27), (0, u "(C)Ljava/lang/String;"), (0, .methodref 29 30), (0, .class_ 31), (0, .nameAndType 32 33), (0, u "com/example/slot1/slot1/balance/Options"), (0, u "array"), (0, u "(Ljava/lang/Object;Ljava/lang/String;)Ljava/util/List;"), (0, .interfaceMethodref 35 36), (0, .class_ 37), (0, .nameAndType 38 39), (0, u "java/util/List"), (0, u "size"), (0, u "()I"), (0, .interfaceMethodref 35 41), (0, .nameAndType 42 43), (0, u "get"), (0, u "(I)Ljava/lang/Object;"), (0, .methodref 11 45), (0, .nameAndType 46 39), (0, u "intValue"), (0, .class_ 48), (0, u "com/example/slot1/slot1/balance/OptionsArrayPinLaw"), (2, u "law"), (0, u "(IIIIII)Z")] 5

def k1m0 : Method := { name := "<init>", desc := "()V", sig := { parameters := [], returnType := none }, accessFlags := 1, code := none }
def k1c1 : Code := { maxStack := 4, maxLocals := 11, code := code, exceptionTable := #[], attributes := #[] }
def k1m1 : Method := { name := "law", desc := "(IIIIII)Z", sig := { parameters := [.int, .int, .int, .int, .int, .int], returnType := some .boolean }, accessFlags := 9, code := some k1c1 }
/-- com/example/slot1/slot1/balance/OptionsArrayPinLaw -/
def k1 : Class := { plain "com/example/slot1/slot1/balance/OptionsArrayPinLaw" (some 0) with
  accessFlags := 49
  interfaces := #[]
  cf := some (fileOf pool1 47 #[] #[{ accessFlags := 1, nameIndex := 5, descriptorIndex := 6, attributes := #[] }, { accessFlags := 9, nameIndex := 51, descriptorIndex := 52, attributes := #[] }] 49 2 #[] #[])
  fields := #[]
  methods := #[k1m0, k1m1]
  instanceTypes := #[]
  staticTypes := #[]
  resolved := Array.replicate 58 none
  statics := none }

def pool2 : Array CpInfo := pool [(8, .class_ 10), (1, u "java/lang/Iterable"), (24, .class_ 36), (0, u "java/lang/Object")] 25

/-- java/lang/Iterable -/
def k2 : Class := { plain "java/lang/Iterable" (some 0) with
  accessFlags := 1537
  interfaces := #[]
  cf := some (fileOf pool2 8 #[] #[] 1537 35 #[] #[])
  fields := #[]
  methods := #[]
  instanceTypes := #[]
  staticTypes := #[]
  resolved := Array.replicate 62 none
  statics := none }

def pool3 : Array CpInfo := pool [(10, .class_ 12), (1, u "java/util/Collection"), (47, .class_ 61), (0, u "java/lang/Object"), (0, .class_ 63), (0, u "java/lang/Iterable")] 51

/-- java/util/Collection -/
def k3 : Class := { plain "java/util/Collection" (some 0) with
  accessFlags := 1537
  interfaces := #[2]
  cf := some (fileOf pool3 10 #[] #[] 1537 60 #[62] #[])
  fields := #[]
  methods := #[]
  instanceTypes := #[]
  staticTypes := #[]
  resolved := Array.replicate 115 none
  statics := none }

def pool4 : Array CpInfo := pool [(1, .methodref 2 3), (0, .class_ 4), (0, .nameAndType 5 6), (0, u "java/lang/Object"), (0, u "<init>"), (0, u "()V"), (1, .class_ 10), (1, u "java/util/AbstractCollection"), (66, .class_ 78), (0, u "java/util/Collection")] 81

def k4c0 : Code := { maxStack := 1, maxLocals := 1, code := jdk_22_method_1_code, exceptionTable := #[], attributes := #[] }
def k4m0 : Method := { name := "<init>", desc := "()V", sig := { parameters := [], returnType := none }, accessFlags := 4, code := some k4c0 }
/-- java/util/AbstractCollection -/
def k4 : Class := { plain "java/util/AbstractCollection" (some 0) with
  accessFlags := 1057
  interfaces := #[3]
  cf := some (fileOf pool4 8 #[] #[{ accessFlags := 4, nameIndex := 5, descriptorIndex := 6, attributes := #[] }] 1057 2 #[77] #[])
  fields := #[]
  methods := #[k4m0]
  instanceTypes := #[]
  staticTypes := #[]
  resolved := Array.replicate 160 none
  statics := none }

def pool5 : Array CpInfo := pool [(8, .class_ 10), (1, u "java/util/SequencedCollection"), (15, .class_ 27), (0, u "java/lang/Object"), (0, .class_ 29), (0, u "java/util/Collection")] 27

/-- java/util/SequencedCollection -/
def k5 : Class := { plain "java/util/SequencedCollection" (some 0) with
  accessFlags := 1537
  interfaces := #[3]
  cf := some (fileOf pool5 8 #[] #[] 1537 26 #[28] #[])
  fields := #[]
  methods := #[]
  instanceTypes := #[]
  staticTypes := #[]
  resolved := Array.replicate 57 none
  statics := none }

def pool6 : Array CpInfo := pool [(8, .class_ 10), (1, u "java/util/List"), (64, u "get"), (0, u "(I)Ljava/lang/Object;"), (2, u "size"), (0, u "()I"), (22, .class_ 104), (0, u "java/lang/Object"), (15, .class_ 121), (0, u "java/util/SequencedCollection")] 129

def k6m0 : Method := { name := "size", desc := "()I", sig := { parameters := [], returnType := some .int }, accessFlags := 1025, code := none }
def k6m1 : Method := { name := "get", desc := "(I)Ljava/lang/Object;", sig := { parameters := [.int], returnType := some (.object "java/lang/Object") }, accessFlags := 1025, code := none }
/-- java/util/List -/
def k6 : Class := { plain "java/util/List" (some 0) with
  accessFlags := 1537
  interfaces := #[5]
  cf := some (fileOf pool6 8 #[] #[{ accessFlags := 1025, nameIndex := 79, descriptorIndex := 80, attributes := #[] }, { accessFlags := 1025, nameIndex := 75, descriptorIndex := 76, attributes := #[] }] 1537 103 #[120] #[])
  fields := #[]
  methods := #[k6m0, k6m1]
  instanceTypes := #[]
  staticTypes := #[]
  resolved := Array.replicate 251 none
  statics := none }

def pool7 : Array CpInfo := pool [(1, .methodref 2 3), (0, .class_ 4), (0, .nameAndType 5 6), (0, u "java/util/AbstractCollection"), (0, u "<init>"), (0, u "()V"), (0, .fieldref 8 9), (0, .class_ 10), (0, .nameAndType 11 12), (0, u "java/util/AbstractList"), (0, u "modCount"), (0, u "I"), (64, .class_ 78), (0, u "java/util/AbstractList$Itr"), (3, .class_ 83), (0, u "java/util/AbstractList$ListItr"), (9, .class_ 94), (0, u "java/util/AbstractList$RandomAccessSubList"), (3, .class_ 99), (0, u "java/util/AbstractList$SubList"), (33, .class_ 134), (0, u "java/util/List"), (73, .class_ 209), (0, u "java/util/AbstractList$SubList$1"), (0, .class_ 211), (0, u "java/util/AbstractList$RandomAccessSpliterator")] 6

def k7c0 : Code := { maxStack := 2, maxLocals := 1, code := jdk_39_method_1_code, exceptionTable := #[], attributes := #[] }
def k7m0 : Method := { name := "<init>", desc := "()V", sig := { parameters := [], returnType := none }, accessFlags := 4, code := some k7c0 }
/-- java/util/AbstractList -/
def k7 : Class := { plain "java/util/AbstractList" (some 4) with
  accessFlags := 1057
  interfaces := #[6]
  cf := some (fileOf pool7 8 #[.nestMembers #[93, 98, 208, 210, 82, 77]] #[{ accessFlags := 4, nameIndex := 5, descriptorIndex := 6, attributes := #[] }] 1057 2 #[133] #[{ accessFlags := 132, nameIndex := 11, descriptorIndex := 12, attributes := #[] }])
  fields := #[{ name := "modCount", type := .int, accessFlags := 132, slot := 0, constantValue := 0 }]
  methods := #[k7m0]
  instanceTypes := #[.int]
  staticTypes := #[]
  resolved := Array.replicate 218 none
  statics := none }

def pool8 : Array CpInfo := pool [(1, .class_ 2), (0, u "java/util/RandomAccess"), (0, .class_ 4), (0, u "java/lang/Object")] 2

/-- java/util/RandomAccess -/
def k8 : Class := { plain "java/util/RandomAccess" (some 0) with
  accessFlags := 1537
  interfaces := #[]
  cf := some (fileOf pool8 1 #[] #[] 1537 3 #[] #[])
  fields := #[]
  methods := #[]
  instanceTypes := #[]
  staticTypes := #[]
  resolved := Array.replicate 7 none
  statics := none }

def pool9 : Array CpInfo := pool [(1, .class_ 2), (0, u "java/lang/Cloneable"), (0, .class_ 4), (0, u "java/lang/Object")] 2

/-- java/lang/Cloneable -/
def k9 : Class := { plain "java/lang/Cloneable" (some 0) with
  accessFlags := 1537
  interfaces := #[]
  cf := some (fileOf pool9 1 #[] #[] 1537 3 #[] #[])
  fields := #[]
  methods := #[]
  instanceTypes := #[]
  staticTypes := #[]
  resolved := Array.replicate 7 none
  statics := none }

def pool10 : Array CpInfo := pool [(1, .class_ 2), (0, u "java/io/Serializable"), (0, .class_ 4), (0, u "java/lang/Object")] 2

/-- java/io/Serializable -/
def k10 : Class := { plain "java/io/Serializable" (some 0) with
  accessFlags := 1537
  interfaces := #[]
  cf := some (fileOf pool10 1 #[] #[] 1537 3 #[] #[])
  fields := #[]
  methods := #[]
  instanceTypes := #[]
  staticTypes := #[]
  resolved := Array.replicate 7 none
  statics := none }

def pool11 : Array CpInfo := pool [(1, .methodref 2 3), (0, .class_ 4), (0, .nameAndType 5 6), (0, u "java/util/AbstractList"), (0, u "<init>"), (0, u "()V"), (0, .class_ 8), (0, u "java/lang/Object"), (0, .fieldref 10 11), (0, .class_ 12), (0, .nameAndType 13 14), (0, u "java/util/ArrayList"), (0, u "elementData"), (0, u "[Ljava/lang/Object;"), (2, u "EMPTY_ELEMENTDATA"), (21, .fieldref 10 40), (0, .nameAndType 41 14), (0, u "DEFAULTCAPACITY_EMPTY_ELEMENTDATA"), (5, u "()[Ljava/lang/Object;"), (0, .fieldref 10 49), (0, .nameAndType 50 51), (0, u "size"), (0, u "I"), (11, .fieldref 10 64), (0, .nameAndType 65 51), (0, u "modCount"), (3, .methodref 10 70), (0, .nameAndType 71 72), (0, u "grow"), (0, u "(I)[Ljava/lang/Object;"), (6, .methodref 80 81), (0, .class_ 82), (0, .nameAndType 83 84), (0, u "java/lang/Math"), (0, u "max"), (0, u "(II)I"), (11, u "(Ljava/lang/Object;)Z"), (21, .methodref 119 120), (0, .class_ 121), (0, .nameAndType 122 84), (0, u "java/util/Objects"), (0, u "checkIndex"), (0, .methodref 10 124), (0, .nameAndType 13 125), (0, u "(I)Ljava/lang/Object;"), (3, .methodref 10 130), (0, .nameAndType 71 47), (0, .methodref 10 132), (0, .nameAndType 133 134), (0, u "add"), (0, u "(Ljava/lang/Object;[Ljava/lang/Object;I)V"), (13, .class_ 149), (0, u "java/util/List"), (36, u "()I"), (75, .class_ 263), (0, u "java/util/ArrayList$ListItr"), (3, .class_ 268), (0, u "java/util/ArrayList$Itr"), (7, .class_ 277), (0, u "java/util/ArrayList$SubList"), (12, .class_ 291), (0, u "java/util/ArrayList$ArrayListSpliterator"), (37, .class_ 330), (0, u "java/util/RandomAccess"), (0, .class_ 332), (0, u "java/lang/Cloneable"), (0, .class_ 334), (0, u "java/io/Serializable"), (0, u "serialVersionUID"), (0, u "J"), (3, u "DEFAULT_CAPACITY"), (40, u "get"), (118, .class_ 501), (0, u "java/util/ArrayList$SubList$2"), (0, .class_ 503), (0, u "java/util/ArrayList$SubList$1")] 5

def k11c0 : Code := { maxStack := 2, maxLocals := 1, code := jdk_38_method_2_code, exceptionTable := #[], attributes := #[] }
def k11m0 : Method := { name := "<init>", desc := "()V", sig := { parameters := [], returnType := none }, accessFlags := 1, code := some k11c0 }
def k11c1 : Code := { maxStack := 4, maxLocals := 4, code := jdk_38_method_6_code, exceptionTable := #[], attributes := #[] }
def k11m1 : Method := { name := "grow", desc := "(I)[Ljava/lang/Object;", sig := { parameters := [.int], returnType := some (.array (.object "java/lang/Object")) }, accessFlags := 2, code := some k11c1 }
def k11c2 : Code := { maxStack := 3, maxLocals := 1, code := jdk_38_method_7_code, exceptionTable := #[], attributes := #[] }
def k11m2 : Method := { name := "grow", desc := "()[Ljava/lang/Object;", sig := { parameters := [], returnType := some (.array (.object "java/lang/Object")) }, accessFlags := 2, code := some k11c2 }
def k11c3 : Code := { maxStack := 1, maxLocals := 1, code := jdk_38_method_8_code, exceptionTable := #[], attributes := #[] }
def k11m3 : Method := { name := "size", desc := "()I", sig := { parameters := [], returnType := some .int }, accessFlags := 1, code := some k11c3 }
def k11c4 : Code := { maxStack := 2, maxLocals := 2, code := jdk_38_method_18_code, exceptionTable := #[], attributes := #[] }
def k11m4 : Method := { name := "elementData", desc := "(I)Ljava/lang/Object;", sig := { parameters := [.int], returnType := some (.object "java/lang/Object") }, accessFlags := 0, code := some k11c4 }
def k11c5 : Code := { maxStack := 2, maxLocals := 2, code := jdk_38_method_20_code, exceptionTable := #[], attributes := #[] }
def k11m5 : Method := { name := "get", desc := "(I)Ljava/lang/Object;", sig := { parameters := [.int], returnType := some (.object "java/lang/Object") }, accessFlags := 1, code := some k11c5 }
def k11c6 : Code := { maxStack := 3, maxLocals := 4, code := jdk_38_method_24_code, exceptionTable := #[], attributes := #[] }
def k11m6 : Method := { name := "add", desc := "(Ljava/lang/Object;[Ljava/lang/Object;I)V", sig := { parameters := [(.object "java/lang/Object"), (.array (.object "java/lang/Object")), .int], returnType := none }, accessFlags := 2, code := some k11c6 }
def k11c7 : Code := { maxStack := 4, maxLocals := 2, code := jdk_38_method_25_code, exceptionTable := #[], attributes := #[] }
def k11m7 : Method := { name := "add", desc := "(Ljava/lang/Object;)Z", sig := { parameters := [(.object "java/lang/Object")], returnType := some .boolean }, accessFlags := 1, code := some k11c7 }
/-- java/util/ArrayList -/
def k11 : Class := { plain "java/util/ArrayList" (some 7) with
  accessFlags := 33
  interfaces := #[6, 8, 9, 10]
  cf := some (fileOf pool11 10 #[.nestMembers #[290, 276, 500, 502, 262, 267]] #[{ accessFlags := 1, nameIndex := 5, descriptorIndex := 6, attributes := #[] }, { accessFlags := 2, nameIndex := 71, descriptorIndex := 72, attributes := #[] }, { accessFlags := 2, nameIndex := 71, descriptorIndex := 47, attributes := #[] }, { accessFlags := 1, nameIndex := 50, descriptorIndex := 186, attributes := #[] }, { accessFlags := 0, nameIndex := 13, descriptorIndex := 125, attributes := #[] }, { accessFlags := 1, nameIndex := 381, descriptorIndex := 125, attributes := #[] }, { accessFlags := 2, nameIndex := 133, descriptorIndex := 134, attributes := #[] }, { accessFlags := 1, nameIndex := 133, descriptorIndex := 96, attributes := #[] }] 33 2 #[148, 329, 331, 333] #[{ accessFlags := 26, nameIndex := 335, descriptorIndex := 336, attributes := #[] }, { accessFlags := 26, nameIndex := 340, descriptorIndex := 51, attributes := #[] }, { accessFlags := 26, nameIndex := 17, descriptorIndex := 14, attributes := #[] }, { accessFlags := 26, nameIndex := 41, descriptorIndex := 14, attributes := #[] }, { accessFlags := 128, nameIndex := 13, descriptorIndex := 14, attributes := #[] }, { accessFlags := 2, nameIndex := 50, descriptorIndex := 51, attributes := #[] }])
  fields := #[{ name := "serialVersionUID", type := .long, accessFlags := 26, slot := 0, constantValue := 0 }, { name := "DEFAULT_CAPACITY", type := .int, accessFlags := 26, slot := 1, constantValue := 0 }, { name := "EMPTY_ELEMENTDATA", type := (.array (.object "java/lang/Object")), accessFlags := 26, slot := 2, constantValue := 0 }, { name := "DEFAULTCAPACITY_EMPTY_ELEMENTDATA", type := (.array (.object "java/lang/Object")), accessFlags := 26, slot := 3, constantValue := 0 }, { name := "elementData", type := (.array (.object "java/lang/Object")), accessFlags := 128, slot := 1, constantValue := 0 }, { name := "size", type := .int, accessFlags := 2, slot := 2, constantValue := 0 }]
  methods := #[k11m0, k11m1, k11m2, k11m3, k11m4, k11m5, k11m6, k11m7]
  instanceTypes := #[.int, (.array (.object "java/lang/Object")), .int]
  staticTypes := #[.long, .int, (.array (.object "java/lang/Object")), (.array (.object "java/lang/Object"))]
  resolved := Array.replicate 509 none
  statics := some 0 }

def pool12 : Array CpInfo := pool [(1, .class_ 2), (0, u "java/lang/Comparable"), (0, .class_ 4), (0, u "java/lang/Object")] 7

/-- java/lang/Comparable -/
def k12 : Class := { plain "java/lang/Comparable" (some 0) with
  accessFlags := 1537
  interfaces := #[]
  cf := some (fileOf pool12 1 #[] #[] 1537 3 #[] #[])
  fields := #[]
  methods := #[]
  instanceTypes := #[]
  staticTypes := #[]
  resolved := Array.replicate 12 none
  statics := none }

def pool13 : Array CpInfo := pool [(2, .class_ 4), (1, u "java/lang/CharSequence"), (42, .class_ 48), (0, u "java/lang/CharSequence$1CodePointIterator"), (10, .class_ 60), (0, u "java/lang/CharSequence$1CharIterator"), (5, .class_ 67), (0, u "java/lang/Object")] 63

/-- java/lang/CharSequence -/
def k13 : Class := { plain "java/lang/CharSequence" (some 0) with
  accessFlags := 1537
  interfaces := #[]
  cf := some (fileOf pool13 2 #[.nestMembers #[47, 59]] #[] 1537 66 #[] #[])
  fields := #[]
  methods := #[]
  instanceTypes := #[]
  staticTypes := #[]
  resolved := Array.replicate 131 none
  statics := none }

def pool14 : Array CpInfo := pool [(1, .class_ 2), (0, u "java/lang/constant/Constable"), (0, .class_ 4), (0, u "java/lang/Object")] 6

/-- java/lang/constant/Constable -/
def k14 : Class := { plain "java/lang/constant/Constable" (some 0) with
  accessFlags := 1537
  interfaces := #[]
  cf := some (fileOf pool14 1 #[] #[] 1537 3 #[] #[])
  fields := #[]
  methods := #[]
  instanceTypes := #[]
  staticTypes := #[]
  resolved := Array.replicate 11 none
  statics := none }

def pool15 : Array CpInfo := pool [(1, .class_ 2), (0, u "java/lang/constant/ConstantDesc"), (0, .class_ 4), (0, u "java/lang/Object")] 32

/-- java/lang/constant/ConstantDesc -/
def k15 : Class := { plain "java/lang/constant/ConstantDesc" (some 0) with
  accessFlags := 1537
  interfaces := #[]
  cf := some (fileOf pool15 1 #[] #[] 1537 3 #[] #[])
  fields := #[]
  methods := #[]
  instanceTypes := #[]
  staticTypes := #[]
  resolved := Array.replicate 37 none
  statics := none }

def pool16 : Array CpInfo := pool [(1, .methodref 2 3), (0, .class_ 4), (0, .nameAndType 5 6), (0, u "java/lang/Object"), (0, u "<init>"), (0, u "()V"), (2, .fieldref 10 11), (0, .class_ 12), (0, .nameAndType 13 14), (0, u "java/lang/String"), (0, u "value"), (0, u "[B"), (0, .fieldref 10 16), (0, .nameAndType 17 18), (0, u "coder"), (0, u "B"), (2, u "hash"), (0, u "I"), (2, u "hashIsZero"), (0, u "Z"), (0, .methodref 10 28), (0, .nameAndType 5 29), (0, u "([CIILjava/lang/Void;)V"), (8, .fieldref 10 39), (0, .nameAndType 40 26), (0, u "COMPACT_STRINGS"), (1, .class_ 44), (1, u "java/lang/StringUTF16"), (0, u "compress"), (1, .methodref 42 48), (0, .nameAndType 49 50), (0, u "coderFromArrayLen"), (0, u "([BI)B"), (2, u "toBytes"), (53, .class_ 109), (1, u "java/lang/StringLatin1"), (67, .methodref 42 178), (0, .nameAndType 45 179), (0, u "([CII)[B"), (29, .methodref 10 210), (0, .nameAndType 5 211), (0, u "([BB)V"), (157, u "(C)Z"), (205, .class_ 576), (0, u "java/lang/CharSequence"), (22, u "CASE_INSENSITIVE_ORDER"), (0, u "Ljava/util/Comparator;"), (181, u "valueOf"), (0, u "(C)Ljava/lang/String;"), (226, u "([C)V"), (4, .methodref 107 1016), (0, .nameAndType 1017 369), (0, u "canEncode"), (0, .methodref 107 1019), (0, .nameAndType 53 1020), (0, u "(C)[B"), (80, u "serialPersistentFields"), (0, u "[Ljava/io/ObjectStreamField;"), (0, .class_ 1104), (0, u "java/lang/String$CaseInsensitiveComparator"), (1, .class_ 1107), (0, u "java/io/Serializable"), (0, .class_ 1109), (0, u "java/lang/Comparable"), (0, .class_ 1111), (0, u "java/lang/constant/Constable"), (0, .class_ 1113), (0, u "java/lang/constant/ConstantDesc"), (2, u "serialVersionUID"), (0, u "J"), (3, u "REPL"), (0, u "C"), (2, u "LATIN1"), (1, u "UTF16")] 323

def k16m0 : Method := { name := "<init>", desc := "()V", sig := { parameters := [], returnType := none }, accessFlags := 1, code := none }
def k16c1 : Code := { maxStack := 5, maxLocals := 2, code := jdk_42_method_3_code, exceptionTable := #[], attributes := #[] }
def k16m1 : Method := { name := "<init>", desc := "([C)V", sig := { parameters := [(.array .char)], returnType := none }, accessFlags := 1, code := some k16c1 }
def k16c2 : Code := { maxStack := 4, maxLocals := 1, code := jdk_42_method_139_code, exceptionTable := #[], attributes := #[] }
def k16m2 : Method := { name := "valueOf", desc := "(C)Ljava/lang/String;", sig := { parameters := [.char], returnType := some (.object "java/lang/String") }, accessFlags := 9, code := some k16c2 }
def k16c3 : Code := { maxStack := 4, maxLocals := 6, code := jdk_42_method_149_code, exceptionTable := #[], attributes := #[] }
def k16m3 : Method := { name := "<init>", desc := "([CIILjava/lang/Void;)V", sig := { parameters := [(.array .char), .int, .int, (.object "java/lang/Void")], returnType := none }, accessFlags := 2, code := some k16c3 }
def k16c4 : Code := { maxStack := 2, maxLocals := 3, code := jdk_42_method_151_code, exceptionTable := #[], attributes := #[] }
def k16m4 : Method := { name := "<init>", desc := "([BB)V", sig := { parameters := [(.array .byte), .byte], returnType := none }, accessFlags := 0, code := some k16c4 }
/-- java/lang/String -/
def k16 : Class := { plain "java/lang/String" (some 0) with
  accessFlags := 49
  interfaces := #[10, 12, 13, 14, 15]
  cf := some (fileOf pool16 10 #[.nestMembers #[1103]] #[{ accessFlags := 1, nameIndex := 5, descriptorIndex := 6, attributes := #[] }, { accessFlags := 1, nameIndex := 5, descriptorIndex := 1010, attributes := #[] }, { accessFlags := 9, nameIndex := 782, descriptorIndex := 783, attributes := #[] }, { accessFlags := 2, nameIndex := 5, descriptorIndex := 29, attributes := #[] }, { accessFlags := 0, nameIndex := 5, descriptorIndex := 211, attributes := #[] }] 49 2 #[1106, 1108, 575, 1110, 1112] #[{ accessFlags := 18, nameIndex := 13, descriptorIndex := 14, attributes := #[] }, { accessFlags := 18, nameIndex := 17, descriptorIndex := 18, attributes := #[] }, { accessFlags := 2, nameIndex := 21, descriptorIndex := 22, attributes := #[] }, { accessFlags := 2, nameIndex := 25, descriptorIndex := 26, attributes := #[] }, { accessFlags := 26, nameIndex := 1116, descriptorIndex := 1117, attributes := #[] }, { accessFlags := 24, nameIndex := 40, descriptorIndex := 26, attributes := #[] }, { accessFlags := 26, nameIndex := 1101, descriptorIndex := 1102, attributes := #[] }, { accessFlags := 26, nameIndex := 1121, descriptorIndex := 1122, attributes := #[] }, { accessFlags := 25, nameIndex := 599, descriptorIndex := 600, attributes := #[] }, { accessFlags := 24, nameIndex := 1125, descriptorIndex := 18, attributes := #[] }, { accessFlags := 24, nameIndex := 1127, descriptorIndex := 18, attributes := #[] }])
  fields := #[{ name := "value", type := (.array .byte), accessFlags := 18, slot := 0, constantValue := 0 }, { name := "coder", type := .byte, accessFlags := 18, slot := 1, constantValue := 0 }, { name := "hash", type := .int, accessFlags := 2, slot := 2, constantValue := 0 }, { name := "hashIsZero", type := .boolean, accessFlags := 2, slot := 3, constantValue := 0 }, { name := "serialVersionUID", type := .long, accessFlags := 26, slot := 0, constantValue := 0 }, { name := "COMPACT_STRINGS", type := .boolean, accessFlags := 24, slot := 1, constantValue := 0 }, { name := "serialPersistentFields", type := (.array (.object "java/io/ObjectStreamField")), accessFlags := 26, slot := 2, constantValue := 0 }, { name := "REPL", type := .char, accessFlags := 26, slot := 3, constantValue := 0 }, { name := "CASE_INSENSITIVE_ORDER", type := (.object "java/util/Comparator"), accessFlags := 25, slot := 4, constantValue := 0 }, { name := "LATIN1", type := .byte, accessFlags := 24, slot := 5, constantValue := 0 }, { name := "UTF16", type := .byte, accessFlags := 24, slot := 6, constantValue := 0 }]
  methods := #[k16m0, k16m1, k16m2, k16m3, k16m4]
  instanceTypes := #[(.array .byte), .byte, .int, .boolean]
  staticTypes := #[.long, .boolean, (.array (.object "java/io/ObjectStreamField")), .char, (.object "java/util/Comparator"), .byte, .byte]
  resolved := Array.replicate 1451 none
  statics := some 1 }

def pool17 : Array CpInfo := pool [(4, .class_ 6), (1, u "java/lang/Object"), (0, u "<init>"), (0, u "()V"), (5, .class_ 16), (1, u "java/lang/StringLatin1"), (73, u "canEncode"), (14, u "(C)Z"), (15, u "$assertionsDisabled"), (0, u "Z"), (98, .class_ 223), (1, u "java/lang/StringLatin1$LinesSpliterator"), (156, u "toBytes"), (1, u "(C)[B"), (7, .class_ 391), (0, u "java/lang/StringLatin1$CharsSpliterator")] 3

def k17m0 : Method := { name := "<init>", desc := "()V", sig := { parameters := [], returnType := none }, accessFlags := 0, code := none }
def k17c1 : Code := { maxStack := 2, maxLocals := 1, code := jdk_43_method_3_code, exceptionTable := #[], attributes := #[] }
def k17m1 : Method := { name := "canEncode", desc := "(C)Z", sig := { parameters := [.char], returnType := some .boolean }, accessFlags := 9, code := some k17c1 }
def k17c2 : Code := { maxStack := 4, maxLocals := 1, code := jdk_43_method_46_code, exceptionTable := #[], attributes := #[] }
def k17m2 : Method := { name := "toBytes", desc := "(C)[B", sig := { parameters := [.char], returnType := some (.array .byte) }, accessFlags := 9, code := some k17c2 }
/-- java/lang/StringLatin1 -/
def k17 : Class := { plain "java/lang/StringLatin1" (some 0) with
  accessFlags := 48
  interfaces := #[]
  cf := some (fileOf pool17 14 #[.nestMembers #[390, 221]] #[{ accessFlags := 0, nameIndex := 7, descriptorIndex := 8, attributes := #[] }, { accessFlags := 9, nameIndex := 90, descriptorIndex := 105, attributes := #[] }, { accessFlags := 9, nameIndex := 380, descriptorIndex := 382, attributes := #[] }] 48 4 #[] #[{ accessFlags := 4120, nameIndex := 121, descriptorIndex := 122, attributes := #[] }])
  fields := #[{ name := "$assertionsDisabled", type := .boolean, accessFlags := 4120, slot := 0, constantValue := 0 }]
  methods := #[k17m0, k17m1, k17m2]
  instanceTypes := #[]
  staticTypes := #[.boolean]
  resolved := Array.replicate 395 none
  statics := none }

def pool18 : Array CpInfo := pool [(2, .class_ 4), (1, u "java/lang/Object"), (3, .class_ 10), (1, u "com/example/slot1/slot1/balance/Options"), (0, u "strategy"), (0, u "Ljava/lang/String;"), (12, u "given"), (0, u "Ljava/util/Map;"), (1, .class_ 30), (1, u "java/util/List"), (97, u "array"), (0, u "(Ljava/lang/Object;Ljava/lang/String;)Ljava/util/List;")] 44

def k18c0 : Code := { maxStack := 2, maxLocals := 3, code := prog_9_method_5_code, exceptionTable := #[], attributes := #[] }
def k18m0 : Method := { name := "array", desc := "(Ljava/lang/Object;Ljava/lang/String;)Ljava/util/List;", sig := { parameters := [(.object "java/lang/Object"), (.object "java/lang/String")], returnType := some (.object "java/util/List") }, accessFlags := 8, code := some k18c0 }
/-- com/example/slot1/slot1/balance/Options -/
def k18 : Class := { plain "com/example/slot1/slot1/balance/Options" (some 0) with
  accessFlags := 32
  interfaces := #[]
  cf := some (fileOf pool18 8 #[] #[{ accessFlags := 8, nameIndex := 128, descriptorIndex := 129, attributes := #[] }] 32 2 #[] #[{ accessFlags := 18, nameIndex := 11, descriptorIndex := 12, attributes := #[] }, { accessFlags := 18, nameIndex := 25, descriptorIndex := 26, attributes := #[] }])
  fields := #[{ name := "strategy", type := (.object "java/lang/String"), accessFlags := 18, slot := 0, constantValue := 0 }, { name := "given", type := (.object "java/util/Map"), accessFlags := 18, slot := 1, constantValue := 0 }]
  methods := #[k18m0]
  instanceTypes := #[(.object "java/lang/String"), (.object "java/util/Map")]
  staticTypes := #[]
  resolved := Array.replicate 174 none
  statics := none }

def pool19 : Array CpInfo := pool [(6, .class_ 8), (1, u "java/lang/Object"), (0, u "<init>"), (0, u "()V"), (1, .class_ 14), (1, u "java/lang/StringUTF16"), (31, u "$assertionsDisabled"), (0, u "Z"), (13, u "HI_BYTE_SHIFT"), (0, u "I"), (2, u "LO_BYTE_SHIFT"), (49, .methodref 12 116), (0, .nameAndType 117 118), (0, u "compress"), (0, u "([CI[BII)I"), (3, u "([CII)[B"), (138, u "coderFromArrayLen"), (0, u "([BI)B"), (106, .class_ 371), (1, u "java/lang/StringUTF16$LinesSpliterator"), (58, u "MAX_LENGTH"), (196, .class_ 628), (0, u "java/lang/StringUTF16$CodePointsSpliterator"), (0, .class_ 630), (0, u "java/lang/StringUTF16$CharsSpliterator")] 4

def k19m0 : Method := { name := "<init>", desc := "()V", sig := { parameters := [], returnType := none }, accessFlags := 0, code := none }
def k19c1 : Code := { maxStack := 2, maxLocals := 2, code := jdk_52_method_15_code, exceptionTable := #[], attributes := #[] }
def k19m1 : Method := { name := "coderFromArrayLen", desc := "([BI)B", sig := { parameters := [(.array .byte), .int], returnType := some .byte }, accessFlags := 8, code := some k19c1 }
def k19c2 : Code := { maxStack := 5, maxLocals := 6, code := jdk_52_method_16_code, exceptionTable := #[], attributes := #[] }
def k19m2 : Method := { name := "compress", desc := "([CII)[B", sig := { parameters := [(.array .char), .int, .int], returnType := some (.array .byte) }, accessFlags := 9, code := some k19c2 }
def k19c3 : Code := { maxStack := 3, maxLocals := 7, code := jdk_52_method_21_code, exceptionTable := #[], attributes := #[] }
def k19m3 : Method := { name := "compress", desc := "([CI[BII)I", sig := { parameters := [(.array .char), .int, (.array .byte), .int, .int], returnType := some .int }, accessFlags := 9, code := some k19c3 }
/-- java/lang/StringUTF16 -/
def k19 : Class := { plain "java/lang/StringUTF16" (some 0) with
  accessFlags := 48
  interfaces := #[]
  cf := some (fileOf pool19 12 #[.nestMembers #[627, 629, 369]] #[{ accessFlags := 0, nameIndex := 9, descriptorIndex := 10, attributes := #[] }, { accessFlags := 8, nameIndex := 261, descriptorIndex := 262, attributes := #[] }, { accessFlags := 9, nameIndex := 117, descriptorIndex := 122, attributes := #[] }, { accessFlags := 9, nameIndex := 117, descriptorIndex := 118, attributes := #[] }] 48 6 #[] #[{ accessFlags := 26, nameIndex := 61, descriptorIndex := 62, attributes := #[] }, { accessFlags := 26, nameIndex := 65, descriptorIndex := 62, attributes := #[] }, { accessFlags := 24, nameIndex := 430, descriptorIndex := 62, attributes := #[] }, { accessFlags := 4120, nameIndex := 46, descriptorIndex := 47, attributes := #[] }])
  fields := #[{ name := "HI_BYTE_SHIFT", type := .int, accessFlags := 26, slot := 0, constantValue := 0 }, { name := "LO_BYTE_SHIFT", type := .int, accessFlags := 26, slot := 1, constantValue := 0 }, { name := "MAX_LENGTH", type := .int, accessFlags := 24, slot := 2, constantValue := 0 }, { name := "$assertionsDisabled", type := .boolean, accessFlags := 4120, slot := 3, constantValue := 0 }]
  methods := #[k19m0, k19m1, k19m2, k19m3]
  instanceTypes := #[]
  staticTypes := #[.int, .int, .int, .boolean]
  resolved := Array.replicate 635 none
  statics := none }

def pool20 : Array CpInfo := pool [(1, .methodref 2 3), (0, .class_ 4), (0, .nameAndType 5 6), (0, u "java/lang/Object"), (0, u "<init>"), (0, u "()V"), (1, .class_ 10), (1, u "java/lang/Number"), (2, .class_ 14), (0, u "java/io/Serializable"), (0, u "serialVersionUID"), (0, u "J")] 20

def k20c0 : Code := { maxStack := 1, maxLocals := 1, code := jdk_18_method_1_code, exceptionTable := #[], attributes := #[] }
def k20m0 : Method := { name := "<init>", desc := "()V", sig := { parameters := [], returnType := none }, accessFlags := 1, code := some k20c0 }
/-- java/lang/Number -/
def k20 : Class := { plain "java/lang/Number" (some 0) with
  accessFlags := 1057
  interfaces := #[10]
  cf := some (fileOf pool20 8 #[] #[{ accessFlags := 1, nameIndex := 5, descriptorIndex := 6, attributes := #[] }] 1057 2 #[13] #[{ accessFlags := 26, nameIndex := 15, descriptorIndex := 16, attributes := #[] }])
  fields := #[{ name := "serialVersionUID", type := .long, accessFlags := 26, slot := 0, constantValue := 0 }]
  methods := #[k20m0]
  instanceTypes := #[]
  staticTypes := #[.long]
  resolved := Array.replicate 37 none
  statics := none }

def pool21 : Array CpInfo := pool [(1, .class_ 2), (0, u "java/lang/Integer"), (16, u "digits"), (0, u "[C"), (46, u "<init>"), (17, u "DigitOnes"), (0, u "[B"), (2, u "DigitTens"), (10, .nameAndType 67 101), (0, u "()V"), (19, u "()I"), (65, u "valueOf"), (0, u "(I)Ljava/lang/Integer;"), (0, .class_ 190), (0, u "java/lang/Integer$IntegerCache"), (0, .fieldref 189 192), (0, .nameAndType 193 194), (0, u "high"), (0, u "I"), (0, .fieldref 189 196), (0, .nameAndType 197 198), (0, u "cache"), (0, u "[Ljava/lang/Integer;"), (0, .methodref 1 200), (0, .nameAndType 67 201), (0, u "(I)V"), (0, .methodref 203 100), (0, .class_ 204), (0, u "java/lang/Number"), (0, .fieldref 1 206), (0, .nameAndType 207 194), (0, u "value"), (5, u "intValue"), (88, u "TYPE"), (0, u "Ljava/lang/Class;"), (0, .class_ 305), (0, u "java/lang/Comparable"), (0, .class_ 307), (0, u "java/lang/constant/Constable"), (0, .class_ 309), (0, u "java/lang/constant/ConstantDesc"), (0, u "MIN_VALUE"), (1, u "MAX_VALUE"), (3, u "SIZE"), (1, u "BYTES"), (1, u "serialVersionUID"), (0, u "J")] 131

def k21c0 : Code := { maxStack := 3, maxLocals := 1, code := jdk_33_method_22_code, exceptionTable := #[], attributes := #[] }
def k21m0 : Method := { name := "valueOf", desc := "(I)Ljava/lang/Integer;", sig := { parameters := [.int], returnType := some (.object "java/lang/Integer") }, accessFlags := 9, code := some k21c0 }
def k21c1 : Code := { maxStack := 2, maxLocals := 2, code := jdk_33_method_23_code, exceptionTable := #[], attributes := #[] }
def k21m1 : Method := { name := "<init>", desc := "(I)V", sig := { parameters := [.int], returnType := none }, accessFlags := 1, code := some k21c1 }
def k21c2 : Code := { maxStack := 1, maxLocals := 1, code := jdk_33_method_27_code, exceptionTable := #[], attributes := #[] }
def k21m2 : Method := { name := "intValue", desc := "()I", sig := { parameters := [], returnType := some .int }, accessFlags := 1, code := some k21c2 }
/-- java/lang/Integer -/
def k21 : Class := { plain "java/lang/Integer" (some 20) with
  accessFlags := 49
  interfaces := #[12, 14, 15]
  cf := some (fileOf pool21 1 #[.nestMembers #[189]] #[{ accessFlags := 9, nameIndex := 187, descriptorIndex := 188, attributes := #[] }, { accessFlags := 1, nameIndex := 67, descriptorIndex := 201, attributes := #[] }, { accessFlags := 1, nameIndex := 213, descriptorIndex := 121, attributes := #[] }] 49 203 #[304, 306, 308] #[{ accessFlags := 25, nameIndex := 310, descriptorIndex := 194, attributes := #[] }, { accessFlags := 25, nameIndex := 312, descriptorIndex := 194, attributes := #[] }, { accessFlags := 25, nameIndex := 302, descriptorIndex := 303, attributes := #[] }, { accessFlags := 24, nameIndex := 19, descriptorIndex := 20, attributes := #[] }, { accessFlags := 24, nameIndex := 89, descriptorIndex := 86, attributes := #[] }, { accessFlags := 24, nameIndex := 85, descriptorIndex := 86, attributes := #[] }, { accessFlags := 18, nameIndex := 207, descriptorIndex := 194, attributes := #[] }, { accessFlags := 25, nameIndex := 316, descriptorIndex := 194, attributes := #[] }, { accessFlags := 25, nameIndex := 318, descriptorIndex := 194, attributes := #[] }, { accessFlags := 26, nameIndex := 320, descriptorIndex := 321, attributes := #[] }])
  fields := #[{ name := "MIN_VALUE", type := .int, accessFlags := 25, slot := 0, constantValue := 0 }, { name := "MAX_VALUE", type := .int, accessFlags := 25, slot := 1, constantValue := 0 }, { name := "TYPE", type := (.object "java/lang/Class"), accessFlags := 25, slot := 2, constantValue := 0 }, { name := "digits", type := (.array .char), accessFlags := 24, slot := 3, constantValue := 0 }, { name := "DigitTens", type := (.array .byte), accessFlags := 24, slot := 4, constantValue := 0 }, { name := "DigitOnes", type := (.array .byte), accessFlags := 24, slot := 5, constantValue := 0 }, { name := "value", type := .int, accessFlags := 18, slot := 0, constantValue := 0 }, { name := "SIZE", type := .int, accessFlags := 25, slot := 6, constantValue := 0 }, { name := "BYTES", type := .int, accessFlags := 25, slot := 7, constantValue := 0 }, { name := "serialVersionUID", type := .long, accessFlags := 26, slot := 8, constantValue := 0 }]
  methods := #[k21m0, k21m1, k21m2]
  instanceTypes := #[.int]
  staticTypes := #[.int, .int, (.object "java/lang/Class"), (.array .char), (.array .byte), (.array .byte), .int, .int, .long]
  resolved := Array.replicate 453 none
  statics := none }

def pool22 : Array CpInfo := pool [(2, .class_ 4), (1, u "java/lang/Object"), (0, u "<init>"), (0, u "()V"), (0, .class_ 8), (0, u "java/lang/Integer"), (7, .class_ 18), (1, u "java/lang/Integer$IntegerCache"), (0, u "$assertionsDisabled"), (0, u "Z"), (26, u "high"), (0, u "I"), (8, u "archivedCache"), (0, u "[Ljava/lang/Integer;"), (12, u "cache"), (0, u "low")] 27

def k22m0 : Method := { name := "<init>", desc := "()V", sig := { parameters := [], returnType := none }, accessFlags := 2, code := none }
/-- java/lang/Integer$IntegerCache -/
def k22 : Class := { plain "java/lang/Integer$IntegerCache" (some 0) with
  accessFlags := 48
  interfaces := #[]
  cf := some (fileOf pool22 16 #[.nestHost 7] #[{ accessFlags := 2, nameIndex := 5, descriptorIndex := 6, attributes := #[] }] 48 2 #[] #[{ accessFlags := 24, nameIndex := 72, descriptorIndex := 48, attributes := #[] }, { accessFlags := 24, nameIndex := 47, descriptorIndex := 48, attributes := #[] }, { accessFlags := 24, nameIndex := 71, descriptorIndex := 58, attributes := #[] }, { accessFlags := 8, nameIndex := 57, descriptorIndex := 58, attributes := #[] }, { accessFlags := 4120, nameIndex := 19, descriptorIndex := 20, attributes := #[] }])
  fields := #[{ name := "low", type := .int, accessFlags := 24, slot := 0, constantValue := 0 }, { name := "high", type := .int, accessFlags := 24, slot := 1, constantValue := 0 }, { name := "cache", type := (.array (.object "java/lang/Integer")), accessFlags := 24, slot := 2, constantValue := 0 }, { name := "archivedCache", type := (.array (.object "java/lang/Integer")), accessFlags := 8, slot := 3, constantValue := 0 }, { name := "$assertionsDisabled", type := .boolean, accessFlags := 4120, slot := 4, constantValue := 0 }]
  methods := #[k22m0]
  instanceTypes := #[]
  staticTypes := #[.int, .int, (.array (.object "java/lang/Integer")), (.array (.object "java/lang/Integer")), .boolean]
  resolved := Array.replicate 100 none
  statics := some 2 }

def pool23 : Array CpInfo := pool [(1, .class_ 2), (0, u "java/lang/Math"), (1, .class_ 6), (1, u "java/lang/Object"), (0, u "<init>"), (0, u "()V"), (89, .class_ 100), (1, u "java/lang/Math$RandomNumberGeneratorHolder"), (71, u "negativeZeroFloatBits"), (0, u "J"), (2, u "negativeZeroDoubleBits"), (21, u "max"), (46, u "$assertionsDisabled"), (0, u "Z"), (88, u "(II)I"), (2, u "twoToTheDoubleScaleDown"), (0, u "D"), (4, u "twoToTheDoubleScaleUp"), (9, u "E"), (3, u "PI"), (2, u "TAU"), (2, u "DEGREES_TO_RADIANS"), (0, u "RADIANS_TO_DEGREES")] 94

def k23m0 : Method := { name := "<init>", desc := "()V", sig := { parameters := [], returnType := none }, accessFlags := 2, code := none }
def k23c1 : Code := { maxStack := 2, maxLocals := 2, code := jdk_29_method_65_code, exceptionTable := #[], attributes := #[] }
def k23m1 : Method := { name := "max", desc := "(II)I", sig := { parameters := [.int, .int], returnType := some .int }, accessFlags := 9, code := some k23c1 }
/-- java/lang/Math -/
def k23 : Class := { plain "java/lang/Math" (some 0) with
  accessFlags := 49
  interfaces := #[]
  cf := some (fileOf pool23 1 #[.nestMembers #[98]] #[{ accessFlags := 2, nameIndex := 7, descriptorIndex := 8, attributes := #[] }, { accessFlags := 9, nameIndex := 198, descriptorIndex := 335, attributes := #[] }] 49 4 #[] #[{ accessFlags := 25, nameIndex := 354, descriptorIndex := 339, attributes := #[] }, { accessFlags := 25, nameIndex := 358, descriptorIndex := 339, attributes := #[] }, { accessFlags := 25, nameIndex := 361, descriptorIndex := 339, attributes := #[] }, { accessFlags := 26, nameIndex := 364, descriptorIndex := 339, attributes := #[] }, { accessFlags := 26, nameIndex := 365, descriptorIndex := 339, attributes := #[] }, { accessFlags := 26, nameIndex := 172, descriptorIndex := 173, attributes := #[] }, { accessFlags := 26, nameIndex := 176, descriptorIndex := 173, attributes := #[] }, { accessFlags := 8, nameIndex := 344, descriptorIndex := 339, attributes := #[] }, { accessFlags := 8, nameIndex := 338, descriptorIndex := 339, attributes := #[] }, { accessFlags := 4120, nameIndex := 245, descriptorIndex := 246, attributes := #[] }])
  fields := #[{ name := "E", type := .double, accessFlags := 25, slot := 0, constantValue := 0 }, { name := "PI", type := .double, accessFlags := 25, slot := 1, constantValue := 0 }, { name := "TAU", type := .double, accessFlags := 25, slot := 2, constantValue := 0 }, { name := "DEGREES_TO_RADIANS", type := .double, accessFlags := 26, slot := 3, constantValue := 0 }, { name := "RADIANS_TO_DEGREES", type := .double, accessFlags := 26, slot := 4, constantValue := 0 }, { name := "negativeZeroFloatBits", type := .long, accessFlags := 26, slot := 5, constantValue := 0 }, { name := "negativeZeroDoubleBits", type := .long, accessFlags := 26, slot := 6, constantValue := 0 }, { name := "twoToTheDoubleScaleUp", type := .double, accessFlags := 8, slot := 7, constantValue := 0 }, { name := "twoToTheDoubleScaleDown", type := .double, accessFlags := 8, slot := 8, constantValue := 0 }, { name := "$assertionsDisabled", type := .boolean, accessFlags := 4120, slot := 9, constantValue := 0 }]
  methods := #[k23m0, k23m1]
  instanceTypes := #[]
  staticTypes := #[.double, .double, .double, .double, .double, .long, .long, .double, .double, .boolean]
  resolved := Array.replicate 460 none
  statics := none }

def pool24 : Array CpInfo := pool [(2, .class_ 4), (1, u "java/lang/Object"), (0, u "<init>"), (0, u "()V"), (35, .class_ 44), (1, u "java/util/Objects"), (60, .methodref 106 107), (0, .class_ 108), (0, .nameAndType 109 110), (0, u "jdk/internal/util/Preconditions"), (0, u "checkIndex"), (0, u "(IILjava/util/function/BiFunction;)I"), (60, u "(II)I")] 12

def k24m0 : Method := { name := "<init>", desc := "()V", sig := { parameters := [], returnType := none }, accessFlags := 2, code := none }
def k24c1 : Code := { maxStack := 3, maxLocals := 2, code := jdk_31_method_17_code, exceptionTable := #[], attributes := #[] }
def k24m1 : Method := { name := "checkIndex", desc := "(II)I", sig := { parameters := [.int, .int], returnType := some .int }, accessFlags := 9, code := some k24c1 }
/-- java/util/Objects -/
def k24 : Class := { plain "java/util/Objects" (some 0) with
  accessFlags := 49
  interfaces := #[]
  cf := some (fileOf pool24 42 #[] #[{ accessFlags := 2, nameIndex := 5, descriptorIndex := 6, attributes := #[] }, { accessFlags := 9, nameIndex := 109, descriptorIndex := 171, attributes := #[] }] 49 2 #[] #[])
  fields := #[]
  methods := #[k24m0, k24m1]
  instanceTypes := #[]
  staticTypes := #[]
  resolved := Array.replicate 184 none
  statics := none }

def pool25 : Array CpInfo := pool [(2, .class_ 4), (1, u "java/lang/Object"), (0, u "<init>"), (0, u "()V"), (17, .class_ 26), (1, u "jdk/internal/util/Preconditions"), (6, u "checkIndex"), (21, .class_ 56), (0, u "jdk/internal/util/Preconditions$4"), (57, .class_ 115), (0, u "jdk/internal/util/Preconditions$1"), (7, u "SIOOBE_FORMATTER"), (0, u "Ljava/util/function/BiFunction;"), (0, .class_ 126), (0, u "jdk/internal/util/Preconditions$2"), (3, u "AIOOBE_FORMATTER"), (0, .class_ 132), (0, u "jdk/internal/util/Preconditions$3"), (3, u "IOOBE_FORMATTER"), (41, u "(IILjava/util/function/BiFunction;)I")] 15

def k25m0 : Method := { name := "<init>", desc := "()V", sig := { parameters := [], returnType := none }, accessFlags := 1, code := none }
def k25c1 : Code := { maxStack := 3, maxLocals := 3, code := jdk_41_method_11_code, exceptionTable := #[], attributes := #[] }
def k25m1 : Method := { name := "checkIndex", desc := "(IILjava/util/function/BiFunction;)I", sig := { parameters := [.int, .int, (.object "java/util/function/BiFunction")], returnType := some .int }, accessFlags := 9, code := some k25c1 }
/-- jdk/internal/util/Preconditions -/
def k25 : Class := { plain "jdk/internal/util/Preconditions" (some 0) with
  accessFlags := 33
  interfaces := #[]
  cf := some (fileOf pool25 24 #[.nestMembers #[55, 131, 125, 114]] #[{ accessFlags := 1, nameIndex := 5, descriptorIndex := 6, attributes := #[] }, { accessFlags := 9, nameIndex := 33, descriptorIndex := 178, attributes := #[] }] 33 2 #[] #[{ accessFlags := 25, nameIndex := 123, descriptorIndex := 124, attributes := #[] }, { accessFlags := 25, nameIndex := 130, descriptorIndex := 124, attributes := #[] }, { accessFlags := 25, nameIndex := 136, descriptorIndex := 124, attributes := #[] }])
  fields := #[{ name := "SIOOBE_FORMATTER", type := (.object "java/util/function/BiFunction"), accessFlags := 25, slot := 0, constantValue := 0 }, { name := "AIOOBE_FORMATTER", type := (.object "java/util/function/BiFunction"), accessFlags := 25, slot := 1, constantValue := 0 }, { name := "IOOBE_FORMATTER", type := (.object "java/util/function/BiFunction"), accessFlags := 25, slot := 2, constantValue := 0 }]
  methods := #[k25m0, k25m1]
  instanceTypes := #[]
  staticTypes := #[(.object "java/util/function/BiFunction"), (.object "java/util/function/BiFunction"), (.object "java/util/function/BiFunction")]
  resolved := Array.replicate 194 none
  statics := some 3 }

def pool26 : Array CpInfo := pool [(9, u "<init>"), (6, .class_ 18), (1, u "java/lang/Object"), (0, u "()V"), (1, .class_ 23), (1, u "jdk/internal/util/ArraysSupport"), (0, u "LOG2_ARRAY_LONG_INDEX_SCALE"), (0, u "I"), (2, u "U"), (0, u "Ljdk/internal/misc/Unsafe;"), (8, u "BIG_ENDIAN"), (0, u "Z"), (8, u "LOG2_BYTE_BIT_SIZE"), (4, u "LOG2_ARRAY_INT_INDEX_SCALE"), (54, u "JLA"), (0, u "Ljdk/internal/access/JavaLangAccess;"), (11, u "LOG2_ARRAY_BOOLEAN_INDEX_SCALE"), (9, u "LOG2_ARRAY_BYTE_INDEX_SCALE"), (5, u "LOG2_ARRAY_CHAR_INDEX_SCALE"), (5, u "LOG2_ARRAY_SHORT_INDEX_SCALE"), (18, u "LOG2_ARRAY_FLOAT_INDEX_SCALE"), (24, u "LOG2_ARRAY_DOUBLE_INDEX_SCALE"), (89, u "T_BOOLEAN"), (2, u "T_CHAR"), (1, u "T_FLOAT"), (1, u "T_DOUBLE"), (1, u "T_BYTE"), (1, u "T_SHORT"), (1, u "T_INT"), (1, u "T_LONG"), (1, u "SOFT_MAX_ARRAY_LENGTH")] 83

def k26m0 : Method := { name := "<init>", desc := "()V", sig := { parameters := [], returnType := none }, accessFlags := 2, code := none }
/-- jdk/internal/util/ArraysSupport -/
def k26 : Class := { plain "jdk/internal/util/ArraysSupport" (some 0) with
  accessFlags := 33
  interfaces := #[]
  cf := some (fileOf pool26 21 #[] #[{ accessFlags := 2, nameIndex := 9, descriptorIndex := 19, attributes := #[] }] 33 16 #[] #[{ accessFlags := 24, nameIndex := 28, descriptorIndex := 29, attributes := #[] }, { accessFlags := 26, nameIndex := 38, descriptorIndex := 39, attributes := #[] }, { accessFlags := 25, nameIndex := 121, descriptorIndex := 25, attributes := #[] }, { accessFlags := 25, nameIndex := 131, descriptorIndex := 25, attributes := #[] }, { accessFlags := 25, nameIndex := 137, descriptorIndex := 25, attributes := #[] }, { accessFlags := 25, nameIndex := 143, descriptorIndex := 25, attributes := #[] }, { accessFlags := 25, nameIndex := 53, descriptorIndex := 25, attributes := #[] }, { accessFlags := 25, nameIndex := 24, descriptorIndex := 25, attributes := #[] }, { accessFlags := 25, nameIndex := 162, descriptorIndex := 25, attributes := #[] }, { accessFlags := 25, nameIndex := 187, descriptorIndex := 25, attributes := #[] }, { accessFlags := 26, nameIndex := 48, descriptorIndex := 25, attributes := #[] }, { accessFlags := 25, nameIndex := 277, descriptorIndex := 25, attributes := #[] }, { accessFlags := 25, nameIndex := 280, descriptorIndex := 25, attributes := #[] }, { accessFlags := 25, nameIndex := 282, descriptorIndex := 25, attributes := #[] }, { accessFlags := 25, nameIndex := 284, descriptorIndex := 25, attributes := #[] }, { accessFlags := 25, nameIndex := 286, descriptorIndex := 25, attributes := #[] }, { accessFlags := 25, nameIndex := 288, descriptorIndex := 25, attributes := #[] }, { accessFlags := 25, nameIndex := 290, descriptorIndex := 25, attributes := #[] }, { accessFlags := 25, nameIndex := 292, descriptorIndex := 25, attributes := #[] }, { accessFlags := 26, nameIndex := 108, descriptorIndex := 109, attributes := #[] }, { accessFlags := 25, nameIndex := 294, descriptorIndex := 25, attributes := #[] }])
  fields := #[{ name := "U", type := (.object "jdk/internal/misc/Unsafe"), accessFlags := 24, slot := 0, constantValue := 0 }, { name := "BIG_ENDIAN", type := .boolean, accessFlags := 26, slot := 1, constantValue := 0 }, { name := "LOG2_ARRAY_BOOLEAN_INDEX_SCALE", type := .int, accessFlags := 25, slot := 2, constantValue := 0 }, { name := "LOG2_ARRAY_BYTE_INDEX_SCALE", type := .int, accessFlags := 25, slot := 3, constantValue := 0 }, { name := "LOG2_ARRAY_CHAR_INDEX_SCALE", type := .int, accessFlags := 25, slot := 4, constantValue := 0 }, { name := "LOG2_ARRAY_SHORT_INDEX_SCALE", type := .int, accessFlags := 25, slot := 5, constantValue := 0 }, { name := "LOG2_ARRAY_INT_INDEX_SCALE", type := .int, accessFlags := 25, slot := 6, constantValue := 0 }, { name := "LOG2_ARRAY_LONG_INDEX_SCALE", type := .int, accessFlags := 25, slot := 7, constantValue := 0 }, { name := "LOG2_ARRAY_FLOAT_INDEX_SCALE", type := .int, accessFlags := 25, slot := 8, constantValue := 0 }, { name := "LOG2_ARRAY_DOUBLE_INDEX_SCALE", type := .int, accessFlags := 25, slot := 9, constantValue := 0 }, { name := "LOG2_BYTE_BIT_SIZE", type := .int, accessFlags := 26, slot := 10, constantValue := 0 }, { name := "T_BOOLEAN", type := .int, accessFlags := 25, slot := 11, constantValue := 0 }, { name := "T_CHAR", type := .int, accessFlags := 25, slot := 12, constantValue := 0 }, { name := "T_FLOAT", type := .int, accessFlags := 25, slot := 13, constantValue := 0 }, { name := "T_DOUBLE", type := .int, accessFlags := 25, slot := 14, constantValue := 0 }, { name := "T_BYTE", type := .int, accessFlags := 25, slot := 15, constantValue := 0 }, { name := "T_SHORT", type := .int, accessFlags := 25, slot := 16, constantValue := 0 }, { name := "T_INT", type := .int, accessFlags := 25, slot := 17, constantValue := 0 }, { name := "T_LONG", type := .int, accessFlags := 25, slot := 18, constantValue := 0 }, { name := "JLA", type := (.object "jdk/internal/access/JavaLangAccess"), accessFlags := 26, slot := 19, constantValue := 0 }, { name := "SOFT_MAX_ARRAY_LENGTH", type := .int, accessFlags := 25, slot := 20, constantValue := 0 }]
  methods := #[k26m0]
  instanceTypes := #[]
  staticTypes := #[(.object "jdk/internal/misc/Unsafe"), .boolean, .int, .int, .int, .int, .int, .int, .int, .int, .int, .int, .int, .int, .int, .int, .int, .int, .int, (.object "jdk/internal/access/JavaLangAccess"), .int]
  resolved := Array.replicate 378 none
  statics := none }

/-- the primitive byte -/
def k27 : Class := { plain "byte" none with kind := .primitive 'B', accessFlags := 0x411 }
/-- [B -/
def k28 : Class := { plain "[B" (some 0) with kind := .array 27 .byte, interfaces := #[9, 10], accessFlags := 1041 }

/-- the primitive char -/
def k29 : Class := { plain "char" none with kind := .primitive 'C', accessFlags := 0x411 }
/-- [C -/
def k30 : Class := { plain "[C" (some 0) with kind := .array 29 .char, interfaces := #[9, 10], accessFlags := 1041 }

/-- the primitive int -/
def k31 : Class := { plain "int" none with kind := .primitive 'I', accessFlags := 0x411 }
/-- [I -/
def k32 : Class := { plain "[I" (some 0) with kind := .array 31 .int, interfaces := #[9, 10], accessFlags := 1041 }

/-- [Ljava/lang/Integer; -/
def k33 : Class := { plain "[Ljava/lang/Integer;" (some 0) with kind := .array 21 (.object "java/lang/Integer"), interfaces := #[9, 10], accessFlags := 1041 }

/-- [Ljava/lang/Object; -/
def k34 : Class := { plain "[Ljava/lang/Object;" (some 0) with kind := .array 0 (.object "java/lang/Object"), interfaces := #[9, 10], accessFlags := 1041 }

def heap : Heap := #[{ cls := 11, slots := #[.long 0, .int 0, .ref 261, .ref 262], vm := .statics 11 },
  { cls := 16, slots := #[.long 0, .int 1, .null, .int 0, .null, .int 0, .int 0], vm := .statics 16 },
  { cls := 22, slots := #[.int 0, .int 127, .ref 4, .null, .int 0], vm := .statics 22 },
  { cls := 25, slots := #[.null, .null, .null], vm := .statics 25 },
  { cls := 33, slots := #[.ref 5, .ref 6, .ref 7, .ref 8, .ref 9, .ref 10, .ref 11, .ref 12, .ref 13, .ref 14, .ref 15, .ref 16, .ref 17, .ref 18, .ref 19, .ref 20, .ref 21, .ref 22, .ref 23, .ref 24, .ref 25, .ref 26, .ref 27, .ref 28, .ref 29, .ref 30, .ref 31, .ref 32, .ref 33, .ref 34, .ref 35, .ref 36, .ref 37, .ref 38, .ref 39, .ref 40, .ref 41, .ref 42, .ref 43, .ref 44, .ref 45, .ref 46, .ref 47, .ref 48, .ref 49, .ref 50, .ref 51, .ref 52, .ref 53, .ref 54, .ref 55, .ref 56, .ref 57, .ref 58, .ref 59, .ref 60, .ref 61, .ref 62, .ref 63, .ref 64, .ref 65, .ref 66, .ref 67, .ref 68, .ref 69, .ref 70, .ref 71, .ref 72, .ref 73, .ref 74, .ref 75, .ref 76, .ref 77, .ref 78, .ref 79, .ref 80, .ref 81, .ref 82, .ref 83, .ref 84, .ref 85, .ref 86, .ref 87, .ref 88, .ref 89, .ref 90, .ref 91, .ref 92, .ref 93, .ref 94, .ref 95, .ref 96, .ref 97, .ref 98, .ref 99, .ref 100, .ref 101, .ref 102, .ref 103, .ref 104, .ref 105, .ref 106, .ref 107, .ref 108, .ref 109, .ref 110, .ref 111, .ref 112, .ref 113, .ref 114, .ref 115, .ref 116, .ref 117, .ref 118, .ref 119, .ref 120, .ref 121, .ref 122, .ref 123, .ref 124, .ref 125, .ref 126, .ref 127, .ref 128, .ref 129, .ref 130, .ref 131, .ref 132, .ref 133, .ref 134, .ref 135, .ref 136, .ref 137, .ref 138, .ref 139, .ref 140, .ref 141, .ref 142, .ref 143, .ref 144, .ref 145, .ref 146, .ref 147, .ref 148, .ref 149, .ref 150, .ref 151, .ref 152, .ref 153, .ref 154, .ref 155, .ref 156, .ref 157, .ref 158, .ref 159, .ref 160, .ref 161, .ref 162, .ref 163, .ref 164, .ref 165, .ref 166, .ref 167, .ref 168, .ref 169, .ref 170, .ref 171, .ref 172, .ref 173, .ref 174, .ref 175, .ref 176, .ref 177, .ref 178, .ref 179, .ref 180, .ref 181, .ref 182, .ref 183, .ref 184, .ref 185, .ref 186, .ref 187, .ref 188, .ref 189, .ref 190, .ref 191, .ref 192, .ref 193, .ref 194, .ref 195, .ref 196, .ref 197, .ref 198, .ref 199, .ref 200, .ref 201, .ref 202, .ref 203, .ref 204, .ref 205, .ref 206, .ref 207, .ref 208, .ref 209, .ref 210, .ref 211, .ref 212, .ref 213, .ref 214, .ref 215, .ref 216, .ref 217, .ref 218, .ref 219, .ref 220, .ref 221, .ref 222, .ref 223, .ref 224, .ref 225, .ref 226, .ref 227, .ref 228, .ref 229, .ref 230, .ref 231, .ref 232, .ref 233, .ref 234, .ref 235, .ref 236, .ref 237, .ref 238, .ref 239, .ref 240, .ref 241, .ref 242, .ref 243, .ref 244, .ref 245, .ref 246, .ref 247, .ref 248, .ref 249, .ref 250, .ref 251, .ref 252, .ref 253, .ref 254, .ref 255, .ref 256, .ref 257, .ref 258, .ref 259, .ref 260], vm := .none },
  { cls := 21, slots := #[.int (-128)], vm := .none },
  { cls := 21, slots := #[.int (-127)], vm := .none },
  { cls := 21, slots := #[.int (-126)], vm := .none },
  { cls := 21, slots := #[.int (-125)], vm := .none },
  { cls := 21, slots := #[.int (-124)], vm := .none },
  { cls := 21, slots := #[.int (-123)], vm := .none },
  { cls := 21, slots := #[.int (-122)], vm := .none },
  { cls := 21, slots := #[.int (-121)], vm := .none },
  { cls := 21, slots := #[.int (-120)], vm := .none },
  { cls := 21, slots := #[.int (-119)], vm := .none },
  { cls := 21, slots := #[.int (-118)], vm := .none },
  { cls := 21, slots := #[.int (-117)], vm := .none },
  { cls := 21, slots := #[.int (-116)], vm := .none },
  { cls := 21, slots := #[.int (-115)], vm := .none },
  { cls := 21, slots := #[.int (-114)], vm := .none },
  { cls := 21, slots := #[.int (-113)], vm := .none },
  { cls := 21, slots := #[.int (-112)], vm := .none },
  { cls := 21, slots := #[.int (-111)], vm := .none },
  { cls := 21, slots := #[.int (-110)], vm := .none },
  { cls := 21, slots := #[.int (-109)], vm := .none },
  { cls := 21, slots := #[.int (-108)], vm := .none },
  { cls := 21, slots := #[.int (-107)], vm := .none },
  { cls := 21, slots := #[.int (-106)], vm := .none },
  { cls := 21, slots := #[.int (-105)], vm := .none },
  { cls := 21, slots := #[.int (-104)], vm := .none },
  { cls := 21, slots := #[.int (-103)], vm := .none },
  { cls := 21, slots := #[.int (-102)], vm := .none },
  { cls := 21, slots := #[.int (-101)], vm := .none },
  { cls := 21, slots := #[.int (-100)], vm := .none },
  { cls := 21, slots := #[.int (-99)], vm := .none },
  { cls := 21, slots := #[.int (-98)], vm := .none },
  { cls := 21, slots := #[.int (-97)], vm := .none },
  { cls := 21, slots := #[.int (-96)], vm := .none },
  { cls := 21, slots := #[.int (-95)], vm := .none },
  { cls := 21, slots := #[.int (-94)], vm := .none },
  { cls := 21, slots := #[.int (-93)], vm := .none },
  { cls := 21, slots := #[.int (-92)], vm := .none },
  { cls := 21, slots := #[.int (-91)], vm := .none },
  { cls := 21, slots := #[.int (-90)], vm := .none },
  { cls := 21, slots := #[.int (-89)], vm := .none },
  { cls := 21, slots := #[.int (-88)], vm := .none },
  { cls := 21, slots := #[.int (-87)], vm := .none },
  { cls := 21, slots := #[.int (-86)], vm := .none },
  { cls := 21, slots := #[.int (-85)], vm := .none },
  { cls := 21, slots := #[.int (-84)], vm := .none },
  { cls := 21, slots := #[.int (-83)], vm := .none },
  { cls := 21, slots := #[.int (-82)], vm := .none },
  { cls := 21, slots := #[.int (-81)], vm := .none },
  { cls := 21, slots := #[.int (-80)], vm := .none },
  { cls := 21, slots := #[.int (-79)], vm := .none },
  { cls := 21, slots := #[.int (-78)], vm := .none },
  { cls := 21, slots := #[.int (-77)], vm := .none },
  { cls := 21, slots := #[.int (-76)], vm := .none },
  { cls := 21, slots := #[.int (-75)], vm := .none },
  { cls := 21, slots := #[.int (-74)], vm := .none },
  { cls := 21, slots := #[.int (-73)], vm := .none },
  { cls := 21, slots := #[.int (-72)], vm := .none },
  { cls := 21, slots := #[.int (-71)], vm := .none },
  { cls := 21, slots := #[.int (-70)], vm := .none },
  { cls := 21, slots := #[.int (-69)], vm := .none },
  { cls := 21, slots := #[.int (-68)], vm := .none },
  { cls := 21, slots := #[.int (-67)], vm := .none },
  { cls := 21, slots := #[.int (-66)], vm := .none },
  { cls := 21, slots := #[.int (-65)], vm := .none },
  { cls := 21, slots := #[.int (-64)], vm := .none },
  { cls := 21, slots := #[.int (-63)], vm := .none },
  { cls := 21, slots := #[.int (-62)], vm := .none },
  { cls := 21, slots := #[.int (-61)], vm := .none },
  { cls := 21, slots := #[.int (-60)], vm := .none },
  { cls := 21, slots := #[.int (-59)], vm := .none },
  { cls := 21, slots := #[.int (-58)], vm := .none },
  { cls := 21, slots := #[.int (-57)], vm := .none },
  { cls := 21, slots := #[.int (-56)], vm := .none },
  { cls := 21, slots := #[.int (-55)], vm := .none },
  { cls := 21, slots := #[.int (-54)], vm := .none },
  { cls := 21, slots := #[.int (-53)], vm := .none },
  { cls := 21, slots := #[.int (-52)], vm := .none },
  { cls := 21, slots := #[.int (-51)], vm := .none },
  { cls := 21, slots := #[.int (-50)], vm := .none },
  { cls := 21, slots := #[.int (-49)], vm := .none },
  { cls := 21, slots := #[.int (-48)], vm := .none },
  { cls := 21, slots := #[.int (-47)], vm := .none },
  { cls := 21, slots := #[.int (-46)], vm := .none },
  { cls := 21, slots := #[.int (-45)], vm := .none },
  { cls := 21, slots := #[.int (-44)], vm := .none },
  { cls := 21, slots := #[.int (-43)], vm := .none },
  { cls := 21, slots := #[.int (-42)], vm := .none },
  { cls := 21, slots := #[.int (-41)], vm := .none },
  { cls := 21, slots := #[.int (-40)], vm := .none },
  { cls := 21, slots := #[.int (-39)], vm := .none },
  { cls := 21, slots := #[.int (-38)], vm := .none },
  { cls := 21, slots := #[.int (-37)], vm := .none },
  { cls := 21, slots := #[.int (-36)], vm := .none },
  { cls := 21, slots := #[.int (-35)], vm := .none },
  { cls := 21, slots := #[.int (-34)], vm := .none },
  { cls := 21, slots := #[.int (-33)], vm := .none },
  { cls := 21, slots := #[.int (-32)], vm := .none },
  { cls := 21, slots := #[.int (-31)], vm := .none },
  { cls := 21, slots := #[.int (-30)], vm := .none },
  { cls := 21, slots := #[.int (-29)], vm := .none },
  { cls := 21, slots := #[.int (-28)], vm := .none },
  { cls := 21, slots := #[.int (-27)], vm := .none },
  { cls := 21, slots := #[.int (-26)], vm := .none },
  { cls := 21, slots := #[.int (-25)], vm := .none },
  { cls := 21, slots := #[.int (-24)], vm := .none },
  { cls := 21, slots := #[.int (-23)], vm := .none },
  { cls := 21, slots := #[.int (-22)], vm := .none },
  { cls := 21, slots := #[.int (-21)], vm := .none },
  { cls := 21, slots := #[.int (-20)], vm := .none },
  { cls := 21, slots := #[.int (-19)], vm := .none },
  { cls := 21, slots := #[.int (-18)], vm := .none },
  { cls := 21, slots := #[.int (-17)], vm := .none },
  { cls := 21, slots := #[.int (-16)], vm := .none },
  { cls := 21, slots := #[.int (-15)], vm := .none },
  { cls := 21, slots := #[.int (-14)], vm := .none },
  { cls := 21, slots := #[.int (-13)], vm := .none },
  { cls := 21, slots := #[.int (-12)], vm := .none },
  { cls := 21, slots := #[.int (-11)], vm := .none },
  { cls := 21, slots := #[.int (-10)], vm := .none },
  { cls := 21, slots := #[.int (-9)], vm := .none },
  { cls := 21, slots := #[.int (-8)], vm := .none },
  { cls := 21, slots := #[.int (-7)], vm := .none },
  { cls := 21, slots := #[.int (-6)], vm := .none },
  { cls := 21, slots := #[.int (-5)], vm := .none },
  { cls := 21, slots := #[.int (-4)], vm := .none },
  { cls := 21, slots := #[.int (-3)], vm := .none },
  { cls := 21, slots := #[.int (-2)], vm := .none },
  { cls := 21, slots := #[.int (-1)], vm := .none },
  { cls := 21, slots := #[.int 0], vm := .none },
  { cls := 21, slots := #[.int 1], vm := .none },
  { cls := 21, slots := #[.int 2], vm := .none },
  { cls := 21, slots := #[.int 3], vm := .none },
  { cls := 21, slots := #[.int 4], vm := .none },
  { cls := 21, slots := #[.int 5], vm := .none },
  { cls := 21, slots := #[.int 6], vm := .none },
  { cls := 21, slots := #[.int 7], vm := .none },
  { cls := 21, slots := #[.int 8], vm := .none },
  { cls := 21, slots := #[.int 9], vm := .none },
  { cls := 21, slots := #[.int 10], vm := .none },
  { cls := 21, slots := #[.int 11], vm := .none },
  { cls := 21, slots := #[.int 12], vm := .none },
  { cls := 21, slots := #[.int 13], vm := .none },
  { cls := 21, slots := #[.int 14], vm := .none },
  { cls := 21, slots := #[.int 15], vm := .none },
  { cls := 21, slots := #[.int 16], vm := .none },
  { cls := 21, slots := #[.int 17], vm := .none },
  { cls := 21, slots := #[.int 18], vm := .none },
  { cls := 21, slots := #[.int 19], vm := .none },
  { cls := 21, slots := #[.int 20], vm := .none },
  { cls := 21, slots := #[.int 21], vm := .none },
  { cls := 21, slots := #[.int 22], vm := .none },
  { cls := 21, slots := #[.int 23], vm := .none },
  { cls := 21, slots := #[.int 24], vm := .none },
  { cls := 21, slots := #[.int 25], vm := .none },
  { cls := 21, slots := #[.int 26], vm := .none },
  { cls := 21, slots := #[.int 27], vm := .none },
  { cls := 21, slots := #[.int 28], vm := .none },
  { cls := 21, slots := #[.int 29], vm := .none },
  { cls := 21, slots := #[.int 30], vm := .none },
  { cls := 21, slots := #[.int 31], vm := .none },
  { cls := 21, slots := #[.int 32], vm := .none },
  { cls := 21, slots := #[.int 33], vm := .none },
  { cls := 21, slots := #[.int 34], vm := .none },
  { cls := 21, slots := #[.int 35], vm := .none },
  { cls := 21, slots := #[.int 36], vm := .none },
  { cls := 21, slots := #[.int 37], vm := .none },
  { cls := 21, slots := #[.int 38], vm := .none },
  { cls := 21, slots := #[.int 39], vm := .none },
  { cls := 21, slots := #[.int 40], vm := .none },
  { cls := 21, slots := #[.int 41], vm := .none },
  { cls := 21, slots := #[.int 42], vm := .none },
  { cls := 21, slots := #[.int 43], vm := .none },
  { cls := 21, slots := #[.int 44], vm := .none },
  { cls := 21, slots := #[.int 45], vm := .none },
  { cls := 21, slots := #[.int 46], vm := .none },
  { cls := 21, slots := #[.int 47], vm := .none },
  { cls := 21, slots := #[.int 48], vm := .none },
  { cls := 21, slots := #[.int 49], vm := .none },
  { cls := 21, slots := #[.int 50], vm := .none },
  { cls := 21, slots := #[.int 51], vm := .none },
  { cls := 21, slots := #[.int 52], vm := .none },
  { cls := 21, slots := #[.int 53], vm := .none },
  { cls := 21, slots := #[.int 54], vm := .none },
  { cls := 21, slots := #[.int 55], vm := .none },
  { cls := 21, slots := #[.int 56], vm := .none },
  { cls := 21, slots := #[.int 57], vm := .none },
  { cls := 21, slots := #[.int 58], vm := .none },
  { cls := 21, slots := #[.int 59], vm := .none },
  { cls := 21, slots := #[.int 60], vm := .none },
  { cls := 21, slots := #[.int 61], vm := .none },
  { cls := 21, slots := #[.int 62], vm := .none },
  { cls := 21, slots := #[.int 63], vm := .none },
  { cls := 21, slots := #[.int 64], vm := .none },
  { cls := 21, slots := #[.int 65], vm := .none },
  { cls := 21, slots := #[.int 66], vm := .none },
  { cls := 21, slots := #[.int 67], vm := .none },
  { cls := 21, slots := #[.int 68], vm := .none },
  { cls := 21, slots := #[.int 69], vm := .none },
  { cls := 21, slots := #[.int 70], vm := .none },
  { cls := 21, slots := #[.int 71], vm := .none },
  { cls := 21, slots := #[.int 72], vm := .none },
  { cls := 21, slots := #[.int 73], vm := .none },
  { cls := 21, slots := #[.int 74], vm := .none },
  { cls := 21, slots := #[.int 75], vm := .none },
  { cls := 21, slots := #[.int 76], vm := .none },
  { cls := 21, slots := #[.int 77], vm := .none },
  { cls := 21, slots := #[.int 78], vm := .none },
  { cls := 21, slots := #[.int 79], vm := .none },
  { cls := 21, slots := #[.int 80], vm := .none },
  { cls := 21, slots := #[.int 81], vm := .none },
  { cls := 21, slots := #[.int 82], vm := .none },
  { cls := 21, slots := #[.int 83], vm := .none },
  { cls := 21, slots := #[.int 84], vm := .none },
  { cls := 21, slots := #[.int 85], vm := .none },
  { cls := 21, slots := #[.int 86], vm := .none },
  { cls := 21, slots := #[.int 87], vm := .none },
  { cls := 21, slots := #[.int 88], vm := .none },
  { cls := 21, slots := #[.int 89], vm := .none },
  { cls := 21, slots := #[.int 90], vm := .none },
  { cls := 21, slots := #[.int 91], vm := .none },
  { cls := 21, slots := #[.int 92], vm := .none },
  { cls := 21, slots := #[.int 93], vm := .none },
  { cls := 21, slots := #[.int 94], vm := .none },
  { cls := 21, slots := #[.int 95], vm := .none },
  { cls := 21, slots := #[.int 96], vm := .none },
  { cls := 21, slots := #[.int 97], vm := .none },
  { cls := 21, slots := #[.int 98], vm := .none },
  { cls := 21, slots := #[.int 99], vm := .none },
  { cls := 21, slots := #[.int 100], vm := .none },
  { cls := 21, slots := #[.int 101], vm := .none },
  { cls := 21, slots := #[.int 102], vm := .none },
  { cls := 21, slots := #[.int 103], vm := .none },
  { cls := 21, slots := #[.int 104], vm := .none },
  { cls := 21, slots := #[.int 105], vm := .none },
  { cls := 21, slots := #[.int 106], vm := .none },
  { cls := 21, slots := #[.int 107], vm := .none },
  { cls := 21, slots := #[.int 108], vm := .none },
  { cls := 21, slots := #[.int 109], vm := .none },
  { cls := 21, slots := #[.int 110], vm := .none },
  { cls := 21, slots := #[.int 111], vm := .none },
  { cls := 21, slots := #[.int 112], vm := .none },
  { cls := 21, slots := #[.int 113], vm := .none },
  { cls := 21, slots := #[.int 114], vm := .none },
  { cls := 21, slots := #[.int 115], vm := .none },
  { cls := 21, slots := #[.int 116], vm := .none },
  { cls := 21, slots := #[.int 117], vm := .none },
  { cls := 21, slots := #[.int 118], vm := .none },
  { cls := 21, slots := #[.int 119], vm := .none },
  { cls := 21, slots := #[.int 120], vm := .none },
  { cls := 21, slots := #[.int 121], vm := .none },
  { cls := 21, slots := #[.int 122], vm := .none },
  { cls := 21, slots := #[.int 123], vm := .none },
  { cls := 21, slots := #[.int 124], vm := .none },
  { cls := 21, slots := #[.int 125], vm := .none },
  { cls := 21, slots := #[.int 126], vm := .none },
  { cls := 21, slots := #[.int 127], vm := .none },
  { cls := 34, slots := #[], vm := .none },
  { cls := 34, slots := #[], vm := .none }]
def classes : Array Class := #[k0, k1, k2, k3, k4, k5, k6, k7, k8, k9, k10, k11, k12, k13, k14, k15, k16, k17, k18, k19, k20, k21, k22, k23, k24, k25, k26, k27, k28, k29, k30, k31, k32, k33, k34]
def interned : List (Array UInt16 × Addr) := []
def slotsUsed : Nat := 531
def theMethod : MethodId := ⟨1, 1⟩
def args0 : Array Value := #[.int 7, .int 1, .int 2, .int 3, .int 65, .int 66]
def aboutOver (below : List Frame) : State where
  vm := { classes := classes, interned := interned.toArray }
  heap := heap
  slotsUsed := slotsUsed
  threads := #[{ frames := .invoking theMethod args0 :: below }]
def below0 : List Frame := [.native { method := ⟨0, 0⟩, args := #[] }]
def about1 : State := aboutOver below0
def p0 : Program := .bare "" "" ""
def e0 : Env := launch0.env 0 0 0
theorem w_frames : about1.frames = Frame.invoking theMethod args0 :: below0 := rfl
set_option maxRecDepth 65536 in
theorem w_args : argsFit about1.vm theMethod args0 = true := by decide +kernel
set_option maxRecDepth 65536 in
theorem w_heap : heapFits about1 = true := by decide +kernel
set_option maxRecDepth 65536 in
theorem w_runnable : about1.curStatus? = some .runnable := by decide +kernel
set_option maxRecDepth 65536 in
theorem w_alone : about1.alone = true := by decide +kernel
set_option maxRecDepth 65536 in
theorem w_named : about1.methodNamed? x = some theMethod := by decide +kernel
set_option maxRecDepth 65536 in
theorem w_hears : about1.hears theMethod below0 = true := by decide +kernel
set_option maxRecDepth 65536 in
theorem w_ripe : about1.ripe theMethod args0 below0 = true := by decide +kernel
theorem w_running : about1.status = .running := rfl
set_option maxRecDepth 65536 in
theorem w_room : about1.hasRoom e0.platform room_1 = true :=
  launch0.hasRoom_least _ room_1 (by decide +kernel) (by decide +kernel) (by decide +kernel) (by decide +kernel) (by decide +kernel) (by decide +kernel)
theorem allAtoms_all (ts : List Jvm.Cond) (a : Array Jvm.Value) (st : Jvm.State) : (allAtoms ts).before a st = ts.all (fun c => c.before a st) := by
  induction ts with
  | nil => rfl
  | cons c t ih =>
    show (Jvm.Cond.and c (allAtoms t)).before a st = _
    rw [Jvm.Cond.before_and, ih, List.all_cons]
def words1 : List Jvm.Cond := Jvm.Cond.code x code maxLocals ret :: tables_1
/-- a 'code' word, met by the world's own term for the bytes: nothing is compared byte by byte -/
theorem code_word {y : MethodName} {bytes : ByteArray} {mx : Nat} {rt : Option FieldType} {a : Array Value} {s : State} {m : MethodId} {meth : Method} {c : Code} (h1 : s.methodNamed? y = some m) (h2 : s.vm.method? m = some meth) (h3 : meth.code = some c) (h4 : c.code = bytes)
    (h5 : (c.maxLocals == mx && c.exceptionTable.isEmpty && decide (c.maxStack ≤ mostOperands) && decide (meth.sig.returnType = rt) && !meth.locks && decide (parseMethodDescriptor y.desc = some meth.sig)) = true) : (Jvm.Cond.code y bytes mx rt).before a s = true := by
  simp only [Bool.and_eq_true, beq_iff_eq, Bool.not_eq_true', decide_eq_true_eq] at h5
  obtain ⟨⟨⟨⟨⟨g1, g2⟩, g3⟩, g4⟩, g5⟩, g6⟩ := h5
  simp [Cond.before, Cond.holds, Cond.value, h1, h2, h3, h4, g1, g2, g3, g4, g5, g6]
def isCode : Jvm.Cond → Bool
  | .code _ _ _ _ => true
  | _ => false
theorem all_split {L : List Jvm.Cond} {P : Jvm.Cond → Bool} (h1 : L.all (fun c => isCode c || P c) = true) (h2 : ∀ c ∈ L.filter isCode, P c = true) : L.all P = true := by
  refine List.all_eq_true.mpr fun c hc => ?_
  have h := List.all_eq_true.mp h1 c hc
  rcases Bool.eq_false_or_eq_true (isCode c) with hi | hi
  · exact h2 c (List.mem_filter.mpr ⟨hc, hi⟩)
  · simpa [hi] using h
set_option maxRecDepth 65536 in
theorem w_c0 : (Jvm.Cond.code x code maxLocals ret).before args0 about1 = true := code_word (m := ⟨1, 1⟩) (meth := k1m1) (c := k1c1) (by decide +kernel) rfl rfl rfl (by decide +kernel)
set_option maxRecDepth 65536 in
theorem w_c1 : (Jvm.Cond.code ({ cls := "java/util/ArrayList", name := "<init>", desc := "()V" } : Jvm.MethodName) jdk_38_method_2_code (1 : Nat) (Option.none : Option Jvm.ClassFile.FieldType)).before args0 about1 = true := code_word (m := ⟨11, 0⟩) (meth := k11m0) (c := k11c0) (by decide +kernel) rfl rfl rfl (by decide +kernel)
set_option maxRecDepth 65536 in
theorem w_c2 : (Jvm.Cond.code ({ cls := "java/util/AbstractList", name := "<init>", desc := "()V" } : Jvm.MethodName) jdk_39_method_1_code (1 : Nat) (Option.none : Option Jvm.ClassFile.FieldType)).before args0 about1 = true := code_word (m := ⟨7, 0⟩) (meth := k7m0) (c := k7c0) (by decide +kernel) rfl rfl rfl (by decide +kernel)
set_option maxRecDepth 65536 in
theorem w_c3 : (Jvm.Cond.code ({ cls := "java/util/AbstractCollection", name := "<init>", desc := "()V" } : Jvm.MethodName) jdk_22_method_1_code (1 : Nat) (Option.none : Option Jvm.ClassFile.FieldType)).before args0 about1 = true := code_word (m := ⟨4, 0⟩) (meth := k4m0) (c := k4c0) (by decide +kernel) rfl rfl rfl (by decide +kernel)
set_option maxRecDepth 65536 in
theorem w_c4 : (Jvm.Cond.code ({ cls := "java/lang/Object", name := "<init>", desc := "()V" } : Jvm.MethodName) object_method_1_code (1 : Nat) (Option.none : Option Jvm.ClassFile.FieldType)).before args0 about1 = true := code_word (m := ⟨0, 0⟩) (meth := k0m0) (c := k0c0) (by decide +kernel) rfl rfl rfl (by decide +kernel)
set_option maxRecDepth 65536 in
theorem w_c5 : (Jvm.Cond.code ({ cls := "java/lang/String", name := "valueOf", desc := "(C)Ljava/lang/String;" } : Jvm.MethodName) jdk_42_method_139_code (1 : Nat) (Option.some (Jvm.ClassFile.FieldType.object "java/lang/String"))).before args0 about1 = true := code_word (m := ⟨16, 2⟩) (meth := k16m2) (c := k16c2) (by decide +kernel) rfl rfl rfl (by decide +kernel)
set_option maxRecDepth 65536 in
theorem w_c6 : (Jvm.Cond.code ({ cls := "java/lang/StringLatin1", name := "canEncode", desc := "(C)Z" } : Jvm.MethodName) jdk_43_method_3_code (1 : Nat) (Option.some Jvm.ClassFile.FieldType.boolean)).before args0 about1 = true := code_word (m := ⟨17, 1⟩) (meth := k17m1) (c := k17c1) (by decide +kernel) rfl rfl rfl (by decide +kernel)
set_option maxRecDepth 65536 in
theorem w_c7 : (Jvm.Cond.code ({ cls := "java/lang/StringLatin1", name := "toBytes", desc := "(C)[B" } : Jvm.MethodName) jdk_43_method_46_code (1 : Nat) (Option.some (Jvm.ClassFile.FieldType.array Jvm.ClassFile.FieldType.byte))).before args0 about1 = true := code_word (m := ⟨17, 2⟩) (meth := k17m2) (c := k17c2) (by decide +kernel) rfl rfl rfl (by decide +kernel)
set_option maxRecDepth 65536 in
theorem w_c8 : (Jvm.Cond.code ({ cls := "java/lang/String", name := "<init>", desc := "([BB)V" } : Jvm.MethodName) jdk_42_method_151_code (3 : Nat) (Option.none : Option Jvm.ClassFile.FieldType)).before args0 about1 = true := code_word (m := ⟨16, 4⟩) (meth := k16m4) (c := k16c4) (by decide +kernel) rfl rfl rfl (by decide +kernel)
set_option maxRecDepth 65536 in
theorem w_c9 : (Jvm.Cond.code ({ cls := "com/example/slot1/slot1/balance/Options", name := "array", desc := "(Ljava/lang/Object;Ljava/lang/String;)Ljava/util/List;" } : Jvm.MethodName) prog_9_method_5_code (3 : Nat) (Option.some (Jvm.ClassFile.FieldType.object "java/util/List"))).before args0 about1 = true := code_word (m := ⟨18, 0⟩) (meth := k18m0) (c := k18c0) (by decide +kernel) rfl rfl rfl (by decide +kernel)
set_option maxRecDepth 65536 in
theorem w_c10 : (Jvm.Cond.code ({ cls := "java/util/ArrayList", name := "size", desc := "()I" } : Jvm.MethodName) jdk_38_method_8_code (1 : Nat) (Option.some Jvm.ClassFile.FieldType.int)).before args0 about1 = true := code_word (m := ⟨11, 3⟩) (meth := k11m3) (c := k11c3) (by decide +kernel) rfl rfl rfl (by decide +kernel)
set_option maxRecDepth 65536 in
theorem w_c11 : (Jvm.Cond.code ({ cls := "java/lang/String", name := "<init>", desc := "([C)V" } : Jvm.MethodName) jdk_42_method_3_code (2 : Nat) (Option.none : Option Jvm.ClassFile.FieldType)).before args0 about1 = true := code_word (m := ⟨16, 1⟩) (meth := k16m1) (c := k16c1) (by decide +kernel) rfl rfl rfl (by decide +kernel)
set_option maxRecDepth 65536 in
theorem w_c12 : (Jvm.Cond.code ({ cls := "java/lang/String", name := "<init>", desc := "([CIILjava/lang/Void;)V" } : Jvm.MethodName) jdk_42_method_149_code (6 : Nat) (Option.none : Option Jvm.ClassFile.FieldType)).before args0 about1 = true := code_word (m := ⟨16, 3⟩) (meth := k16m3) (c := k16c3) (by decide +kernel) rfl rfl rfl (by decide +kernel)
set_option maxRecDepth 65536 in
theorem w_c13 : (Jvm.Cond.code ({ cls := "java/lang/StringUTF16", name := "compress", desc := "([CII)[B" } : Jvm.MethodName) jdk_52_method_16_code (6 : Nat) (Option.some (Jvm.ClassFile.FieldType.array Jvm.ClassFile.FieldType.byte))).before args0 about1 = true := code_word (m := ⟨19, 2⟩) (meth := k19m2) (c := k19c2) (by decide +kernel) rfl rfl rfl (by decide +kernel)
set_option maxRecDepth 65536 in
theorem w_c14 : (Jvm.Cond.code ({ cls := "java/lang/StringUTF16", name := "compress", desc := "([CI[BII)I" } : Jvm.MethodName) jdk_52_method_21_code (7 : Nat) (Option.some Jvm.ClassFile.FieldType.int)).before args0 about1 = true := code_word (m := ⟨19, 3⟩) (meth := k19m3) (c := k19c3) (by decide +kernel) rfl rfl rfl (by decide +kernel)
set_option maxRecDepth 65536 in
theorem w_c15 : (Jvm.Cond.code ({ cls := "java/lang/StringUTF16", name := "coderFromArrayLen", desc := "([BI)B" } : Jvm.MethodName) jdk_52_method_15_code (2 : Nat) (Option.some Jvm.ClassFile.FieldType.byte)).before args0 about1 = true := code_word (m := ⟨19, 1⟩) (meth := k19m1) (c := k19c1) (by decide +kernel) rfl rfl rfl (by decide +kernel)
set_option maxRecDepth 65536 in
theorem w_c16 : (Jvm.Cond.code ({ cls := "java/lang/Integer", name := "valueOf", desc := "(I)Ljava/lang/Integer;" } : Jvm.MethodName) jdk_33_method_22_code (1 : Nat) (Option.some (Jvm.ClassFile.FieldType.object "java/lang/Integer"))).before args0 about1 = true := code_word (m := ⟨21, 0⟩) (meth := k21m0) (c := k21c0) (by decide +kernel) rfl rfl rfl (by decide +kernel)
set_option maxRecDepth 65536 in
theorem w_c17 : (Jvm.Cond.code ({ cls := "java/util/ArrayList", name := "add", desc := "(Ljava/lang/Object;)Z" } : Jvm.MethodName) jdk_38_method_25_code (2 : Nat) (Option.some Jvm.ClassFile.FieldType.boolean)).before args0 about1 = true := code_word (m := ⟨11, 7⟩) (meth := k11m7) (c := k11c7) (by decide +kernel) rfl rfl rfl (by decide +kernel)
set_option maxRecDepth 65536 in
theorem w_c18 : (Jvm.Cond.code ({ cls := "java/util/ArrayList", name := "add", desc := "(Ljava/lang/Object;[Ljava/lang/Object;I)V" } : Jvm.MethodName) jdk_38_method_24_code (4 : Nat) (Option.none : Option Jvm.ClassFile.FieldType)).before args0 about1 = true := code_word (m := ⟨11, 6⟩) (meth := k11m6) (c := k11c6) (by decide +kernel) rfl rfl rfl (by decide +kernel)
set_option maxRecDepth 65536 in
theorem w_c19 : (Jvm.Cond.code ({ cls := "java/util/ArrayList", name := "grow", desc := "()[Ljava/lang/Object;" } : Jvm.MethodName) jdk_38_method_7_code (1 : Nat) (Option.some (Jvm.ClassFile.FieldType.array (Jvm.ClassFile.FieldType.object "java/lang/Object")))).before args0 about1 = true := code_word (m := ⟨11, 2⟩) (meth := k11m2) (c := k11c2) (by decide +kernel) rfl rfl rfl (by decide +kernel)
set_option maxRecDepth 65536 in
theorem w_c20 : (Jvm.Cond.code ({ cls := "java/util/ArrayList", name := "grow", desc := "(I)[Ljava/lang/Object;" } : Jvm.MethodName) jdk_38_method_6_code (4 : Nat) (Option.some (Jvm.ClassFile.FieldType.array (Jvm.ClassFile.FieldType.object "java/lang/Object")))).before args0 about1 = true := code_word (m := ⟨11, 1⟩) (meth := k11m1) (c := k11c1) (by decide +kernel) rfl rfl rfl (by decide +kernel)
set_option maxRecDepth 65536 in
theorem w_c21 : (Jvm.Cond.code ({ cls := "java/lang/Math", name := "max", desc := "(II)I" } : Jvm.MethodName) jdk_29_method_65_code (2 : Nat) (Option.some Jvm.ClassFile.FieldType.int)).before args0 about1 = true := code_word (m := ⟨23, 1⟩) (meth := k23m1) (c := k23c1) (by decide +kernel) rfl rfl rfl (by decide +kernel)
set_option maxRecDepth 65536 in
theorem w_c22 : (Jvm.Cond.code ({ cls := "java/util/ArrayList", name := "get", desc := "(I)Ljava/lang/Object;" } : Jvm.MethodName) jdk_38_method_20_code (2 : Nat) (Option.some (Jvm.ClassFile.FieldType.object "java/lang/Object"))).before args0 about1 = true := code_word (m := ⟨11, 5⟩) (meth := k11m5) (c := k11c5) (by decide +kernel) rfl rfl rfl (by decide +kernel)
set_option maxRecDepth 65536 in
theorem w_c23 : (Jvm.Cond.code ({ cls := "java/util/Objects", name := "checkIndex", desc := "(II)I" } : Jvm.MethodName) jdk_31_method_17_code (2 : Nat) (Option.some Jvm.ClassFile.FieldType.int)).before args0 about1 = true := code_word (m := ⟨24, 1⟩) (meth := k24m1) (c := k24c1) (by decide +kernel) rfl rfl rfl (by decide +kernel)
set_option maxRecDepth 65536 in
theorem w_c24 : (Jvm.Cond.code ({ cls := "jdk/internal/util/Preconditions", name := "checkIndex", desc := "(IILjava/util/function/BiFunction;)I" } : Jvm.MethodName) jdk_41_method_11_code (3 : Nat) (Option.some Jvm.ClassFile.FieldType.int)).before args0 about1 = true := code_word (m := ⟨25, 1⟩) (meth := k25m1) (c := k25c1) (by decide +kernel) rfl rfl rfl (by decide +kernel)
set_option maxRecDepth 65536 in
theorem w_c25 : (Jvm.Cond.code ({ cls := "java/util/ArrayList", name := "elementData", desc := "(I)Ljava/lang/Object;" } : Jvm.MethodName) jdk_38_method_18_code (2 : Nat) (Option.some (Jvm.ClassFile.FieldType.object "java/lang/Object"))).before args0 about1 = true := code_word (m := ⟨11, 4⟩) (meth := k11m4) (c := k11c4) (by decide +kernel) rfl rfl rfl (by decide +kernel)
set_option maxRecDepth 65536 in
theorem w_c26 : (Jvm.Cond.code ({ cls := "java/lang/Integer", name := "intValue", desc := "()I" } : Jvm.MethodName) jdk_33_method_27_code (1 : Nat) (Option.some Jvm.ClassFile.FieldType.int)).before args0 about1 = true := code_word (m := ⟨21, 2⟩) (meth := k21m2) (c := k21c2) (by decide +kernel) rfl rfl rfl (by decide +kernel)
set_option maxRecDepth 65536 in
theorem w_c27 : (Jvm.Cond.code ({ cls := "java/lang/Integer", name := "<init>", desc := "(I)V" } : Jvm.MethodName) jdk_33_method_23_code (2 : Nat) (Option.none : Option Jvm.ClassFile.FieldType)).before args0 about1 = true := code_word (m := ⟨21, 1⟩) (meth := k21m1) (c := k21c1) (by decide +kernel) rfl rfl rfl (by decide +kernel)
set_option maxRecDepth 65536 in
theorem w_c28 : (Jvm.Cond.code ({ cls := "java/lang/Number", name := "<init>", desc := "()V" } : Jvm.MethodName) jdk_18_method_1_code (1 : Nat) (Option.none : Option Jvm.ClassFile.FieldType)).before args0 about1 = true := code_word (m := ⟨20, 0⟩) (meth := k20m0) (c := k20c0) (by decide +kernel) rfl rfl rfl (by decide +kernel)
def codes1 : List Jvm.Cond := [Jvm.Cond.code x code maxLocals ret, Jvm.Cond.code ({ cls := "java/util/ArrayList", name := "<init>", desc := "()V" } : Jvm.MethodName) jdk_38_method_2_code (1 : Nat) (Option.none : Option Jvm.ClassFile.FieldType), Jvm.Cond.code ({ cls := "java/util/AbstractList", name := "<init>", desc := "()V" } : Jvm.MethodName) jdk_39_method_1_code (1 : Nat) (Option.none : Option Jvm.ClassFile.FieldType), Jvm.Cond.code ({ cls := "java/util/AbstractCollection", name := "<init>", desc := "()V" } : Jvm.MethodName) jdk_22_method_1_code (1 : Nat) (Option.none : Option Jvm.ClassFile.FieldType), Jvm.Cond.code ({ cls := "java/lang/Object", name := "<init>", desc := "()V" } : Jvm.MethodName) object_method_1_code (1 : Nat) (Option.none : Option Jvm.ClassFile.FieldType), Jvm.Cond.code ({ cls := "java/lang/String", name := "valueOf", desc := "(C)Ljava/lang/String;" } : Jvm.MethodName) jdk_42_method_139_code (1 : Nat) (Option.some (Jvm.ClassFile.FieldType.object "java/lang/String")), Jvm.Cond.code ({ cls := "java/lang/StringLatin1", name := "canEncode", desc := "(C)Z" } : Jvm.MethodName) jdk_43_method_3_code (1 : Nat) (Option.some Jvm.ClassFile.FieldType.boolean), Jvm.Cond.code ({ cls := "java/lang/StringLatin1", name := "toBytes", desc := "(C)[B" } : Jvm.MethodName) jdk_43_method_46_code (1 : Nat) (Option.some (Jvm.ClassFile.FieldType.array Jvm.ClassFile.FieldType.byte)), Jvm.Cond.code ({ cls := "java/lang/String", name := "<init>", desc := "([BB)V" } : Jvm.MethodName) jdk_42_method_151_code (3 : Nat) (Option.none : Option Jvm.ClassFile.FieldType), Jvm.Cond.code ({ cls := "com/example/slot1/slot1/balance/Options", name := "array", desc := "(Ljava/lang/Object;Ljava/lang/String;)Ljava/util/List;" } : Jvm.MethodName) prog_9_method_5_code (3 : Nat) (Option.some (Jvm.ClassFile.FieldType.object "java/util/List")), Jvm.Cond.code ({ cls := "java/util/ArrayList", name := "size", desc := "()I" } : Jvm.MethodName) jdk_38_method_8_code (1 : Nat) (Option.some Jvm.ClassFile.FieldType.int), Jvm.Cond.code ({ cls := "java/lang/String", name := "<init>", desc := "([C)V" } : Jvm.MethodName) jdk_42_method_3_code (2 : Nat) (Option.none : Option Jvm.ClassFile.FieldType), Jvm.Cond.code ({ cls := "java/lang/String", name := "<init>", desc := "([CIILjava/lang/Void;)V" } : Jvm.MethodName) jdk_42_method_149_code (6 : Nat) (Option.none : Option Jvm.ClassFile.FieldType), Jvm.Cond.code ({ cls := "java/lang/StringUTF16", name := "compress", desc := "([CII)[B" } : Jvm.MethodName) jdk_52_method_16_code (6 : Nat) (Option.some (Jvm.ClassFile.FieldType.array Jvm.ClassFile.FieldType.byte)), Jvm.Cond.code ({ cls := "java/lang/StringUTF16", name := "compress", desc := "([CI[BII)I" } : Jvm.MethodName) jdk_52_method_21_code (7 : Nat) (Option.some Jvm.ClassFile.FieldType.int), Jvm.Cond.code ({ cls := "java/lang/StringUTF16", name := "coderFromArrayLen", desc := "([BI)B" } : Jvm.MethodName) jdk_52_method_15_code (2 : Nat) (Option.some Jvm.ClassFile.FieldType.byte), Jvm.Cond.code ({ cls := "java/lang/Integer", name := "valueOf", desc := "(I)Ljava/lang/Integer;" } : Jvm.MethodName) jdk_33_method_22_code (1 : Nat) (Option.some (Jvm.ClassFile.FieldType.object "java/lang/Integer")), Jvm.Cond.code ({ cls := "java/util/ArrayList", name := "add", desc := "(Ljava/lang/Object;)Z" } : Jvm.MethodName) jdk_38_method_25_code (2 : Nat) (Option.some Jvm.ClassFile.FieldType.boolean), Jvm.Cond.code ({ cls := "java/util/ArrayList", name := "add", desc := "(Ljava/lang/Object;[Ljava/lang/Object;I)V" } : Jvm.MethodName) jdk_38_method_24_code (4 : Nat) (Option.none : Option Jvm.ClassFile.FieldType), Jvm.Cond.code ({ cls := "java/util/ArrayList", name := "grow", desc := "()[Ljava/lang/Object;" } : Jvm.MethodName) jdk_38_method_7_code (1 : Nat) (Option.some (Jvm.ClassFile.FieldType.array (Jvm.ClassFile.FieldType.object "java/lang/Object"))), Jvm.Cond.code ({ cls := "java/util/ArrayList", name := "grow", desc := "(I)[Ljava/lang/Object;" } : Jvm.MethodName) jdk_38_method_6_code (4 : Nat) (Option.some (Jvm.ClassFile.FieldType.array (Jvm.ClassFile.FieldType.object "java/lang/Object"))), Jvm.Cond.code ({ cls := "java/lang/Math", name := "max", desc := "(II)I" } : Jvm.MethodName) jdk_29_method_65_code (2 : Nat) (Option.some Jvm.ClassFile.FieldType.int), Jvm.Cond.code ({ cls := "java/util/ArrayList", name := "get", desc := "(I)Ljava/lang/Object;" } : Jvm.MethodName) jdk_38_method_20_code (2 : Nat) (Option.some (Jvm.ClassFile.FieldType.object "java/lang/Object")), Jvm.Cond.code ({ cls := "java/util/Objects", name := "checkIndex", desc := "(II)I" } : Jvm.MethodName) jdk_31_method_17_code (2 : Nat) (Option.some Jvm.ClassFile.FieldType.int), Jvm.Cond.code ({ cls := "jdk/internal/util/Preconditions", name := "checkIndex", desc := "(IILjava/util/function/BiFunction;)I" } : Jvm.MethodName) jdk_41_method_11_code (3 : Nat) (Option.some Jvm.ClassFile.FieldType.int), Jvm.Cond.code ({ cls := "java/util/ArrayList", name := "elementData", desc := "(I)Ljava/lang/Object;" } : Jvm.MethodName) jdk_38_method_18_code (2 : Nat) (Option.some (Jvm.ClassFile.FieldType.object "java/lang/Object")), Jvm.Cond.code ({ cls := "java/lang/Integer", name := "intValue", desc := "()I" } : Jvm.MethodName) jdk_33_method_27_code (1 : Nat) (Option.some Jvm.ClassFile.FieldType.int), Jvm.Cond.code ({ cls := "java/lang/Integer", name := "<init>", desc := "(I)V" } : Jvm.MethodName) jdk_33_method_23_code (2 : Nat) (Option.none : Option Jvm.ClassFile.FieldType), Jvm.Cond.code ({ cls := "java/lang/Number", name := "<init>", desc := "()V" } : Jvm.MethodName) jdk_18_method_1_code (1 : Nat) (Option.none : Option Jvm.ClassFile.FieldType)]
set_option maxRecDepth 65536 in
theorem codes_eq : words1.filter isCode = codes1 := rfl
theorem w_codes : ∀ c ∈ words1.filter isCode, c.before args0 about1 = true := by
  rw [codes_eq]
  intro c hc
  simp only [codes1, List.mem_cons, List.not_mem_nil, or_false] at hc
  rcases hc with rfl | rfl | rfl | rfl | rfl | rfl | rfl | rfl | rfl | rfl | rfl | rfl | rfl | rfl | rfl | rfl | rfl | rfl | rfl | rfl | rfl | rfl | rfl | rfl | rfl | rfl | rfl | rfl | rfl
  · exact w_c0
  · exact w_c1
  · exact w_c2
  · exact w_c3
  · exact w_c4
  · exact w_c5
  · exact w_c6
  · exact w_c7
  · exact w_c8
  · exact w_c9
  · exact w_c10
  · exact w_c11
  · exact w_c12
  · exact w_c13
  · exact w_c14
  · exact w_c15
  · exact w_c16
  · exact w_c17
  · exact w_c18
  · exact w_c19
  · exact w_c20
  · exact w_c21
  · exact w_c22
  · exact w_c23
  · exact w_c24
  · exact w_c25
  · exact w_c26
  · exact w_c27
  · exact w_c28
set_option maxRecDepth 65536 in
theorem w_t1 : (words1.take 24).all (fun c => isCode c || c.before args0 about1) = true := by decide +kernel
set_option maxRecDepth 65536 in
theorem w_t2 : ((words1.drop 24).take 24).all (fun c => isCode c || c.before args0 about1) = true := by decide +kernel
set_option maxRecDepth 65536 in
theorem w_t3 : (((words1.drop 24).drop 24).take 24).all (fun c => isCode c || c.before args0 about1) = true := by decide +kernel
set_option maxRecDepth 65536 in
theorem w_t4 : ((((words1.drop 24).drop 24).drop 24).take 24).all (fun c => isCode c || c.before args0 about1) = true := by decide +kernel
set_option maxRecDepth 65536 in
theorem w_t5 : (((((words1.drop 24).drop 24).drop 24).drop 24).take 24).all (fun c => isCode c || c.before args0 about1) = true := by decide +kernel
set_option maxRecDepth 65536 in
theorem w_t6 : ((((((words1.drop 24).drop 24).drop 24).drop 24).drop 24).take 24).all (fun c => isCode c || c.before args0 about1) = true := by decide +kernel
set_option maxRecDepth 65536 in
theorem w_t7 : ((((((words1.drop 24).drop 24).drop 24).drop 24).drop 24).drop 24).all (fun c => isCode c || c.before args0 about1) = true := by decide +kernel
theorem w_tables : (allAtoms (Jvm.Cond.code x code maxLocals ret :: tables_1)).before args0 about1 = true := by
  rw [allAtoms_all]
  show words1.all (fun c => c.before args0 about1) = true
  refine all_split ?_ w_codes
  rw [← List.take_append_drop 24 words1, List.all_append, w_t1, ← List.take_append_drop 24 (words1.drop 24), List.all_append, w_t2, ← List.take_append_drop 24 ((words1.drop 24).drop 24), List.all_append, w_t3, ← List.take_append_drop 24 (((words1.drop 24).drop 24).drop 24), List.all_append, w_t4, ← List.take_append_drop 24 ((((words1.drop 24).drop 24).drop 24).drop 24), List.all_append, w_t5, ← List.take_append_drop 24 (((((words1.drop 24).drop 24).drop 24).drop 24).drop 24), List.all_append, w_t6, w_t7]
  rfl
set_option maxRecDepth 65536 in
theorem w_rest : rest_1_c.before args0 about1 = true := by decide +kernel
set_option maxRecDepth 65536 in
theorem w_case : (Jvm.Cond.and given_1 narrow_1).before args0 about1 = true := by decide +kernel
theorem w_applies : (headSpec (Jvm.Cond.code x code maxLocals ret :: tables_1) room_1).applies x e0.platform about1 = true :=
  (Spec.applies_iff w_frames).mpr ⟨w_running, w_runnable, w_alone, w_named, w_hears, w_ripe, w_room, w_tables⟩
theorem atStart : AtStart classFile x code maxLocals ret World_1 tables_1 room_1 Calls_1 rest_1 Pre_1 launch0 p0 e0 about1 theMethod args0 below0 :=
  ⟨lists_1, trivial, launch0.admits_env _ _ _, launch0.least_env, fairChoices_fair.cas, fairChoices_fair.clock, w_frames, w_args, w_heap, w_applies, trivial, w_rest, w_case⟩
end start1
theorem witness_1 : WitnessClaimed_1 := ⟨start1.p0, start1.e0, start1.about1, start1.theMethod, start1.args0, start1.below0, start1.atStart⟩
end Jvm.Pilot.@@N@@
