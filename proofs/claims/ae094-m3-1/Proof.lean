import JvmDerived
import JvmDerived.Pilot.@@N@@Statement
import JvmDerived.Pilot.@@N@@Code
set_option linter.unusedVariables false
set_option linter.unusedSimpArgs false
namespace Jvm.Pilot.@@N@@
open Jvm Jvm.ClassFile Sem Op Lib Jvm.Free Jvm.Stand Jvm.LawKit Jvm.RoadKit Bundle Jvm.Pilot.@@N@@.Jvm.D
/-- from the state A the body comes to its end as Q says -/
def own_Fin (tb : Tables) (e : Env) (below : List Frame) (s : State) (Q : Option Value → Heap → List Loc → Prop) (kc ks : Nat) (A : State) : Prop :=
  ∃ s₂ o, Steps tb e below A s₂ ∧ s₂.status = .running ∧ Ended s₂ below o ∧ ∃ v L, o = .returned v ∧ Q v s₂.heap L ∧ FrameEnd s o s₂ L kc ks
theorem own_G (tb : Tables) (e : Env) (below : List Frame) (s : State) (Q : Option Value → Heap → List Loc → Prop) (kc ks : Nat) :
    ∃ G : State → Prop, (∀ {A B : State}, (∀ t, Steps tb e below B t → Steps tb e below A t) → G B → G A) ∧ (∀ A, own_Fin tb e below s Q kc ks A → G A) ∧ (∀ A, G A → own_Fin tb e below s Q kc ks A) :=
  ⟨own_Fin tb e below s Q kc ks, fun h k => by obtain ⟨s₂, o, h1, r⟩ := k; exact ⟨s₂, o, h _ h1, r⟩, fun _ h => h, fun _ h => h⟩
theorem own_ret {p : Program} {l : Launch} {e : Env} {R : Room} {s : State} {m : MethodId} {args : Array Value} {below : List Frame} {meth : Method} {c : Code} {T : State} {locs : List Loc} {cells slots : Nat} {Q : Option Value → Heap → List Loc → Prop} {kc ks : Nat} {A : State} {v : Option Value}
    (X : Stand p l e R s m args below meth c T locs cells slots) (hlk : meth.locks = false) (hv : meth.sig.returnType = none → v = none) (hQ : Q v T.heap locs) (hc : cells ≤ kc) (hs : slots ≤ ks)
    (st : ∀ fs, (∀ (f : JFrame) (acts : List Action), f.method = m → f.locked = none → f.entered = [] → (doReturn e (T.setTop f) acts v).1 = T.setFrames fs) → Steps p.tables e below A (T.setFrames fs)) : own_Fin p.tables e below s Q kc ks A := by
  obtain ⟨fs, hr, hrun, hended, hW, hsame⟩ := X.leave hv hlk
  exact ⟨_, _, st fs hr, hrun, hended, _, _, rfl, hQ, ⟨_, rfl⟩, hW, hsame.mono hc hs⟩
theorem own_old {Z : State} {n0 : Nat} {h : Heap} (O : Old Z n0 h) : n0 ≤ h.size := O.1 ▸ O.2.1
theorem own_cat {v : Value} (h : v.isRef = true) : v.category = 1 := by rcases ref_cases h with rfl | ⟨a, rfl⟩ <;> rfl
theorem own_mvM {Z s : State} {a0 args : Array Value} {own host : String} {index : Nat} {y : MethodName} (hZ : Z.Warmed39 s.vm) (w : (Jvm.Cond.methodLinkNest own index y host).before a0 Z = true) : (Jvm.Cond.methodLinkNest own index y host).before args s = true := (Cond.methodLinkNest_wide hZ w :)
theorem own_ne_arv {Z : State} {h : Heap} {a b : Addr} {C : String} {a0 : Array Value} {n : Nat} {k : ClassId} {ty : FieldType} {z : Int32} {vs : List Value} {d : Value} (E : Exa Z h a C) (wi : (Jvm.Cond.instantiable C n).before a0 Z = true) (A : Arv Z h b k ty z vs d) : a ≠ b := by
  obtain ⟨c, A, -⟩ := A
  exact ne_arr E wi A
theorem own_narB (x : Int32) : nar .byte x.toInt8.toInt32 = x.toInt8.toInt32 := by
  refine Int32.toInt_inj.mp ?_
  have h1 := c_i2b x
  have h2 := c_i2b x.toInt8.toInt32
  show (x.toInt8.toInt32.toInt8.toInt32).toInt = _
  omega
theorem own_narC (x : Int32) : nar .char x.toUInt32.toUInt16.toUInt32.toInt32 = x.toUInt32.toUInt16.toUInt32.toInt32 := by
  refine Int32.toInt_inj.mp ?_
  have h1 := c_i2c x
  have h2 := c_i2c x.toUInt32.toUInt16.toUInt32.toInt32
  show (x.toUInt32.toUInt16.toUInt32.toInt32.toUInt32.toUInt16.toUInt32.toInt32).toInt = _
  omega
theorem own_exa {s : State} {args : Array Value} {t : Term} {K : String} (h : (Jvm.Cond.exactly t K).value args s none s [] = some true) : ∃ a, t.eval args s none [] s = some (.ref a) ∧ Exa s s.heap a K := by
  obtain ⟨a, c', cell, k, e1, e2, e3, e4, e5, e6, e7⟩ := Cond.exactly_spec (Cond.before_iff.mpr h)
  exact ⟨a, e1, Exa.start e1 h⟩
theorem own_fint {s : State} {args : Array Value} {t : Term} {C n d : String} {a : Addr} {k : Int32} (ht : t.eval args s none [] s = some (.ref a)) (h : (Jvm.Cond.eq (.field t C n d) (.int k)).value args s none s [] = some true) : Fld s s.heap a C n d (.int k) := by
  refine Fld.start ?_
  rw [← fld_at ht]
  have hk : (Term.int k).eval args s none [] s = some (.int k) := rfl
  cases q : (Term.field t C n d).eval args s none [] s with
  | none => simp [Cond.value, q] at h
  | some v => cases v <;> simp [Cond.value, q, hk] at h; rw [h]
theorem own_flong {s : State} {args : Array Value} {t : Term} {C n d : String} {a : Addr} {k : Int64} (ht : t.eval args s none [] s = some (.ref a)) (h : (Jvm.Cond.eq (.field t C n d) (.long k)).value args s none s [] = some true) : Fld s s.heap a C n d (.long k) := by
  refine Fld.start ?_
  rw [← fld_at ht]
  have hk : (Term.long k).eval args s none [] s = some (.long k) := rfl
  cases q : (Term.field t C n d).eval args s none [] s with
  | none => simp [Cond.value, q] at h
  | some v => cases v <;> simp [Cond.value, q, hk] at h; rw [h]
theorem own_cache_in {n : Int32} {c : Cell} (h1 : ¬ (n < (-128 : Int32))) (h2 : ¬ ((127 : Int32) < n)) (hs : c.slots.size = (256 : Int32).toNatClampNeg) : ¬ ((n + (128 : Int32)) < 0 ∨ c.slots.size ≤ (n + (128 : Int32)).toNatClampNeg) := by
  have q := c_iadd n 128
  have r := rng32 n
  have r2 := rng32 (n + 128)
  rw [Int32.lt_iff_toInt_lt] at h1 h2
  have e1 : (-128 : Int32).toInt = -128 := by decide
  have e2 : (127 : Int32).toInt = 127 := by decide
  have e3 : (128 : Int32).toInt = 128 := by decide
  have e4 : (0 : Int32).toInt = 0 := by decide
  have e5 : (256 : Int32).toInt = 256 := by decide
  refine inb_of hs ⟨?_, ?_⟩
  · rw [Int32.lt_iff_toInt_lt]; omega
  · rw [Int32.lt_iff_toInt_lt]; omega
theorem own_cache {s : State} {args : Array Value} {t : Term} (et : ∀ idx idx', t.eval args s none idx s = t.eval args s none idx' s) (h4 : (Jvm.Cond.arrayOf t (.object "java/lang/Integer")).value args s none s [] = some true) (h6 : (Jvm.Cond.eq (.length t) (.int 256)).value args s none s [] = some true)
    (h7 : (Jvm.Cond.all t (.and (.exactly (.elem t (.index 0)) "java/lang/Integer") (.eq (.field (.elem t (.index 0)) "java/lang/Integer" "value" "I") (.sub (.index 0) (.int 128))))).value args s none s [] = some true) :
    ∃ (a : Addr) (c : Cell), t.eval args s none [] s = some (.ref a) ∧ Bxs s a c "java/lang/Integer" "I" (256 : Int32) (fun j => Value.int (j - (128 : Int32))) := by
  have e6 := eqv_i (Term.int_eval 256) h6
  obtain ⟨a, cell, ea, hat, -⟩ := Term.length_spec e6
  obtain ⟨c, A⟩ := Arr.start ea h4
  have hc := A.fin (Vm.Alike.refl _)
  have hl : c.slots.size < 2 ^ 31 := by
    rcases Nat.lt_or_ge c.slots.size (2 ^ 31) with q | q
    · exact q
    · simp [Term.eval, ea, hc, Nat.not_lt.mpr q] at e6
  have e8 := (len_f ea hc hl).symm.trans e6
  have e9 : c.slots.size.toInt32 = (256 : Int32) := by simpa using e8
  refine ⟨a, c, ea, Bxs.start (fun idx => (et idx []).trans ea) A hl e9 (by decide) h7 (fun X j hj hx => ?_)⟩
  refine eqv_i ?_ hx
  have q := idx_at (args := args) (s := s) (first := s) (o := none) hj
  simp [Term.eval] at q ⊢
  simp [q]
theorem ef_0 (m : MethodId) (x0 : Addr)  : entryFrame m #[(.ref x0)] 1 = mkF m 0 #[.val (.ref x0)] [] := by first | (simp [entryFrame, mkF, argsToLocals, Value.category]; done) | rfl
theorem pn_0 : plainName "java/lang/Record" = true := by first | (simp [plainName, overriddenIn]; done) | decide +kernel
theorem d3_0 : decode jdk_30_method_1_code 0 = .ok (.aload_n 0, 1) := by decide +kernel
theorem d3_1 : decode jdk_30_method_1_code 1 = .ok (.invokespecial 1, 3) := by decide +kernel
theorem d3_4 : decode jdk_30_method_1_code 4 = .ok (.return_, 1) := by decide +kernel
def Q_rec (Z : State) (a : Addr) (h0 : Heap) (n0 : Nat) (v : Option Value) (h : Heap) (L : List Loc) : Prop := v = none ∧ Fr n0 L ∧ h = h0
set_option maxRecDepth 65536 in
set_option maxHeartbeats 40000000 in
theorem rm_rec (l : Launch) (Z : State) (a0 : Array Value) (hw : ∀ d ∈ tables_1, d.before a0 Z = true) (ws : List Jvm.Cond) (a : Addr) (h0 : Heap) (n0 : Nat) (O0 : Old Z n0 h0)  :
    MetFree l (⟨"java/lang/Record", "<init>", "()V"⟩ : MethodName) (head1 (Jvm.Cond.code (⟨"java/lang/Record", "<init>", "()V"⟩ : MethodName) jdk_30_method_1_code 1 none :: ws) ({ frames := 1, cells := 0, slots := 0, locals := 12 } : Room)) (fun aV U => aV = #[(.ref a)] ∧ Z.Warmed39 U.vm ∧ U.heap = h0) (fun _ _ _ _ _ => True) (fun _ U o U' => ∃ v L, o = .returned v ∧ Q_rec Z a h0 n0 v U'.heap L ∧ FrameEnd U o U' L ({ frames := 1, cells := 0, slots := 0, locals := 12 } : Room).cells ({ frames := 1, cells := 0, slots := 0, locals := 12 } : Room).slots) := by
  refine MetFree.of_bodySF (plainFor_of_name pn_0) hisR ?_
  intro p e s m args below meth c s₁ Bd hml0 hP hK
  obtain ⟨rfl, hZ, hh⟩ := hP
  have hx := Bd.exec
  have hby := Bd.bytes
  have hml : c.maxLocals = 1 := hml0
  have hown : s.vm.findClass "java/lang/Record" = some m.cls := findClass_of_methodNamed Bd.named
  have hnm := (name_of_methodNamed Bd.named Bd.method).1
  have X0 : Stand p l e ({ frames := 1, cells := 0, slots := 0, locals := 12 } : Room) s m #[(.ref a)] below meth c s₁ [] 0 0 := Stand.of_body Bd
  have e0 : s₁.heap = h0 := by rw [← hh, Bd.state]; rfl
  have N0 := Fr.nil n0
  have K0 := Keep.refl h0 []
  obtain ⟨G, gv, gf, gb⟩ := own_G p.tables e below s (Q_rec Z a h0 n0) ({ frames := 1, cells := 0, slots := 0, locals := 12 } : Room).cells ({ frames := 1, cells := 0, slots := 0, locals := 12 } : Room).slots
  show own_Fin p.tables e below s (Q_rec Z a h0 n0) ({ frames := 1, cells := 0, slots := 0, locals := 12 } : Room).cells ({ frames := 1, cells := 0, slots := 0, locals := 12 } : Room).slots (s₁.setTop (entryFrame m #[(.ref a)] 1))
  refine gb _ (gv (fun t k => castTop (ef_0 m a) k) ?_)
  show G (s₁.setTop (mkF m 0 #[.val (.ref a)] []))
  refine gv (fun t k => XS.aloadN X0.here hx rfl (hb hby d3_0) rfl rfl k) ?_
  show G (s₁.setTop (mkF m 1 #[.val (.ref a)] [(.ref a)]))
  obtain ⟨T1, X1, e1, st1⟩ := initO X0 hx hZ hown (hw _ (List.mem_of_getElem? (i := 14) rfl)) (hw _ (List.mem_of_getElem? (i := 15) rfl)) (hw _ (List.mem_of_getElem? (i := 16) rfl)) e0 (g := (mkF m 1 #[.val (.ref a)] [(.ref a)])) rfl (by rw [hml]; rfl) rfl (hb hby d3_1) (by decide) (W := 0) (by show 2 * 0 + _ ≤ _; exact Nat.le_of_eq rfl) (by decide)
  refine gv st1 ?_
  show G (T1.setTop (mkF m 4 #[.val (.ref a)] []))
  refine gf _ (own_ret X1 Bd.notSynchronized (v := none) (fun _ => rfl) ?_ (by decide) (by decide) (fun fs hr => X1.returnOut hx Bd.returns (hb hby d3_4) hr))
  show Q_rec Z a h0 n0 _ T1.heap _
  rw [e1]
  exact ⟨rfl, N0, rfl⟩
theorem pn_1 : plainName "java/lang/Number" = true := by first | (simp [plainName, overriddenIn]; done) | decide +kernel
theorem d11_0 : decode jdk_18_method_1_code 0 = .ok (.aload_n 0, 1) := by decide +kernel
theorem d11_1 : decode jdk_18_method_1_code 1 = .ok (.invokespecial 1, 3) := by decide +kernel
theorem d11_4 : decode jdk_18_method_1_code 4 = .ok (.return_, 1) := by decide +kernel
def Q_num (Z : State) (a : Addr) (h0 : Heap) (n0 : Nat) (v : Option Value) (h : Heap) (L : List Loc) : Prop := v = none ∧ Fr n0 L ∧ h = h0
set_option maxRecDepth 65536 in
set_option maxHeartbeats 40000000 in
theorem rm_num (l : Launch) (Z : State) (a0 : Array Value) (hw : ∀ d ∈ tables_1, d.before a0 Z = true) (ws : List Jvm.Cond) (a : Addr) (h0 : Heap) (n0 : Nat) (O0 : Old Z n0 h0)  :
    MetFree l (⟨"java/lang/Number", "<init>", "()V"⟩ : MethodName) (head1 (Jvm.Cond.code (⟨"java/lang/Number", "<init>", "()V"⟩ : MethodName) jdk_18_method_1_code 1 none :: ws) ({ frames := 1, cells := 0, slots := 0, locals := 12 } : Room)) (fun aV U => aV = #[(.ref a)] ∧ Z.Warmed39 U.vm ∧ U.heap = h0) (fun _ _ _ _ _ => True) (fun _ U o U' => ∃ v L, o = .returned v ∧ Q_num Z a h0 n0 v U'.heap L ∧ FrameEnd U o U' L ({ frames := 1, cells := 0, slots := 0, locals := 12 } : Room).cells ({ frames := 1, cells := 0, slots := 0, locals := 12 } : Room).slots) := by
  refine MetFree.of_bodySF (plainFor_of_name pn_1) hisR ?_
  intro p e s m args below meth c s₁ Bd hml0 hP hK
  obtain ⟨rfl, hZ, hh⟩ := hP
  have hx := Bd.exec
  have hby := Bd.bytes
  have hml : c.maxLocals = 1 := hml0
  have hown : s.vm.findClass "java/lang/Number" = some m.cls := findClass_of_methodNamed Bd.named
  have hnm := (name_of_methodNamed Bd.named Bd.method).1
  have X0 : Stand p l e ({ frames := 1, cells := 0, slots := 0, locals := 12 } : Room) s m #[(.ref a)] below meth c s₁ [] 0 0 := Stand.of_body Bd
  have e0 : s₁.heap = h0 := by rw [← hh, Bd.state]; rfl
  have N0 := Fr.nil n0
  have K0 := Keep.refl h0 []
  obtain ⟨G, gv, gf, gb⟩ := own_G p.tables e below s (Q_num Z a h0 n0) ({ frames := 1, cells := 0, slots := 0, locals := 12 } : Room).cells ({ frames := 1, cells := 0, slots := 0, locals := 12 } : Room).slots
  show own_Fin p.tables e below s (Q_num Z a h0 n0) ({ frames := 1, cells := 0, slots := 0, locals := 12 } : Room).cells ({ frames := 1, cells := 0, slots := 0, locals := 12 } : Room).slots (s₁.setTop (entryFrame m #[(.ref a)] 1))
  refine gb _ (gv (fun t k => castTop (ef_0 m a) k) ?_)
  show G (s₁.setTop (mkF m 0 #[.val (.ref a)] []))
  refine gv (fun t k => XS.aloadN X0.here hx rfl (hb hby d11_0) rfl rfl k) ?_
  show G (s₁.setTop (mkF m 1 #[.val (.ref a)] [(.ref a)]))
  obtain ⟨T2, X2, e2, st2⟩ := initO X0 hx hZ hown (hw _ (List.mem_of_getElem? (i := 63) rfl)) (hw _ (List.mem_of_getElem? (i := 15) rfl)) (hw _ (List.mem_of_getElem? (i := 16) rfl)) e0 (g := (mkF m 1 #[.val (.ref a)] [(.ref a)])) rfl (by rw [hml]; rfl) rfl (hb hby d11_1) (by decide) (W := 0) (by show 2 * 0 + _ ≤ _; exact Nat.le_of_eq rfl) (by decide)
  refine gv st2 ?_
  show G (T2.setTop (mkF m 4 #[.val (.ref a)] []))
  refine gf _ (own_ret X2 Bd.notSynchronized (v := none) (fun _ => rfl) ?_ (by decide) (by decide) (fun fs hr => X2.returnOut hx Bd.returns (hb hby d11_4) hr))
  show Q_num Z a h0 n0 _ T2.heap _
  rw [e2]
  exact ⟨rfl, N0, rfl⟩
theorem ef_1 (m : MethodId) (x0 : Addr) (x1 : Int32)  : entryFrame m #[(.ref x0), (.int x1)] 2 = mkF m 0 #[.val (.ref x0), .val (.int x1)] [] := by first | (simp [entryFrame, mkF, argsToLocals, Value.category]; done) | rfl
theorem pn_2 : plainName "java/lang/Integer" = true := by first | (simp [plainName, overriddenIn]; done) | decide +kernel
theorem d10_0 : decode jdk_33_method_23_code 0 = .ok (.aload_n 0, 1) := by decide +kernel
theorem d10_1 : decode jdk_33_method_23_code 1 = .ok (.invokespecial 202, 3) := by decide +kernel
theorem pd_0 : parseMethodDescriptor "()V" = some ⟨[], none⟩ := by decide +kernel
theorem d10_4 : decode jdk_33_method_23_code 4 = .ok (.aload_n 0, 1) := by decide +kernel
theorem d10_5 : decode jdk_33_method_23_code 5 = .ok (.iload_n 1, 1) := by decide +kernel
theorem d10_6 : decode jdk_33_method_23_code 6 = .ok (.putfield 205, 3) := by decide +kernel
theorem d10_9 : decode jdk_33_method_23_code 9 = .ok (.return_, 1) := by decide +kernel
def Q_ini (Z : State) (a : Addr) (n : Int32) (h0 : Heap) (n0 : Nat) (v : Option Value) (h : Heap) (L : List Loc) : Prop := v = none ∧ Fr n0 L ∧ Keep h0 h [a] ∧ (Exa Z h a "java/lang/Integer") ∧ (Fld Z h a "java/lang/Integer" "value" "I" (.int n))
set_option maxRecDepth 65536 in
set_option maxHeartbeats 40000000 in
theorem rm_ini (l : Launch) (Z : State) (a0 : Array Value) (hw : ∀ d ∈ tables_1, d.before a0 Z = true) (ws : List Jvm.Cond) (a : Addr) (n : Int32) (h0 : Heap) (n0 : Nat) (O0 : Old Z n0 h0) (u0 : Exa Z h0 a "java/lang/Integer") (u1 : Fld Z h0 a "java/lang/Integer" "value" "I" (.int (0 : Int32))) (u2 : n0 ≤ a) :
    MetFree l (⟨"java/lang/Integer", "<init>", "(I)V"⟩ : MethodName) (head1 (Jvm.Cond.code (⟨"java/lang/Integer", "<init>", "(I)V"⟩ : MethodName) jdk_33_method_23_code 2 none :: ws) ({ frames := 2, cells := 0, slots := 0, locals := 24 } : Room)) (fun aV U => aV = #[(.ref a), (.int n)] ∧ Z.Warmed39 U.vm ∧ U.heap = h0) (fun _ _ _ _ _ => True) (fun _ U o U' => ∃ v L, o = .returned v ∧ Q_ini Z a n h0 n0 v U'.heap L ∧ FrameEnd U o U' L ({ frames := 2, cells := 0, slots := 0, locals := 24 } : Room).cells ({ frames := 2, cells := 0, slots := 0, locals := 24 } : Room).slots) := by
  refine MetFree.of_bodySF (plainFor_of_name pn_2) hisR ?_
  intro p e s m args below meth c s₁ Bd hml0 hP hK
  obtain ⟨rfl, hZ, hh⟩ := hP
  have hx := Bd.exec
  have hby := Bd.bytes
  have hml : c.maxLocals = 2 := hml0
  have hown : s.vm.findClass "java/lang/Integer" = some m.cls := findClass_of_methodNamed Bd.named
  have hnm := (name_of_methodNamed Bd.named Bd.method).1
  have X0 : Stand p l e ({ frames := 2, cells := 0, slots := 0, locals := 24 } : Room) s m #[(.ref a), (.int n)] below meth c s₁ [] 0 0 := Stand.of_body Bd
  have e0 : s₁.heap = h0 := by rw [← hh, Bd.state]; rfl
  have N0 := Fr.nil n0
  have K0 := Keep.refl h0 [a]
  obtain ⟨G, gv, gf, gb⟩ := own_G p.tables e below s (Q_ini Z a n h0 n0) ({ frames := 2, cells := 0, slots := 0, locals := 24 } : Room).cells ({ frames := 2, cells := 0, slots := 0, locals := 24 } : Room).slots
  show own_Fin p.tables e below s (Q_ini Z a n h0 n0) ({ frames := 2, cells := 0, slots := 0, locals := 24 } : Room).cells ({ frames := 2, cells := 0, slots := 0, locals := 24 } : Room).slots (s₁.setTop (entryFrame m #[(.ref a), (.int n)] 2))
  refine gb _ (gv (fun t k => castTop (ef_1 m a n) k) ?_)
  show G (s₁.setTop (mkF m 0 #[.val (.ref a), .val (.int n)] []))
  refine gv (fun t k => XS.aloadN X0.here hx rfl (hb hby d10_0) rfl rfl k) ?_
  show G (s₁.setTop (mkF m 1 #[.val (.ref a), .val (.int n)] [(.ref a)]))
  obtain ⟨_, _, ⟨T3, L3, k3, n3⟩, -, X3, ⟨Lc3, hQ3, l3, y3, z3⟩, st3⟩ := X0.specialBack hx (y := (⟨"java/lang/Number", "<init>", "()V"⟩ : MethodName)) rfl hown (mvT hZ (hw _ (List.mem_of_getElem? (i := 57) rfl))) (mvT hZ (hw _ (List.mem_of_getElem? (i := 58) rfl))) (mvT hZ (hw _ (List.mem_of_getElem? (i := 62) rfl))) (by decide) (backOf (W := 0) (rm_num l Z a0 hw [] a h0 n0 O0 ) hZ (hw _ (List.mem_of_getElem? (i := 62) rfl)) (hw _ (List.mem_of_getElem? (i := 61) rfl)) (by decide) (by decide)) (g := (mkF m 1 #[.val (.ref a), .val (.int n)] [(.ref a)])) rfl (by rw [hml]; rfl) (Steps.refl _) (a := a) (argsL := []) (rest := []) (lenOf pd_0 rfl) rfl (by show 2 * 0 + _ ≤ _; exact Nat.le_of_eq rfl) (hb hby d10_1) (fun _ _ => ⟨rfl, e0, (by decide : 0 + 0 ≤ _), (by decide : 0 + 0 ≤ _)⟩)
  dsimp only [Pt.U, Pt.locs, Pt.cells, Pt.slots] at X3 l3 y3 z3 st3 hQ3
  subst l3 y3 z3
  obtain ⟨rfl, Nq3, eq3⟩ := hQ3
  have N4 := Fr.app N0 Nq3
  refine gv (fun t k => st3.trans k) ?_
  show G (T3.setTop (mkF m 4 #[.val (.ref a), .val (.int n)] []))
  refine gv (fun t k => XS.aloadN X3.here hx rfl (hb hby d10_4) rfl rfl k) ?_
  show G (T3.setTop (mkF m 5 #[.val (.ref a), .val (.int n)] [(.ref a)]))
  refine gv (fun t k => XS.iloadN X3.here hx rfl (hb hby d10_5) rfl k) ?_
  show G (T3.setTop (mkF m 6 #[.val (.ref a), .val (.int n)] [(.int n), (.ref a)]))
  obtain ⟨T5, h5, X5, e5, W5, st5⟩ := putF X3 hx hZ hown (host := "") (Or.inl (hw _ (List.mem_of_getElem? (i := 64) rfl))) Via.refl eq3 u1 u0 (Or.inr ⟨(hw _ (List.mem_of_getElem? (i := 65) rfl)), rfl, hnm⟩) (hw _ (List.mem_of_getElem? (i := 52) rfl)) (ty := .int) (by decide) rfl rfl (g := (mkF m 6 #[.val (.ref a), .val (.int n)] [(.int n), (.ref a)])) rfl rfl (hb hby d10_6)
  refine gv st5 ?_
  have f7 : Exa Z h5 a "java/lang/Integer" := u0.wr W5
  have O8 := O0.wr W5 u2
  have K9 := K0.wr W5 (Or.inl (List.mem_of_getElem? (i := 0) rfl))
  have N10 := Fr.snoc X5 N4 u2
  have f6 : Fld Z h5 a "java/lang/Integer" "value" "I" (.int n) := u1.same W5
  show G (T5.setTop (mkF m 9 #[.val (.ref a), .val (.int n)] []))
  refine gf _ (own_ret X5 Bd.notSynchronized (v := none) (fun _ => rfl) ?_ (by decide) (by decide) (fun fs hr => X5.returnOut hx Bd.returns (hb hby d10_9) hr))
  show Q_ini Z a n h0 n0 _ T5.heap _
  rw [e5]
  exact ⟨rfl, N10, K9, f7, f6⟩
theorem ef_2 (m : MethodId) (x0 : Int32)  : entryFrame m #[(.int x0)] 1 = mkF m 0 #[.val (.int x0)] [] := by first | (simp [entryFrame, mkF, argsToLocals, Value.category]; done) | rfl
theorem d9_0 : decode jdk_33_method_22_code 0 = .ok (.iload_n 0, 1) := by decide +kernel
theorem d9_1 : decode jdk_33_method_22_code 1 = .ok (.bipush (-128), 2) := by decide +kernel
theorem d9_3 : decode jdk_33_method_22_code 3 = .ok (.if_icmp .lt 20, 3) := by decide +kernel
theorem d9_23 : decode jdk_33_method_22_code 23 = .ok (.new 1, 3) := by decide +kernel
theorem d9_26 : decode jdk_33_method_22_code 26 = .ok (.dup, 1) := by decide +kernel
theorem d9_27 : decode jdk_33_method_22_code 27 = .ok (.iload_n 0, 1) := by decide +kernel
theorem d9_28 : decode jdk_33_method_22_code 28 = .ok (.invokespecial 199, 3) := by decide +kernel
theorem pd_1 : parseMethodDescriptor "(I)V" = some ⟨[.int], none⟩ := by decide +kernel
theorem d9_31 : decode jdk_33_method_22_code 31 = .ok (.areturn, 1) := by decide +kernel
theorem d9_6 : decode jdk_33_method_22_code 6 = .ok (.iload_n 0, 1) := by decide +kernel
theorem d9_7 : decode jdk_33_method_22_code 7 = .ok (.getstatic 191, 3) := by decide +kernel
theorem d9_10 : decode jdk_33_method_22_code 10 = .ok (.if_icmp .gt 13, 3) := by decide +kernel
theorem d9_13 : decode jdk_33_method_22_code 13 = .ok (.getstatic 195, 3) := by decide +kernel
theorem d9_16 : decode jdk_33_method_22_code 16 = .ok (.iload_n 0, 1) := by decide +kernel
theorem d9_17 : decode jdk_33_method_22_code 17 = .ok (.sipush 128, 3) := by decide +kernel
theorem d9_20 : decode jdk_33_method_22_code 20 = .ok (.iadd, 1) := by decide +kernel
theorem d9_21 : decode jdk_33_method_22_code 21 = .ok (.aaload, 1) := by decide +kernel
theorem d9_22 : decode jdk_33_method_22_code 22 = .ok (.areturn, 1) := by decide +kernel
def Q_vo (Z : State) (n : Int32) (cA : Addr) (bxc : Cell) (h0 : Heap) (n0 : Nat) (v : Option Value) (h : Heap) (L : List Loc) : Prop := ∃ (r : Addr), v = some (.ref r) ∧ Fr n0 L ∧ Keep h0 h [] ∧ (Exa Z h r "java/lang/Integer")
set_option maxRecDepth 65536 in
set_option maxHeartbeats 40000000 in
theorem rm_vo (l : Launch) (Z : State) (a0 : Array Value) (hw : ∀ d ∈ tables_1, d.before a0 Z = true) (ws : List Jvm.Cond) (n : Int32) (cA : Addr) (bxc : Cell) (h0 : Heap) (n0 : Nat) (O0 : Old Z n0 h0) (u0 : Sta Z Z.heap "java/lang/Integer$IntegerCache" "high" "I" (.int (127 : Int32))) (u1 : Sta Z Z.heap "java/lang/Integer$IntegerCache" "cache" "[Ljava/lang/Integer;" (.ref cA)) (u2 : (Bxs Z cA bxc "java/lang/Integer" "I" (256 : Int32) (fun j => Value.int (j - (128 : Int32))))) :
    MetFree l (⟨"java/lang/Integer", "valueOf", "(I)Ljava/lang/Integer;"⟩ : MethodName) (head1 (Jvm.Cond.code (⟨"java/lang/Integer", "valueOf", "(I)Ljava/lang/Integer;"⟩ : MethodName) jdk_33_method_22_code 1 (some (.object "java/lang/Integer")) :: ws) ({ frames := 3, cells := 1, slots := 1, locals := 38 } : Room)) (fun aV U => aV = #[(.int n)] ∧ Z.Warmed39 U.vm ∧ U.heap = h0) (fun _ _ _ _ _ => True) (fun _ U o U' => ∃ v L, o = .returned v ∧ Q_vo Z n cA bxc h0 n0 v U'.heap L ∧ FrameEnd U o U' L ({ frames := 3, cells := 1, slots := 1, locals := 38 } : Room).cells ({ frames := 3, cells := 1, slots := 1, locals := 38 } : Room).slots) := by
  refine MetFree.of_bodySF (plainFor_of_name pn_2) hisR ?_
  intro p e s m args below meth c s₁ Bd hml0 hP hK
  obtain ⟨rfl, hZ, hh⟩ := hP
  have hx := Bd.exec
  have hby := Bd.bytes
  have hml : c.maxLocals = 1 := hml0
  have hown : s.vm.findClass "java/lang/Integer" = some m.cls := findClass_of_methodNamed Bd.named
  have hnm := (name_of_methodNamed Bd.named Bd.method).1
  have X0 : Stand p l e ({ frames := 3, cells := 1, slots := 1, locals := 38 } : Room) s m #[(.int n)] below meth c s₁ [] 0 0 := Stand.of_body Bd
  have e0 : s₁.heap = h0 := by rw [← hh, Bd.state]; rfl
  have N0 := Fr.nil n0
  have K0 := Keep.refl h0 []
  obtain ⟨G, gv, gf, gb⟩ := own_G p.tables e below s (Q_vo Z n cA bxc h0 n0) ({ frames := 3, cells := 1, slots := 1, locals := 38 } : Room).cells ({ frames := 3, cells := 1, slots := 1, locals := 38 } : Room).slots
  show own_Fin p.tables e below s (Q_vo Z n cA bxc h0 n0) ({ frames := 3, cells := 1, slots := 1, locals := 38 } : Room).cells ({ frames := 3, cells := 1, slots := 1, locals := 38 } : Room).slots (s₁.setTop (entryFrame m #[(.int n)] 1))
  refine gb _ (gv (fun t k => castTop (ef_2 m n) k) ?_)
  show G (s₁.setTop (mkF m 0 #[.val (.int n)] []))
  refine gv (fun t k => XS.iloadN X0.here hx rfl (hb hby d9_0) rfl k) ?_
  show G (s₁.setTop (mkF m 1 #[.val (.int n)] [(.int n)]))
  refine gv (fun t k => XS.bipush X0.here hx rfl (hb hby d9_1) k) ?_
  show G (s₁.setTop (mkF m 3 #[.val (.int n)] [(.int (-128 : Int32)), (.int n)]))
  by_cases hc11 : n < (-128 : Int32)
  · refine gv (fun t k => XS.icmpYes X0.here hx rfl (pc0 := 3) (pc' := 23) rfl (hb hby d9_3) rfl (tlt hc11).1 (by decide) (by decide) k) ?_
    show G (s₁.setTop (mkF m 23 #[.val (.int n)] []))
    obtain ⟨T12, h12, X12, e12, E12, A12, D12, -, st12⟩ := newO X0 hx hZ hown (hw _ (List.mem_of_getElem? (i := 51) rfl)) (hw _ (List.mem_of_getElem? (i := 52) rfl)) (hw _ (List.mem_of_getElem? (i := 49) rfl)) e0 (g := (mkF m 23 #[.val (.int n)] [])) rfl (hb hby d9_23) (by decide) (by decide)
    obtain ⟨b12, g12⟩ : ∃ z, z = h0.size := ⟨_, rfl⟩
    rw [← g12] at A12 D12 st12
    refine gv st12 ?_
    have g13 : n0 ≤ b12 := Nat.le_trans (own_old O0) (Nat.le_of_eq g12.symm)
    have z14 : h0.size ≤ b12 := Nat.le_trans K0.1 (Nat.le_of_eq g12.symm)
    have O15 := O0.ext E12
    have K16 := K0.ext E12
    have f17 : Fld Z h12 b12 "java/lang/Integer" "value" "I" (.int (0 : Int32)) := D12 (Or.inr (hw _ (List.mem_of_getElem? (i := 65) rfl))) (ty := .int) (by decide)
    show G (T12.setTop (mkF m 26 #[.val (.int n)] [(.ref b12)]))
    refine gv (fun t k => XS.dup X12.here hx rfl (hb hby d9_26) rfl rfl k) ?_
    show G (T12.setTop (mkF m 27 #[.val (.int n)] [(.ref b12), (.ref b12)]))
    refine gv (fun t k => XS.iloadN X12.here hx rfl (hb hby d9_27) rfl k) ?_
    show G (T12.setTop (mkF m 28 #[.val (.int n)] [(.int n), (.ref b12), (.ref b12)]))
    obtain ⟨_, _, ⟨T18, L18, k18, n18⟩, -, X18, ⟨Lc18, hQ18, l18, y18, z18⟩, st18⟩ := X12.specialBack hx (y := (⟨"java/lang/Integer", "<init>", "(I)V"⟩ : MethodName)) rfl hown (mvT hZ (hw _ (List.mem_of_getElem? (i := 53) rfl))) (mvT hZ (hw _ (List.mem_of_getElem? (i := 54) rfl))) (mvT hZ (hw _ (List.mem_of_getElem? (i := 56) rfl))) (by decide) (backOf (W := 1) (rm_ini l Z a0 hw [] b12 n h12 n0 O15 A12 f17 g13) hZ (hw _ (List.mem_of_getElem? (i := 56) rfl)) (hw _ (List.mem_of_getElem? (i := 49) rfl)) (by decide) (by decide)) (g := (mkF m 28 #[.val (.int n)] [(.int n), (.ref b12), (.ref b12)])) rfl (by rw [hml]; rfl) (Steps.refl _) (a := b12) (argsL := [(.int n)]) (rest := [(.ref b12)]) (lenOf pd_1 rfl) rfl (by show 2 * 0 + _ ≤ _; exact Nat.le_of_eq rfl) (hb hby d9_28) (fun _ _ => ⟨rfl, e12, (by decide : 1 + 0 ≤ _), (by decide : 1 + 0 ≤ _)⟩)
    dsimp only [Pt.U, Pt.locs, Pt.cells, Pt.slots] at X18 l18 y18 z18 st18 hQ18
    subst l18 y18 z18
    obtain ⟨rfl, Nq18, Kq18, w18_0, w18_1⟩ := hQ18
    have N19 := Fr.app N0 Nq18
    obtain ⟨h18, e18⟩ : ∃ z, T18.heap = z := ⟨_, rfl⟩
    rw [e18] at Kq18 w18_0 w18_1
    have f20 : Exa Z h18 b12 "java/lang/Integer" := A12.keep Kq18
    have O21 := O15.keep Kq18 (allS g13 all0)
    have K22 := K16.trans Kq18 (allS (Or.inr z14) all0)
    refine gv (fun t k => st18.trans k) ?_
    show G (T18.setTop (mkF m 31 #[.val (.int n)] [(.ref b12)]))
    refine gf _ (own_ret X18 Bd.notSynchronized (v := some (.ref b12)) (fun h => by rw [Bd.returns] at h; cases h) ?_ (by decide) (by decide) (fun fs hr => retOut X18 hx (t := (.object "java/lang/Integer")) Bd.returns rfl (Or.inr (Or.inr (Or.inr (Or.inr ⟨rfl, rfl, rfl⟩)))) (hb hby d9_31) hr))
    show Q_vo Z n cA bxc h0 n0 _ T18.heap _
    rw [e18]
    exact ⟨b12, rfl, N19, K22, w18_0⟩
  · refine gv (fun t k => XS.icmpNo X0.here hx rfl (hb hby d9_3) rfl (flt hc11).1 k) ?_
    show G (s₁.setTop (mkF m 6 #[.val (.int n)] []))
    refine gv (fun t k => XS.iloadN X0.here hx rfl (hb hby d9_6) rfl k) ?_
    show G (s₁.setTop (mkF m 7 #[.val (.int n)] [(.int n)]))
    obtain ⟨T23, X23, e23, st23⟩ := getS2 X0 hx hZ hown (host := "") (Or.inl (hw _ (List.mem_of_getElem? (i := 66) rfl))) Via.refl e0 (u0.ext O0.2) (g := (mkF m 7 #[.val (.int n)] [(.int n)])) rfl (hb hby d9_7)
    refine gv st23 ?_
    show G (T23.setTop (mkF m 10 #[.val (.int n)] [(.int (127 : Int32)), (.int n)]))
    by_cases hc24 : (127 : Int32) < n
    · refine gv (fun t k => XS.icmpYes X23.here hx rfl (pc0 := 10) (pc' := 23) rfl (hb hby d9_10) rfl (tlt hc24).2.2.1 (by decide) (by decide) k) ?_
      show G (T23.setTop (mkF m 23 #[.val (.int n)] []))
      obtain ⟨T25, h25, X25, e25, E25, A25, D25, -, st25⟩ := newO X23 hx hZ hown (hw _ (List.mem_of_getElem? (i := 51) rfl)) (hw _ (List.mem_of_getElem? (i := 52) rfl)) (hw _ (List.mem_of_getElem? (i := 49) rfl)) e23 (g := (mkF m 23 #[.val (.int n)] [])) rfl (hb hby d9_23) (by decide) (by decide)
      obtain ⟨b25, g25⟩ : ∃ z, z = h0.size := ⟨_, rfl⟩
      rw [← g25] at A25 D25 st25
      refine gv st25 ?_
      have g26 : n0 ≤ b25 := Nat.le_trans (own_old O0) (Nat.le_of_eq g25.symm)
      have z27 : h0.size ≤ b25 := Nat.le_trans K0.1 (Nat.le_of_eq g25.symm)
      have O28 := O0.ext E25
      have K29 := K0.ext E25
      have f30 : Fld Z h25 b25 "java/lang/Integer" "value" "I" (.int (0 : Int32)) := D25 (Or.inr (hw _ (List.mem_of_getElem? (i := 65) rfl))) (ty := .int) (by decide)
      show G (T25.setTop (mkF m 26 #[.val (.int n)] [(.ref b25)]))
      refine gv (fun t k => XS.dup X25.here hx rfl (hb hby d9_26) rfl rfl k) ?_
      show G (T25.setTop (mkF m 27 #[.val (.int n)] [(.ref b25), (.ref b25)]))
      refine gv (fun t k => XS.iloadN X25.here hx rfl (hb hby d9_27) rfl k) ?_
      show G (T25.setTop (mkF m 28 #[.val (.int n)] [(.int n), (.ref b25), (.ref b25)]))
      obtain ⟨_, _, ⟨T31, L31, k31, n31⟩, -, X31, ⟨Lc31, hQ31, l31, y31, z31⟩, st31⟩ := X25.specialBack hx (y := (⟨"java/lang/Integer", "<init>", "(I)V"⟩ : MethodName)) rfl hown (mvT hZ (hw _ (List.mem_of_getElem? (i := 53) rfl))) (mvT hZ (hw _ (List.mem_of_getElem? (i := 54) rfl))) (mvT hZ (hw _ (List.mem_of_getElem? (i := 56) rfl))) (by decide) (backOf (W := 1) (rm_ini l Z a0 hw [] b25 n h25 n0 O28 A25 f30 g26) hZ (hw _ (List.mem_of_getElem? (i := 56) rfl)) (hw _ (List.mem_of_getElem? (i := 49) rfl)) (by decide) (by decide)) (g := (mkF m 28 #[.val (.int n)] [(.int n), (.ref b25), (.ref b25)])) rfl (by rw [hml]; rfl) (Steps.refl _) (a := b25) (argsL := [(.int n)]) (rest := [(.ref b25)]) (lenOf pd_1 rfl) rfl (by show 2 * 0 + _ ≤ _; exact Nat.le_of_eq rfl) (hb hby d9_28) (fun _ _ => ⟨rfl, e25, (by decide : 1 + 0 ≤ _), (by decide : 1 + 0 ≤ _)⟩)
      dsimp only [Pt.U, Pt.locs, Pt.cells, Pt.slots] at X31 l31 y31 z31 st31 hQ31
      subst l31 y31 z31
      obtain ⟨rfl, Nq31, Kq31, w31_0, w31_1⟩ := hQ31
      have N32 := Fr.app N0 Nq31
      obtain ⟨h31, e31⟩ : ∃ z, T31.heap = z := ⟨_, rfl⟩
      rw [e31] at Kq31 w31_0 w31_1
      have f33 : Exa Z h31 b25 "java/lang/Integer" := A25.keep Kq31
      have O34 := O28.keep Kq31 (allS g26 all0)
      have K35 := K29.trans Kq31 (allS (Or.inr z27) all0)
      refine gv (fun t k => st31.trans k) ?_
      show G (T31.setTop (mkF m 31 #[.val (.int n)] [(.ref b25)]))
      refine gf _ (own_ret X31 Bd.notSynchronized (v := some (.ref b25)) (fun h => by rw [Bd.returns] at h; cases h) ?_ (by decide) (by decide) (fun fs hr => retOut X31 hx (t := (.object "java/lang/Integer")) Bd.returns rfl (Or.inr (Or.inr (Or.inr (Or.inr ⟨rfl, rfl, rfl⟩)))) (hb hby d9_31) hr))
      show Q_vo Z n cA bxc h0 n0 _ T31.heap _
      rw [e31]
      exact ⟨b25, rfl, N32, K35, w31_0⟩
    · refine gv (fun t k => XS.icmpNo X23.here hx rfl (hb hby d9_10) rfl (flt hc24).2.2.1 k) ?_
      show G (T23.setTop (mkF m 13 #[.val (.int n)] []))
      obtain ⟨T36, X36, e36, st36⟩ := getS2 X23 hx hZ hown (host := "") (Or.inl (hw _ (List.mem_of_getElem? (i := 68) rfl))) Via.refl e23 (u1.ext O0.2) (g := (mkF m 13 #[.val (.int n)] [])) rfl (hb hby d9_13)
      refine gv st36 ?_
      show G (T36.setTop (mkF m 16 #[.val (.int n)] [(.ref cA)]))
      refine gv (fun t k => XS.iloadN X36.here hx rfl (hb hby d9_16) rfl k) ?_
      show G (T36.setTop (mkF m 17 #[.val (.int n)] [(.int n), (.ref cA)]))
      refine gv (fun t k => XS.sipush X36.here hx rfl (hb hby d9_17) k) ?_
      show G (T36.setTop (mkF m 20 #[.val (.int n)] [(.int (128 : Int32)), (.int n), (.ref cA)]))
      refine gv (fun t k => XS.iadd X36.here hx rfl (hb hby d9_20) rfl k) ?_
      show G (T36.setTop (mkF m 21 #[.val (.int n)] [(.int (n + (128 : Int32))), (.ref cA)]))
      have in37 := own_cache_in (n := n) (c := bxc) hc11 hc24 u2.2.1
      obtain ⟨r37, hr37, E37, -⟩ := u2.2.2.2 _ in37
      refine gv (X36.aaload hx (j := (n + (128 : Int32))) (v := .ref r37) (by rw [e36]; exact (u2.1.ext O0.2).1) (State.isArrayOf_alike hZ.alike u2.1.2.1) rfl u2.1.2.2 in37 hr37 (g := (mkF m 21 #[.val (.int n)] [(.int (n + (128 : Int32))), (.ref cA)])) rfl rfl (hb hby d9_21)) ?_
      show G (T36.setTop (mkF m 22 #[.val (.int n)] [(.ref r37)]))
      refine gf _ (own_ret X36 Bd.notSynchronized (v := some (.ref r37)) (fun h => by rw [Bd.returns] at h; cases h) ?_ (by decide) (by decide) (fun fs hr => retOut X36 hx (t := (.object "java/lang/Integer")) Bd.returns rfl (Or.inr (Or.inr (Or.inr (Or.inr ⟨rfl, rfl, rfl⟩)))) (hb hby d9_22) hr))
      show Q_vo Z n cA bxc h0 n0 _ T36.heap _
      rw [e36]
      exact ⟨r37, rfl, N0, K0, (E37.ext O0.2)⟩
theorem ef_3 (m : MethodId) (x0 : Addr) (x3 : Int32)  : entryFrame m #[(.ref x0), .null, .null, (.int x3), .null] 5 = mkF m 0 #[.val (.ref x0), .val .null, .val .null, .val (.int x3), .val .null] [] := by first | (simp [entryFrame, mkF, argsToLocals, Value.category]; done) | rfl
theorem pn_3 : plainName "com/example/pufferfish/pufferfish/pipeline/Envelope" = true := by first | (simp [plainName, overriddenIn]; done) | decide +kernel
theorem d2_0 : decode prog_31_method_2_code 0 = .ok (.aload_n 0, 1) := by decide +kernel
theorem d2_1 : decode prog_31_method_2_code 1 = .ok (.invokespecial 1, 3) := by decide +kernel
theorem d2_4 : decode prog_31_method_2_code 4 = .ok (.aload_n 0, 1) := by decide +kernel
theorem d2_5 : decode prog_31_method_2_code 5 = .ok (.aload_n 1, 1) := by decide +kernel
theorem d2_6 : decode prog_31_method_2_code 6 = .ok (.putfield 7, 3) := by decide +kernel
theorem d2_9 : decode prog_31_method_2_code 9 = .ok (.aload_n 0, 1) := by decide +kernel
theorem d2_10 : decode prog_31_method_2_code 10 = .ok (.aload_n 2, 1) := by decide +kernel
theorem d2_11 : decode prog_31_method_2_code 11 = .ok (.putfield 13, 3) := by decide +kernel
theorem d2_14 : decode prog_31_method_2_code 14 = .ok (.aload_n 0, 1) := by decide +kernel
theorem d2_15 : decode prog_31_method_2_code 15 = .ok (.iload_n 3, 1) := by decide +kernel
theorem d2_16 : decode prog_31_method_2_code 16 = .ok (.putfield 17, 3) := by decide +kernel
theorem d2_19 : decode prog_31_method_2_code 19 = .ok (.aload_n 0, 1) := by decide +kernel
theorem d2_20 : decode prog_31_method_2_code 20 = .ok (.aload 4, 2) := by decide +kernel
theorem d2_22 : decode prog_31_method_2_code 22 = .ok (.putfield 21, 3) := by decide +kernel
theorem d2_25 : decode prog_31_method_2_code 25 = .ok (.return_, 1) := by decide +kernel
def Q_eiN (Z : State) (a : Addr) (h0 : Heap) (n0 : Nat) (v : Option Value) (h : Heap) (L : List Loc) : Prop := v = none ∧ Fr n0 L ∧ Keep h0 h [a] ∧ (Exa Z h a "com/example/pufferfish/pufferfish/pipeline/Envelope") ∧ (Fld Z h a "com/example/pufferfish/pufferfish/pipeline/Envelope" "origin" "Lcom/example/pufferfish/pufferfish/pipeline/Origin;" .null) ∧ (Fld Z h a "com/example/pufferfish/pufferfish/pipeline/Envelope" "key" "Ljava/lang/Object;" .null) ∧ (Fld Z h a "com/example/pufferfish/pufferfish/pipeline/Envelope" "shard" "I" (.int (-2 : Int32))) ∧ (Fld Z h a "com/example/pufferfish/pufferfish/pipeline/Envelope" "record" "Ljava/lang/Object;" .null)
set_option maxRecDepth 65536 in
set_option maxHeartbeats 40000000 in
theorem rm_eiN (l : Launch) (Z : State) (a0 : Array Value) (hw : ∀ d ∈ tables_1, d.before a0 Z = true) (ws : List Jvm.Cond) (a : Addr) (h0 : Heap) (n0 : Nat) (O0 : Old Z n0 h0) (u0 : Exa Z h0 a "com/example/pufferfish/pufferfish/pipeline/Envelope") (u1 : Fld Z h0 a "com/example/pufferfish/pufferfish/pipeline/Envelope" "origin" "Lcom/example/pufferfish/pufferfish/pipeline/Origin;" .null) (u2 : Fld Z h0 a "com/example/pufferfish/pufferfish/pipeline/Envelope" "key" "Ljava/lang/Object;" .null) (u3 : Fld Z h0 a "com/example/pufferfish/pufferfish/pipeline/Envelope" "shard" "I" (.int (0 : Int32))) (u4 : Fld Z h0 a "com/example/pufferfish/pufferfish/pipeline/Envelope" "record" "Ljava/lang/Object;" .null) (u5 : n0 ≤ a) :
    MetFree l (⟨"com/example/pufferfish/pufferfish/pipeline/Envelope", "<init>", "(Lcom/example/pufferfish/pufferfish/pipeline/Origin;Ljava/lang/Object;ILjava/lang/Object;)V"⟩ : MethodName) (head1 (Jvm.Cond.code (⟨"com/example/pufferfish/pufferfish/pipeline/Envelope", "<init>", "(Lcom/example/pufferfish/pufferfish/pipeline/Origin;Ljava/lang/Object;ILjava/lang/Object;)V"⟩ : MethodName) prog_31_method_2_code 5 none :: ws) ({ frames := 2, cells := 0, slots := 0, locals := 24 } : Room)) (fun aV U => aV = #[(.ref a), .null, .null, (.int (-2 : Int32)), .null] ∧ Z.Warmed39 U.vm ∧ U.heap = h0) (fun _ _ _ _ _ => True) (fun _ U o U' => ∃ v L, o = .returned v ∧ Q_eiN Z a h0 n0 v U'.heap L ∧ FrameEnd U o U' L ({ frames := 2, cells := 0, slots := 0, locals := 24 } : Room).cells ({ frames := 2, cells := 0, slots := 0, locals := 24 } : Room).slots) := by
  refine MetFree.of_bodySF (plainFor_of_name pn_3) hisR ?_
  intro p e s m args below meth c s₁ Bd hml0 hP hK
  obtain ⟨rfl, hZ, hh⟩ := hP
  have hx := Bd.exec
  have hby := Bd.bytes
  have hml : c.maxLocals = 5 := hml0
  have hown : s.vm.findClass "com/example/pufferfish/pufferfish/pipeline/Envelope" = some m.cls := findClass_of_methodNamed Bd.named
  have hnm := (name_of_methodNamed Bd.named Bd.method).1
  have X0 : Stand p l e ({ frames := 2, cells := 0, slots := 0, locals := 24 } : Room) s m #[(.ref a), .null, .null, (.int (-2 : Int32)), .null] below meth c s₁ [] 0 0 := Stand.of_body Bd
  have e0 : s₁.heap = h0 := by rw [← hh, Bd.state]; rfl
  have N0 := Fr.nil n0
  have K0 := Keep.refl h0 [a]
  obtain ⟨G, gv, gf, gb⟩ := own_G p.tables e below s (Q_eiN Z a h0 n0) ({ frames := 2, cells := 0, slots := 0, locals := 24 } : Room).cells ({ frames := 2, cells := 0, slots := 0, locals := 24 } : Room).slots
  show own_Fin p.tables e below s (Q_eiN Z a h0 n0) ({ frames := 2, cells := 0, slots := 0, locals := 24 } : Room).cells ({ frames := 2, cells := 0, slots := 0, locals := 24 } : Room).slots (s₁.setTop (entryFrame m #[(.ref a), .null, .null, (.int (-2 : Int32)), .null] 5))
  refine gb _ (gv (fun t k => castTop (ef_3 m a (-2 : Int32)) k) ?_)
  show G (s₁.setTop (mkF m 0 #[.val (.ref a), .val .null, .val .null, .val (.int (-2 : Int32)), .val .null] []))
  refine gv (fun t k => XS.aloadN X0.here hx rfl (hb hby d2_0) rfl rfl k) ?_
  show G (s₁.setTop (mkF m 1 #[.val (.ref a), .val .null, .val .null, .val (.int (-2 : Int32)), .val .null] [(.ref a)]))
  obtain ⟨_, _, ⟨T38, L38, k38, n38⟩, -, X38, ⟨Lc38, hQ38, l38, y38, z38⟩, st38⟩ := X0.specialBack hx (y := (⟨"java/lang/Record", "<init>", "()V"⟩ : MethodName)) rfl hown (mvT hZ (hw _ (List.mem_of_getElem? (i := 9) rfl))) (mvT hZ (hw _ (List.mem_of_getElem? (i := 10) rfl))) (mvT hZ (hw _ (List.mem_of_getElem? (i := 13) rfl))) (by decide) (backOf (W := 0) (rm_rec l Z a0 hw [] a h0 n0 O0 ) hZ (hw _ (List.mem_of_getElem? (i := 13) rfl)) (hw _ (List.mem_of_getElem? (i := 12) rfl)) (by decide) (by decide)) (g := (mkF m 1 #[.val (.ref a), .val .null, .val .null, .val (.int (-2 : Int32)), .val .null] [(.ref a)])) rfl (by rw [hml]; rfl) (Steps.refl _) (a := a) (argsL := []) (rest := []) (lenOf pd_0 rfl) rfl (by show 2 * 0 + _ ≤ _; exact Nat.le_of_eq rfl) (hb hby d2_1) (fun _ _ => ⟨rfl, e0, (by decide : 0 + 0 ≤ _), (by decide : 0 + 0 ≤ _)⟩)
  dsimp only [Pt.U, Pt.locs, Pt.cells, Pt.slots] at X38 l38 y38 z38 st38 hQ38
  subst l38 y38 z38
  obtain ⟨rfl, Nq38, eq38⟩ := hQ38
  have N39 := Fr.app N0 Nq38
  refine gv (fun t k => st38.trans k) ?_
  show G (T38.setTop (mkF m 4 #[.val (.ref a), .val .null, .val .null, .val (.int (-2 : Int32)), .val .null] []))
  refine gv (fun t k => XS.aloadN X38.here hx rfl (hb hby d2_4) rfl rfl k) ?_
  show G (T38.setTop (mkF m 5 #[.val (.ref a), .val .null, .val .null, .val (.int (-2 : Int32)), .val .null] [(.ref a)]))
  refine gv (fun t k => XS.aloadN X38.here hx rfl (hb hby d2_5) rfl rfl k) ?_
  show G (T38.setTop (mkF m 6 #[.val (.ref a), .val .null, .val .null, .val (.int (-2 : Int32)), .val .null] [.null, (.ref a)]))
  obtain ⟨T40, h40, X40, e40, W40, st40⟩ := putF X38 hx hZ hown (host := "") (Or.inl (hw _ (List.mem_of_getElem? (i := 17) rfl))) Via.refl eq38 u1 u0 (Or.inr ⟨(hw _ (List.mem_of_getElem? (i := 18) rfl)), rfl, hnm⟩) (hw _ (List.mem_of_getElem? (i := 5) rfl)) (ty := (.object "com/example/pufferfish/pufferfish/pipeline/Origin")) (by decide) rfl rfl (g := (mkF m 6 #[.val (.ref a), .val .null, .val .null, .val (.int (-2 : Int32)), .val .null] [.null, (.ref a)])) rfl rfl (hb hby d2_6)
  refine gv st40 ?_
  have f42 : Exa Z h40 a "com/example/pufferfish/pufferfish/pipeline/Envelope" := u0.wr W40
  have f43 : Fld Z h40 a "com/example/pufferfish/pufferfish/pipeline/Envelope" "key" "Ljava/lang/Object;" .null := u2.other W40 (Or.inr (slot_ne (Or.inr (hw _ (List.mem_of_getElem? (i := 20) rfl))) (Or.inr (hw _ (List.mem_of_getElem? (i := 18) rfl))) (by decide) (t := (.object "java/lang/Object")) (t' := (.object "com/example/pufferfish/pufferfish/pipeline/Origin")) (by decide) (by decide)))
  have f44 : Fld Z h40 a "com/example/pufferfish/pufferfish/pipeline/Envelope" "shard" "I" (.int (0 : Int32)) := u3.other W40 (Or.inr (slot_ne (Or.inr (hw _ (List.mem_of_getElem? (i := 22) rfl))) (Or.inr (hw _ (List.mem_of_getElem? (i := 18) rfl))) (by decide) (t := .int) (t' := (.object "com/example/pufferfish/pufferfish/pipeline/Origin")) (by decide) (by decide)))
  have f45 : Fld Z h40 a "com/example/pufferfish/pufferfish/pipeline/Envelope" "record" "Ljava/lang/Object;" .null := u4.other W40 (Or.inr (slot_ne (Or.inr (hw _ (List.mem_of_getElem? (i := 24) rfl))) (Or.inr (hw _ (List.mem_of_getElem? (i := 18) rfl))) (by decide) (t := (.object "java/lang/Object")) (t' := (.object "com/example/pufferfish/pufferfish/pipeline/Origin")) (by decide) (by decide)))
  have O46 := O0.wr W40 u5
  have K47 := K0.wr W40 (Or.inl (List.mem_of_getElem? (i := 0) rfl))
  have N48 := Fr.snoc X40 N39 u5
  have f41 : Fld Z h40 a "com/example/pufferfish/pufferfish/pipeline/Envelope" "origin" "Lcom/example/pufferfish/pufferfish/pipeline/Origin;" .null := u1.same W40
  show G (T40.setTop (mkF m 9 #[.val (.ref a), .val .null, .val .null, .val (.int (-2 : Int32)), .val .null] []))
  refine gv (fun t k => XS.aloadN X40.here hx rfl (hb hby d2_9) rfl rfl k) ?_
  show G (T40.setTop (mkF m 10 #[.val (.ref a), .val .null, .val .null, .val (.int (-2 : Int32)), .val .null] [(.ref a)]))
  refine gv (fun t k => XS.aloadN X40.here hx rfl (hb hby d2_10) rfl rfl k) ?_
  show G (T40.setTop (mkF m 11 #[.val (.ref a), .val .null, .val .null, .val (.int (-2 : Int32)), .val .null] [.null, (.ref a)]))
  obtain ⟨T49, h49, X49, e49, W49, st49⟩ := putF X40 hx hZ hown (host := "") (Or.inl (hw _ (List.mem_of_getElem? (i := 19) rfl))) Via.refl e40 f43 f42 (Or.inr ⟨(hw _ (List.mem_of_getElem? (i := 20) rfl)), rfl, hnm⟩) (hw _ (List.mem_of_getElem? (i := 5) rfl)) (ty := (.object "java/lang/Object")) (by decide) rfl rfl (g := (mkF m 11 #[.val (.ref a), .val .null, .val .null, .val (.int (-2 : Int32)), .val .null] [.null, (.ref a)])) rfl rfl (hb hby d2_11)
  refine gv st49 ?_
  have f51 : Exa Z h49 a "com/example/pufferfish/pufferfish/pipeline/Envelope" := f42.wr W49
  have f52 : Fld Z h49 a "com/example/pufferfish/pufferfish/pipeline/Envelope" "origin" "Lcom/example/pufferfish/pufferfish/pipeline/Origin;" .null := f41.other W49 (Or.inr (slot_ne (Or.inr (hw _ (List.mem_of_getElem? (i := 18) rfl))) (Or.inr (hw _ (List.mem_of_getElem? (i := 20) rfl))) (by decide) (t := (.object "com/example/pufferfish/pufferfish/pipeline/Origin")) (t' := (.object "java/lang/Object")) (by decide) (by decide)))
  have f53 : Fld Z h49 a "com/example/pufferfish/pufferfish/pipeline/Envelope" "shard" "I" (.int (0 : Int32)) := f44.other W49 (Or.inr (slot_ne (Or.inr (hw _ (List.mem_of_getElem? (i := 22) rfl))) (Or.inr (hw _ (List.mem_of_getElem? (i := 20) rfl))) (by decide) (t := .int) (t' := (.object "java/lang/Object")) (by decide) (by decide)))
  have f54 : Fld Z h49 a "com/example/pufferfish/pufferfish/pipeline/Envelope" "record" "Ljava/lang/Object;" .null := f45.other W49 (Or.inr (slot_ne (Or.inr (hw _ (List.mem_of_getElem? (i := 24) rfl))) (Or.inr (hw _ (List.mem_of_getElem? (i := 20) rfl))) (by decide) (t := (.object "java/lang/Object")) (t' := (.object "java/lang/Object")) (by decide) (by decide)))
  have O55 := O46.wr W49 u5
  have K56 := K47.wr W49 (Or.inl (List.mem_of_getElem? (i := 0) rfl))
  have N57 := Fr.snoc X49 N48 u5
  have f50 : Fld Z h49 a "com/example/pufferfish/pufferfish/pipeline/Envelope" "key" "Ljava/lang/Object;" .null := f43.same W49
  show G (T49.setTop (mkF m 14 #[.val (.ref a), .val .null, .val .null, .val (.int (-2 : Int32)), .val .null] []))
  refine gv (fun t k => XS.aloadN X49.here hx rfl (hb hby d2_14) rfl rfl k) ?_
  show G (T49.setTop (mkF m 15 #[.val (.ref a), .val .null, .val .null, .val (.int (-2 : Int32)), .val .null] [(.ref a)]))
  refine gv (fun t k => XS.iloadN X49.here hx rfl (hb hby d2_15) rfl k) ?_
  show G (T49.setTop (mkF m 16 #[.val (.ref a), .val .null, .val .null, .val (.int (-2 : Int32)), .val .null] [(.int (-2 : Int32)), (.ref a)]))
  obtain ⟨T58, h58, X58, e58, W58, st58⟩ := putF X49 hx hZ hown (host := "") (Or.inl (hw _ (List.mem_of_getElem? (i := 21) rfl))) Via.refl e49 f53 f51 (Or.inr ⟨(hw _ (List.mem_of_getElem? (i := 22) rfl)), rfl, hnm⟩) (hw _ (List.mem_of_getElem? (i := 5) rfl)) (ty := .int) (by decide) rfl rfl (g := (mkF m 16 #[.val (.ref a), .val .null, .val .null, .val (.int (-2 : Int32)), .val .null] [(.int (-2 : Int32)), (.ref a)])) rfl rfl (hb hby d2_16)
  refine gv st58 ?_
  have f60 : Exa Z h58 a "com/example/pufferfish/pufferfish/pipeline/Envelope" := f51.wr W58
  have f61 : Fld Z h58 a "com/example/pufferfish/pufferfish/pipeline/Envelope" "origin" "Lcom/example/pufferfish/pufferfish/pipeline/Origin;" .null := f52.other W58 (Or.inr (slot_ne (Or.inr (hw _ (List.mem_of_getElem? (i := 18) rfl))) (Or.inr (hw _ (List.mem_of_getElem? (i := 22) rfl))) (by decide) (t := (.object "com/example/pufferfish/pufferfish/pipeline/Origin")) (t' := .int) (by decide) (by decide)))
  have f62 : Fld Z h58 a "com/example/pufferfish/pufferfish/pipeline/Envelope" "key" "Ljava/lang/Object;" .null := f50.other W58 (Or.inr (slot_ne (Or.inr (hw _ (List.mem_of_getElem? (i := 20) rfl))) (Or.inr (hw _ (List.mem_of_getElem? (i := 22) rfl))) (by decide) (t := (.object "java/lang/Object")) (t' := .int) (by decide) (by decide)))
  have f63 : Fld Z h58 a "com/example/pufferfish/pufferfish/pipeline/Envelope" "record" "Ljava/lang/Object;" .null := f54.other W58 (Or.inr (slot_ne (Or.inr (hw _ (List.mem_of_getElem? (i := 24) rfl))) (Or.inr (hw _ (List.mem_of_getElem? (i := 22) rfl))) (by decide) (t := (.object "java/lang/Object")) (t' := .int) (by decide) (by decide)))
  have O64 := O55.wr W58 u5
  have K65 := K56.wr W58 (Or.inl (List.mem_of_getElem? (i := 0) rfl))
  have N66 := Fr.snoc X58 N57 u5
  have f59 : Fld Z h58 a "com/example/pufferfish/pufferfish/pipeline/Envelope" "shard" "I" (.int (-2 : Int32)) := f53.same W58
  show G (T58.setTop (mkF m 19 #[.val (.ref a), .val .null, .val .null, .val (.int (-2 : Int32)), .val .null] []))
  refine gv (fun t k => XS.aloadN X58.here hx rfl (hb hby d2_19) rfl rfl k) ?_
  show G (T58.setTop (mkF m 20 #[.val (.ref a), .val .null, .val .null, .val (.int (-2 : Int32)), .val .null] [(.ref a)]))
  refine gv (fun t k => XS.aload X58.here hx rfl (hb hby d2_20) rfl rfl k) ?_
  show G (T58.setTop (mkF m 22 #[.val (.ref a), .val .null, .val .null, .val (.int (-2 : Int32)), .val .null] [.null, (.ref a)]))
  obtain ⟨T67, h67, X67, e67, W67, st67⟩ := putF X58 hx hZ hown (host := "") (Or.inl (hw _ (List.mem_of_getElem? (i := 23) rfl))) Via.refl e58 f63 f60 (Or.inr ⟨(hw _ (List.mem_of_getElem? (i := 24) rfl)), rfl, hnm⟩) (hw _ (List.mem_of_getElem? (i := 5) rfl)) (ty := (.object "java/lang/Object")) (by decide) rfl rfl (g := (mkF m 22 #[.val (.ref a), .val .null, .val .null, .val (.int (-2 : Int32)), .val .null] [.null, (.ref a)])) rfl rfl (hb hby d2_22)
  refine gv st67 ?_
  have f69 : Exa Z h67 a "com/example/pufferfish/pufferfish/pipeline/Envelope" := f60.wr W67
  have f70 : Fld Z h67 a "com/example/pufferfish/pufferfish/pipeline/Envelope" "origin" "Lcom/example/pufferfish/pufferfish/pipeline/Origin;" .null := f61.other W67 (Or.inr (slot_ne (Or.inr (hw _ (List.mem_of_getElem? (i := 18) rfl))) (Or.inr (hw _ (List.mem_of_getElem? (i := 24) rfl))) (by decide) (t := (.object "com/example/pufferfish/pufferfish/pipeline/Origin")) (t' := (.object "java/lang/Object")) (by decide) (by decide)))
  have f71 : Fld Z h67 a "com/example/pufferfish/pufferfish/pipeline/Envelope" "key" "Ljava/lang/Object;" .null := f62.other W67 (Or.inr (slot_ne (Or.inr (hw _ (List.mem_of_getElem? (i := 20) rfl))) (Or.inr (hw _ (List.mem_of_getElem? (i := 24) rfl))) (by decide) (t := (.object "java/lang/Object")) (t' := (.object "java/lang/Object")) (by decide) (by decide)))
  have f72 : Fld Z h67 a "com/example/pufferfish/pufferfish/pipeline/Envelope" "shard" "I" (.int (-2 : Int32)) := f59.other W67 (Or.inr (slot_ne (Or.inr (hw _ (List.mem_of_getElem? (i := 22) rfl))) (Or.inr (hw _ (List.mem_of_getElem? (i := 24) rfl))) (by decide) (t := .int) (t' := (.object "java/lang/Object")) (by decide) (by decide)))
  have O73 := O64.wr W67 u5
  have K74 := K65.wr W67 (Or.inl (List.mem_of_getElem? (i := 0) rfl))
  have N75 := Fr.snoc X67 N66 u5
  have f68 : Fld Z h67 a "com/example/pufferfish/pufferfish/pipeline/Envelope" "record" "Ljava/lang/Object;" .null := f63.same W67
  show G (T67.setTop (mkF m 25 #[.val (.ref a), .val .null, .val .null, .val (.int (-2 : Int32)), .val .null] []))
  refine gf _ (own_ret X67 Bd.notSynchronized (v := none) (fun _ => rfl) ?_ (by decide) (by decide) (fun fs hr => X67.returnOut hx Bd.returns (hb hby d2_25) hr))
  show Q_eiN Z a h0 n0 _ T67.heap _
  rw [e67]
  exact ⟨rfl, N75, K74, f69, f70, f71, f72, f68⟩
theorem ef_4 (m : MethodId)   : entryFrame m #[.null] 1 = mkF m 0 #[.val .null] [] := by first | (simp [entryFrame, mkF, argsToLocals, Value.category]; done) | rfl
theorem d1_0 : decode prog_31_method_3_code 0 = .ok (.new 8, 3) := by decide +kernel
theorem d1_3 : decode prog_31_method_3_code 3 = .ok (.dup, 1) := by decide +kernel
theorem d1_4 : decode prog_31_method_3_code 4 = .ok (.aconst_null, 1) := by decide +kernel
theorem d1_5 : decode prog_31_method_3_code 5 = .ok (.aconst_null, 1) := by decide +kernel
theorem d1_6 : decode prog_31_method_3_code 6 = .ok (.bipush (-2), 2) := by decide +kernel
theorem d1_8 : decode prog_31_method_3_code 8 = .ok (.aload_n 0, 1) := by decide +kernel
theorem d1_9 : decode prog_31_method_3_code 9 = .ok (.invokespecial 24, 3) := by decide +kernel
theorem pd_2 : parseMethodDescriptor "(Lcom/example/pufferfish/pufferfish/pipeline/Origin;Ljava/lang/Object;ILjava/lang/Object;)V" = some ⟨[(.object "com/example/pufferfish/pufferfish/pipeline/Origin"), (.object "java/lang/Object"), .int, (.object "java/lang/Object")], none⟩ := by decide +kernel
theorem d1_12 : decode prog_31_method_3_code 12 = .ok (.areturn, 1) := by decide +kernel
def Q_sigN (Z : State)  (h0 : Heap) (n0 : Nat) (v : Option Value) (h : Heap) (L : List Loc) : Prop := ∃ (b : Addr), v = some (.ref b) ∧ Fr n0 L ∧ Keep h0 h [] ∧ h0.size ≤ b ∧ (Exa Z h b "com/example/pufferfish/pufferfish/pipeline/Envelope") ∧ (Fld Z h b "com/example/pufferfish/pufferfish/pipeline/Envelope" "origin" "Lcom/example/pufferfish/pufferfish/pipeline/Origin;" .null) ∧ (Fld Z h b "com/example/pufferfish/pufferfish/pipeline/Envelope" "key" "Ljava/lang/Object;" .null) ∧ (Fld Z h b "com/example/pufferfish/pufferfish/pipeline/Envelope" "shard" "I" (.int (-2 : Int32))) ∧ (Fld Z h b "com/example/pufferfish/pufferfish/pipeline/Envelope" "record" "Ljava/lang/Object;" .null)
set_option maxRecDepth 65536 in
set_option maxHeartbeats 40000000 in
theorem rm_sigN (l : Launch) (Z : State) (a0 : Array Value) (hw : ∀ d ∈ tables_1, d.before a0 Z = true) (ws : List Jvm.Cond)  (h0 : Heap) (n0 : Nat) (O0 : Old Z n0 h0)  :
    MetFree l (⟨"com/example/pufferfish/pufferfish/pipeline/Envelope", "signal", "(Ljava/lang/Object;)Lcom/example/pufferfish/pufferfish/pipeline/Envelope;"⟩ : MethodName) (head1 (Jvm.Cond.code (⟨"com/example/pufferfish/pufferfish/pipeline/Envelope", "signal", "(Ljava/lang/Object;)Lcom/example/pufferfish/pufferfish/pipeline/Envelope;"⟩ : MethodName) prog_31_method_3_code 1 (some (.object "com/example/pufferfish/pufferfish/pipeline/Envelope")) :: ws) ({ frames := 3, cells := 1, slots := 4, locals := 41 } : Room)) (fun aV U => aV = #[.null] ∧ Z.Warmed39 U.vm ∧ U.heap = h0) (fun _ _ _ _ _ => True) (fun _ U o U' => ∃ v L, o = .returned v ∧ Q_sigN Z  h0 n0 v U'.heap L ∧ FrameEnd U o U' L ({ frames := 3, cells := 1, slots := 4, locals := 41 } : Room).cells ({ frames := 3, cells := 1, slots := 4, locals := 41 } : Room).slots) := by
  refine MetFree.of_bodySF (plainFor_of_name pn_3) hisR ?_
  intro p e s m args below meth c s₁ Bd hml0 hP hK
  obtain ⟨rfl, hZ, hh⟩ := hP
  have hx := Bd.exec
  have hby := Bd.bytes
  have hml : c.maxLocals = 1 := hml0
  have hown : s.vm.findClass "com/example/pufferfish/pufferfish/pipeline/Envelope" = some m.cls := findClass_of_methodNamed Bd.named
  have hnm := (name_of_methodNamed Bd.named Bd.method).1
  have X0 : Stand p l e ({ frames := 3, cells := 1, slots := 4, locals := 41 } : Room) s m #[.null] below meth c s₁ [] 0 0 := Stand.of_body Bd
  have e0 : s₁.heap = h0 := by rw [← hh, Bd.state]; rfl
  have N0 := Fr.nil n0
  have K0 := Keep.refl h0 []
  obtain ⟨G, gv, gf, gb⟩ := own_G p.tables e below s (Q_sigN Z  h0 n0) ({ frames := 3, cells := 1, slots := 4, locals := 41 } : Room).cells ({ frames := 3, cells := 1, slots := 4, locals := 41 } : Room).slots
  show own_Fin p.tables e below s (Q_sigN Z  h0 n0) ({ frames := 3, cells := 1, slots := 4, locals := 41 } : Room).cells ({ frames := 3, cells := 1, slots := 4, locals := 41 } : Room).slots (s₁.setTop (entryFrame m #[.null] 1))
  refine gb _ (gv (fun t k => castTop (ef_4 m ) k) ?_)
  show G (s₁.setTop (mkF m 0 #[.val .null] []))
  obtain ⟨T76, h76, X76, e76, E76, A76, D76, -, st76⟩ := newO X0 hx hZ hown (hw _ (List.mem_of_getElem? (i := 4) rfl)) (hw _ (List.mem_of_getElem? (i := 5) rfl)) (hw _ (List.mem_of_getElem? (i := 2) rfl)) e0 (g := (mkF m 0 #[.val .null] [])) rfl (hb hby d1_0) (by decide) (by decide)
  obtain ⟨b76, g76⟩ : ∃ z, z = h0.size := ⟨_, rfl⟩
  rw [← g76] at A76 D76 st76
  refine gv st76 ?_
  have g77 : n0 ≤ b76 := Nat.le_trans (own_old O0) (Nat.le_of_eq g76.symm)
  have z78 : h0.size ≤ b76 := Nat.le_trans K0.1 (Nat.le_of_eq g76.symm)
  have O79 := O0.ext E76
  have K80 := K0.ext E76
  have f81 : Fld Z h76 b76 "com/example/pufferfish/pufferfish/pipeline/Envelope" "origin" "Lcom/example/pufferfish/pufferfish/pipeline/Origin;" .null := D76 (Or.inr (hw _ (List.mem_of_getElem? (i := 18) rfl))) (ty := (.object "com/example/pufferfish/pufferfish/pipeline/Origin")) (by decide)
  have f82 : Fld Z h76 b76 "com/example/pufferfish/pufferfish/pipeline/Envelope" "key" "Ljava/lang/Object;" .null := D76 (Or.inr (hw _ (List.mem_of_getElem? (i := 20) rfl))) (ty := (.object "java/lang/Object")) (by decide)
  have f83 : Fld Z h76 b76 "com/example/pufferfish/pufferfish/pipeline/Envelope" "shard" "I" (.int (0 : Int32)) := D76 (Or.inr (hw _ (List.mem_of_getElem? (i := 22) rfl))) (ty := .int) (by decide)
  have f84 : Fld Z h76 b76 "com/example/pufferfish/pufferfish/pipeline/Envelope" "record" "Ljava/lang/Object;" .null := D76 (Or.inr (hw _ (List.mem_of_getElem? (i := 24) rfl))) (ty := (.object "java/lang/Object")) (by decide)
  show G (T76.setTop (mkF m 3 #[.val .null] [(.ref b76)]))
  refine gv (fun t k => XS.dup X76.here hx rfl (hb hby d1_3) rfl rfl k) ?_
  show G (T76.setTop (mkF m 4 #[.val .null] [(.ref b76), (.ref b76)]))
  refine gv (fun t k => XS.aconstNull X76.here hx rfl (hb hby d1_4) k) ?_
  show G (T76.setTop (mkF m 5 #[.val .null] [.null, (.ref b76), (.ref b76)]))
  refine gv (fun t k => XS.aconstNull X76.here hx rfl (hb hby d1_5) k) ?_
  show G (T76.setTop (mkF m 6 #[.val .null] [.null, .null, (.ref b76), (.ref b76)]))
  refine gv (fun t k => XS.bipush X76.here hx rfl (hb hby d1_6) k) ?_
  show G (T76.setTop (mkF m 8 #[.val .null] [(.int (-2 : Int32)), .null, .null, (.ref b76), (.ref b76)]))
  refine gv (fun t k => XS.aloadN X76.here hx rfl (hb hby d1_8) rfl rfl k) ?_
  show G (T76.setTop (mkF m 9 #[.val .null] [.null, (.int (-2 : Int32)), .null, .null, (.ref b76), (.ref b76)]))
  obtain ⟨_, _, ⟨T85, L85, k85, n85⟩, -, X85, ⟨Lc85, hQ85, l85, y85, z85⟩, st85⟩ := X76.specialBack hx (y := (⟨"com/example/pufferfish/pufferfish/pipeline/Envelope", "<init>", "(Lcom/example/pufferfish/pufferfish/pipeline/Origin;Ljava/lang/Object;ILjava/lang/Object;)V"⟩ : MethodName)) rfl hown (mvT hZ (hw _ (List.mem_of_getElem? (i := 6) rfl))) (mvT hZ (hw _ (List.mem_of_getElem? (i := 7) rfl))) (mvT hZ (hw _ (List.mem_of_getElem? (i := 8) rfl))) (by decide) (backOf (W := 1) (rm_eiN l Z a0 hw [] b76 h76 n0 O79 A76 f81 f82 f83 f84 g77) hZ (hw _ (List.mem_of_getElem? (i := 8) rfl)) (hw _ (List.mem_of_getElem? (i := 2) rfl)) (by decide) (by decide)) (g := (mkF m 9 #[.val .null] [.null, (.int (-2 : Int32)), .null, .null, (.ref b76), (.ref b76)])) rfl (by rw [hml]; rfl) (Steps.refl _) (a := b76) (argsL := [.null, .null, (.int (-2 : Int32)), .null]) (rest := [(.ref b76)]) (lenOf pd_2 rfl) rfl (by show 2 * 0 + _ ≤ _; exact Nat.le_of_eq rfl) (hb hby d1_9) (fun _ _ => ⟨rfl, e76, (by decide : 1 + 0 ≤ _), (by decide : 4 + 0 ≤ _)⟩)
  dsimp only [Pt.U, Pt.locs, Pt.cells, Pt.slots] at X85 l85 y85 z85 st85 hQ85
  subst l85 y85 z85
  obtain ⟨rfl, Nq85, Kq85, w85_0, w85_1, w85_2, w85_3, w85_4⟩ := hQ85
  have N86 := Fr.app N0 Nq85
  obtain ⟨h85, e85⟩ : ∃ z, T85.heap = z := ⟨_, rfl⟩
  rw [e85] at Kq85 w85_0 w85_1 w85_2 w85_3 w85_4
  have f87 : Exa Z h85 b76 "com/example/pufferfish/pufferfish/pipeline/Envelope" := A76.keep Kq85
  have O88 := O79.keep Kq85 (allS g77 all0)
  have K89 := K80.trans Kq85 (allS (Or.inr z78) all0)
  refine gv (fun t k => st85.trans k) ?_
  show G (T85.setTop (mkF m 12 #[.val .null] [(.ref b76)]))
  refine gf _ (own_ret X85 Bd.notSynchronized (v := some (.ref b76)) (fun h => by rw [Bd.returns] at h; cases h) ?_ (by decide) (by decide) (fun fs hr => retOut X85 hx (t := (.object "com/example/pufferfish/pufferfish/pipeline/Envelope")) Bd.returns rfl (Or.inr (Or.inr (Or.inr (Or.inr ⟨rfl, rfl, rfl⟩)))) (hb hby d1_12) hr))
  show Q_sigN Z  h0 n0 _ T85.heap _
  rw [e85]
  exact ⟨b76, rfl, N86, K89, z78, w85_0, w85_1, w85_2, w85_3, w85_4⟩
theorem d8_0 : decode prog_31_method_10_code 0 = .ok (.aload_n 0, 1) := by decide +kernel
theorem d8_1 : decode prog_31_method_10_code 1 = .ok (.getfield 21, 3) := by decide +kernel
theorem d8_4 : decode prog_31_method_10_code 4 = .ok (.areturn, 1) := by decide +kernel
def Q_getN (Z : State) (a : Addr) (h0 : Heap) (n0 : Nat) (v : Option Value) (h : Heap) (L : List Loc) : Prop := v = some .null ∧ Fr n0 L ∧ h = h0
set_option maxRecDepth 65536 in
set_option maxHeartbeats 40000000 in
theorem rm_getN (l : Launch) (Z : State) (a0 : Array Value) (hw : ∀ d ∈ tables_1, d.before a0 Z = true) (ws : List Jvm.Cond) (a : Addr) (h0 : Heap) (n0 : Nat) (O0 : Old Z n0 h0) (u0 : Fld Z h0 a "com/example/pufferfish/pufferfish/pipeline/Envelope" "record" "Ljava/lang/Object;" .null) :
    MetFree l (⟨"com/example/pufferfish/pufferfish/pipeline/Envelope", "record", "()Ljava/lang/Object;"⟩ : MethodName) (head1 (Jvm.Cond.code (⟨"com/example/pufferfish/pufferfish/pipeline/Envelope", "record", "()Ljava/lang/Object;"⟩ : MethodName) prog_31_method_10_code 1 (some (.object "java/lang/Object")) :: ws) ({ frames := 0, cells := 0, slots := 0, locals := 0 } : Room)) (fun aV U => aV = #[(.ref a)] ∧ Z.Warmed39 U.vm ∧ U.heap = h0) (fun _ _ _ _ _ => True) (fun _ U o U' => ∃ v L, o = .returned v ∧ Q_getN Z a h0 n0 v U'.heap L ∧ FrameEnd U o U' L ({ frames := 0, cells := 0, slots := 0, locals := 0 } : Room).cells ({ frames := 0, cells := 0, slots := 0, locals := 0 } : Room).slots) := by
  refine MetFree.of_bodySF (plainFor_of_name pn_3) hisR ?_
  intro p e s m args below meth c s₁ Bd hml0 hP hK
  obtain ⟨rfl, hZ, hh⟩ := hP
  have hx := Bd.exec
  have hby := Bd.bytes
  have hml : c.maxLocals = 1 := hml0
  have hown : s.vm.findClass "com/example/pufferfish/pufferfish/pipeline/Envelope" = some m.cls := findClass_of_methodNamed Bd.named
  have hnm := (name_of_methodNamed Bd.named Bd.method).1
  have X0 : Stand p l e ({ frames := 0, cells := 0, slots := 0, locals := 0 } : Room) s m #[(.ref a)] below meth c s₁ [] 0 0 := Stand.of_body Bd
  have e0 : s₁.heap = h0 := by rw [← hh, Bd.state]; rfl
  have N0 := Fr.nil n0
  have K0 := Keep.refl h0 []
  obtain ⟨G, gv, gf, gb⟩ := own_G p.tables e below s (Q_getN Z a h0 n0) ({ frames := 0, cells := 0, slots := 0, locals := 0 } : Room).cells ({ frames := 0, cells := 0, slots := 0, locals := 0 } : Room).slots
  show own_Fin p.tables e below s (Q_getN Z a h0 n0) ({ frames := 0, cells := 0, slots := 0, locals := 0 } : Room).cells ({ frames := 0, cells := 0, slots := 0, locals := 0 } : Room).slots (s₁.setTop (entryFrame m #[(.ref a)] 1))
  refine gb _ (gv (fun t k => castTop (ef_0 m a) k) ?_)
  show G (s₁.setTop (mkF m 0 #[.val (.ref a)] []))
  refine gv (fun t k => XS.aloadN X0.here hx rfl (hb hby d8_0) rfl rfl k) ?_
  show G (s₁.setTop (mkF m 1 #[.val (.ref a)] [(.ref a)]))
  obtain ⟨T90, X90, e90, st90⟩ := getF X0 hx hZ hown (host := "") (Or.inl (hw _ (List.mem_of_getElem? (i := 23) rfl))) Via.refl e0 u0 (g := (mkF m 1 #[.val (.ref a)] [(.ref a)])) rfl rfl (hb hby d8_1)
  refine gv st90 ?_
  show G (T90.setTop (mkF m 4 #[.val (.ref a)] [.null]))
  refine gf _ (own_ret X90 Bd.notSynchronized (v := some .null) (fun h => by rw [Bd.returns] at h; cases h) ?_ (by decide) (by decide) (fun fs hr => retOut X90 hx (t := (.object "java/lang/Object")) Bd.returns rfl (Or.inr (Or.inr (Or.inr (Or.inr ⟨rfl, rfl, rfl⟩)))) (hb hby d8_4) hr))
  show Q_getN Z a h0 n0 _ T90.heap _
  rw [e90]
  exact ⟨rfl, N0, rfl⟩
theorem ef_5 (m : MethodId) (x0 : Addr) (x3 : Int32) (x4 : Addr)  : entryFrame m #[(.ref x0), .null, .null, (.int x3), (.ref x4)] 5 = mkF m 0 #[.val (.ref x0), .val .null, .val .null, .val (.int x3), .val (.ref x4)] [] := by first | (simp [entryFrame, mkF, argsToLocals, Value.category]; done) | rfl
def Q_eiR (Z : State) (a : Addr) (r : Addr) (h0 : Heap) (n0 : Nat) (v : Option Value) (h : Heap) (L : List Loc) : Prop := v = none ∧ Fr n0 L ∧ Keep h0 h [a] ∧ (Exa Z h a "com/example/pufferfish/pufferfish/pipeline/Envelope") ∧ (Fld Z h a "com/example/pufferfish/pufferfish/pipeline/Envelope" "origin" "Lcom/example/pufferfish/pufferfish/pipeline/Origin;" .null) ∧ (Fld Z h a "com/example/pufferfish/pufferfish/pipeline/Envelope" "key" "Ljava/lang/Object;" .null) ∧ (Fld Z h a "com/example/pufferfish/pufferfish/pipeline/Envelope" "shard" "I" (.int (-2 : Int32))) ∧ (Fld Z h a "com/example/pufferfish/pufferfish/pipeline/Envelope" "record" "Ljava/lang/Object;" (.ref r))
set_option maxRecDepth 65536 in
set_option maxHeartbeats 40000000 in
theorem rm_eiR (l : Launch) (Z : State) (a0 : Array Value) (hw : ∀ d ∈ tables_1, d.before a0 Z = true) (ws : List Jvm.Cond) (a : Addr) (r : Addr) (h0 : Heap) (n0 : Nat) (O0 : Old Z n0 h0) (u0 : Exa Z h0 a "com/example/pufferfish/pufferfish/pipeline/Envelope") (u1 : Fld Z h0 a "com/example/pufferfish/pufferfish/pipeline/Envelope" "origin" "Lcom/example/pufferfish/pufferfish/pipeline/Origin;" .null) (u2 : Fld Z h0 a "com/example/pufferfish/pufferfish/pipeline/Envelope" "key" "Ljava/lang/Object;" .null) (u3 : Fld Z h0 a "com/example/pufferfish/pufferfish/pipeline/Envelope" "shard" "I" (.int (0 : Int32))) (u4 : Fld Z h0 a "com/example/pufferfish/pufferfish/pipeline/Envelope" "record" "Ljava/lang/Object;" .null) (u5 : n0 ≤ a) :
    MetFree l (⟨"com/example/pufferfish/pufferfish/pipeline/Envelope", "<init>", "(Lcom/example/pufferfish/pufferfish/pipeline/Origin;Ljava/lang/Object;ILjava/lang/Object;)V"⟩ : MethodName) (head1 (Jvm.Cond.code (⟨"com/example/pufferfish/pufferfish/pipeline/Envelope", "<init>", "(Lcom/example/pufferfish/pufferfish/pipeline/Origin;Ljava/lang/Object;ILjava/lang/Object;)V"⟩ : MethodName) prog_31_method_2_code 5 none :: ws) ({ frames := 2, cells := 0, slots := 0, locals := 24 } : Room)) (fun aV U => aV = #[(.ref a), .null, .null, (.int (-2 : Int32)), (.ref r)] ∧ Z.Warmed39 U.vm ∧ U.heap = h0) (fun _ _ _ _ _ => True) (fun _ U o U' => ∃ v L, o = .returned v ∧ Q_eiR Z a r h0 n0 v U'.heap L ∧ FrameEnd U o U' L ({ frames := 2, cells := 0, slots := 0, locals := 24 } : Room).cells ({ frames := 2, cells := 0, slots := 0, locals := 24 } : Room).slots) := by
  refine MetFree.of_bodySF (plainFor_of_name pn_3) hisR ?_
  intro p e s m args below meth c s₁ Bd hml0 hP hK
  obtain ⟨rfl, hZ, hh⟩ := hP
  have hx := Bd.exec
  have hby := Bd.bytes
  have hml : c.maxLocals = 5 := hml0
  have hown : s.vm.findClass "com/example/pufferfish/pufferfish/pipeline/Envelope" = some m.cls := findClass_of_methodNamed Bd.named
  have hnm := (name_of_methodNamed Bd.named Bd.method).1
  have X0 : Stand p l e ({ frames := 2, cells := 0, slots := 0, locals := 24 } : Room) s m #[(.ref a), .null, .null, (.int (-2 : Int32)), (.ref r)] below meth c s₁ [] 0 0 := Stand.of_body Bd
  have e0 : s₁.heap = h0 := by rw [← hh, Bd.state]; rfl
  have N0 := Fr.nil n0
  have K0 := Keep.refl h0 [a]
  obtain ⟨G, gv, gf, gb⟩ := own_G p.tables e below s (Q_eiR Z a r h0 n0) ({ frames := 2, cells := 0, slots := 0, locals := 24 } : Room).cells ({ frames := 2, cells := 0, slots := 0, locals := 24 } : Room).slots
  show own_Fin p.tables e below s (Q_eiR Z a r h0 n0) ({ frames := 2, cells := 0, slots := 0, locals := 24 } : Room).cells ({ frames := 2, cells := 0, slots := 0, locals := 24 } : Room).slots (s₁.setTop (entryFrame m #[(.ref a), .null, .null, (.int (-2 : Int32)), (.ref r)] 5))
  refine gb _ (gv (fun t k => castTop (ef_5 m a (-2 : Int32) r) k) ?_)
  show G (s₁.setTop (mkF m 0 #[.val (.ref a), .val .null, .val .null, .val (.int (-2 : Int32)), .val (.ref r)] []))
  refine gv (fun t k => XS.aloadN X0.here hx rfl (hb hby d2_0) rfl rfl k) ?_
  show G (s₁.setTop (mkF m 1 #[.val (.ref a), .val .null, .val .null, .val (.int (-2 : Int32)), .val (.ref r)] [(.ref a)]))
  obtain ⟨_, _, ⟨T91, L91, k91, n91⟩, -, X91, ⟨Lc91, hQ91, l91, y91, z91⟩, st91⟩ := X0.specialBack hx (y := (⟨"java/lang/Record", "<init>", "()V"⟩ : MethodName)) rfl hown (mvT hZ (hw _ (List.mem_of_getElem? (i := 9) rfl))) (mvT hZ (hw _ (List.mem_of_getElem? (i := 10) rfl))) (mvT hZ (hw _ (List.mem_of_getElem? (i := 13) rfl))) (by decide) (backOf (W := 0) (rm_rec l Z a0 hw [] a h0 n0 O0 ) hZ (hw _ (List.mem_of_getElem? (i := 13) rfl)) (hw _ (List.mem_of_getElem? (i := 12) rfl)) (by decide) (by decide)) (g := (mkF m 1 #[.val (.ref a), .val .null, .val .null, .val (.int (-2 : Int32)), .val (.ref r)] [(.ref a)])) rfl (by rw [hml]; rfl) (Steps.refl _) (a := a) (argsL := []) (rest := []) (lenOf pd_0 rfl) rfl (by show 2 * 0 + _ ≤ _; exact Nat.le_of_eq rfl) (hb hby d2_1) (fun _ _ => ⟨rfl, e0, (by decide : 0 + 0 ≤ _), (by decide : 0 + 0 ≤ _)⟩)
  dsimp only [Pt.U, Pt.locs, Pt.cells, Pt.slots] at X91 l91 y91 z91 st91 hQ91
  subst l91 y91 z91
  obtain ⟨rfl, Nq91, eq91⟩ := hQ91
  have N92 := Fr.app N0 Nq91
  refine gv (fun t k => st91.trans k) ?_
  show G (T91.setTop (mkF m 4 #[.val (.ref a), .val .null, .val .null, .val (.int (-2 : Int32)), .val (.ref r)] []))
  refine gv (fun t k => XS.aloadN X91.here hx rfl (hb hby d2_4) rfl rfl k) ?_
  show G (T91.setTop (mkF m 5 #[.val (.ref a), .val .null, .val .null, .val (.int (-2 : Int32)), .val (.ref r)] [(.ref a)]))
  refine gv (fun t k => XS.aloadN X91.here hx rfl (hb hby d2_5) rfl rfl k) ?_
  show G (T91.setTop (mkF m 6 #[.val (.ref a), .val .null, .val .null, .val (.int (-2 : Int32)), .val (.ref r)] [.null, (.ref a)]))
  obtain ⟨T93, h93, X93, e93, W93, st93⟩ := putF X91 hx hZ hown (host := "") (Or.inl (hw _ (List.mem_of_getElem? (i := 17) rfl))) Via.refl eq91 u1 u0 (Or.inr ⟨(hw _ (List.mem_of_getElem? (i := 18) rfl)), rfl, hnm⟩) (hw _ (List.mem_of_getElem? (i := 5) rfl)) (ty := (.object "com/example/pufferfish/pufferfish/pipeline/Origin")) (by decide) rfl rfl (g := (mkF m 6 #[.val (.ref a), .val .null, .val .null, .val (.int (-2 : Int32)), .val (.ref r)] [.null, (.ref a)])) rfl rfl (hb hby d2_6)
  refine gv st93 ?_
  have f95 : Exa Z h93 a "com/example/pufferfish/pufferfish/pipeline/Envelope" := u0.wr W93
  have f96 : Fld Z h93 a "com/example/pufferfish/pufferfish/pipeline/Envelope" "key" "Ljava/lang/Object;" .null := u2.other W93 (Or.inr (slot_ne (Or.inr (hw _ (List.mem_of_getElem? (i := 20) rfl))) (Or.inr (hw _ (List.mem_of_getElem? (i := 18) rfl))) (by decide) (t := (.object "java/lang/Object")) (t' := (.object "com/example/pufferfish/pufferfish/pipeline/Origin")) (by decide) (by decide)))
  have f97 : Fld Z h93 a "com/example/pufferfish/pufferfish/pipeline/Envelope" "shard" "I" (.int (0 : Int32)) := u3.other W93 (Or.inr (slot_ne (Or.inr (hw _ (List.mem_of_getElem? (i := 22) rfl))) (Or.inr (hw _ (List.mem_of_getElem? (i := 18) rfl))) (by decide) (t := .int) (t' := (.object "com/example/pufferfish/pufferfish/pipeline/Origin")) (by decide) (by decide)))
  have f98 : Fld Z h93 a "com/example/pufferfish/pufferfish/pipeline/Envelope" "record" "Ljava/lang/Object;" .null := u4.other W93 (Or.inr (slot_ne (Or.inr (hw _ (List.mem_of_getElem? (i := 24) rfl))) (Or.inr (hw _ (List.mem_of_getElem? (i := 18) rfl))) (by decide) (t := (.object "java/lang/Object")) (t' := (.object "com/example/pufferfish/pufferfish/pipeline/Origin")) (by decide) (by decide)))
  have O99 := O0.wr W93 u5
  have K100 := K0.wr W93 (Or.inl (List.mem_of_getElem? (i := 0) rfl))
  have N101 := Fr.snoc X93 N92 u5
  have f94 : Fld Z h93 a "com/example/pufferfish/pufferfish/pipeline/Envelope" "origin" "Lcom/example/pufferfish/pufferfish/pipeline/Origin;" .null := u1.same W93
  show G (T93.setTop (mkF m 9 #[.val (.ref a), .val .null, .val .null, .val (.int (-2 : Int32)), .val (.ref r)] []))
  refine gv (fun t k => XS.aloadN X93.here hx rfl (hb hby d2_9) rfl rfl k) ?_
  show G (T93.setTop (mkF m 10 #[.val (.ref a), .val .null, .val .null, .val (.int (-2 : Int32)), .val (.ref r)] [(.ref a)]))
  refine gv (fun t k => XS.aloadN X93.here hx rfl (hb hby d2_10) rfl rfl k) ?_
  show G (T93.setTop (mkF m 11 #[.val (.ref a), .val .null, .val .null, .val (.int (-2 : Int32)), .val (.ref r)] [.null, (.ref a)]))
  obtain ⟨T102, h102, X102, e102, W102, st102⟩ := putF X93 hx hZ hown (host := "") (Or.inl (hw _ (List.mem_of_getElem? (i := 19) rfl))) Via.refl e93 f96 f95 (Or.inr ⟨(hw _ (List.mem_of_getElem? (i := 20) rfl)), rfl, hnm⟩) (hw _ (List.mem_of_getElem? (i := 5) rfl)) (ty := (.object "java/lang/Object")) (by decide) rfl rfl (g := (mkF m 11 #[.val (.ref a), .val .null, .val .null, .val (.int (-2 : Int32)), .val (.ref r)] [.null, (.ref a)])) rfl rfl (hb hby d2_11)
  refine gv st102 ?_
  have f104 : Exa Z h102 a "com/example/pufferfish/pufferfish/pipeline/Envelope" := f95.wr W102
  have f105 : Fld Z h102 a "com/example/pufferfish/pufferfish/pipeline/Envelope" "origin" "Lcom/example/pufferfish/pufferfish/pipeline/Origin;" .null := f94.other W102 (Or.inr (slot_ne (Or.inr (hw _ (List.mem_of_getElem? (i := 18) rfl))) (Or.inr (hw _ (List.mem_of_getElem? (i := 20) rfl))) (by decide) (t := (.object "com/example/pufferfish/pufferfish/pipeline/Origin")) (t' := (.object "java/lang/Object")) (by decide) (by decide)))
  have f106 : Fld Z h102 a "com/example/pufferfish/pufferfish/pipeline/Envelope" "shard" "I" (.int (0 : Int32)) := f97.other W102 (Or.inr (slot_ne (Or.inr (hw _ (List.mem_of_getElem? (i := 22) rfl))) (Or.inr (hw _ (List.mem_of_getElem? (i := 20) rfl))) (by decide) (t := .int) (t' := (.object "java/lang/Object")) (by decide) (by decide)))
  have f107 : Fld Z h102 a "com/example/pufferfish/pufferfish/pipeline/Envelope" "record" "Ljava/lang/Object;" .null := f98.other W102 (Or.inr (slot_ne (Or.inr (hw _ (List.mem_of_getElem? (i := 24) rfl))) (Or.inr (hw _ (List.mem_of_getElem? (i := 20) rfl))) (by decide) (t := (.object "java/lang/Object")) (t' := (.object "java/lang/Object")) (by decide) (by decide)))
  have O108 := O99.wr W102 u5
  have K109 := K100.wr W102 (Or.inl (List.mem_of_getElem? (i := 0) rfl))
  have N110 := Fr.snoc X102 N101 u5
  have f103 : Fld Z h102 a "com/example/pufferfish/pufferfish/pipeline/Envelope" "key" "Ljava/lang/Object;" .null := f96.same W102
  show G (T102.setTop (mkF m 14 #[.val (.ref a), .val .null, .val .null, .val (.int (-2 : Int32)), .val (.ref r)] []))
  refine gv (fun t k => XS.aloadN X102.here hx rfl (hb hby d2_14) rfl rfl k) ?_
  show G (T102.setTop (mkF m 15 #[.val (.ref a), .val .null, .val .null, .val (.int (-2 : Int32)), .val (.ref r)] [(.ref a)]))
  refine gv (fun t k => XS.iloadN X102.here hx rfl (hb hby d2_15) rfl k) ?_
  show G (T102.setTop (mkF m 16 #[.val (.ref a), .val .null, .val .null, .val (.int (-2 : Int32)), .val (.ref r)] [(.int (-2 : Int32)), (.ref a)]))
  obtain ⟨T111, h111, X111, e111, W111, st111⟩ := putF X102 hx hZ hown (host := "") (Or.inl (hw _ (List.mem_of_getElem? (i := 21) rfl))) Via.refl e102 f106 f104 (Or.inr ⟨(hw _ (List.mem_of_getElem? (i := 22) rfl)), rfl, hnm⟩) (hw _ (List.mem_of_getElem? (i := 5) rfl)) (ty := .int) (by decide) rfl rfl (g := (mkF m 16 #[.val (.ref a), .val .null, .val .null, .val (.int (-2 : Int32)), .val (.ref r)] [(.int (-2 : Int32)), (.ref a)])) rfl rfl (hb hby d2_16)
  refine gv st111 ?_
  have f113 : Exa Z h111 a "com/example/pufferfish/pufferfish/pipeline/Envelope" := f104.wr W111
  have f114 : Fld Z h111 a "com/example/pufferfish/pufferfish/pipeline/Envelope" "origin" "Lcom/example/pufferfish/pufferfish/pipeline/Origin;" .null := f105.other W111 (Or.inr (slot_ne (Or.inr (hw _ (List.mem_of_getElem? (i := 18) rfl))) (Or.inr (hw _ (List.mem_of_getElem? (i := 22) rfl))) (by decide) (t := (.object "com/example/pufferfish/pufferfish/pipeline/Origin")) (t' := .int) (by decide) (by decide)))
  have f115 : Fld Z h111 a "com/example/pufferfish/pufferfish/pipeline/Envelope" "key" "Ljava/lang/Object;" .null := f103.other W111 (Or.inr (slot_ne (Or.inr (hw _ (List.mem_of_getElem? (i := 20) rfl))) (Or.inr (hw _ (List.mem_of_getElem? (i := 22) rfl))) (by decide) (t := (.object "java/lang/Object")) (t' := .int) (by decide) (by decide)))
  have f116 : Fld Z h111 a "com/example/pufferfish/pufferfish/pipeline/Envelope" "record" "Ljava/lang/Object;" .null := f107.other W111 (Or.inr (slot_ne (Or.inr (hw _ (List.mem_of_getElem? (i := 24) rfl))) (Or.inr (hw _ (List.mem_of_getElem? (i := 22) rfl))) (by decide) (t := (.object "java/lang/Object")) (t' := .int) (by decide) (by decide)))
  have O117 := O108.wr W111 u5
  have K118 := K109.wr W111 (Or.inl (List.mem_of_getElem? (i := 0) rfl))
  have N119 := Fr.snoc X111 N110 u5
  have f112 : Fld Z h111 a "com/example/pufferfish/pufferfish/pipeline/Envelope" "shard" "I" (.int (-2 : Int32)) := f106.same W111
  show G (T111.setTop (mkF m 19 #[.val (.ref a), .val .null, .val .null, .val (.int (-2 : Int32)), .val (.ref r)] []))
  refine gv (fun t k => XS.aloadN X111.here hx rfl (hb hby d2_19) rfl rfl k) ?_
  show G (T111.setTop (mkF m 20 #[.val (.ref a), .val .null, .val .null, .val (.int (-2 : Int32)), .val (.ref r)] [(.ref a)]))
  refine gv (fun t k => XS.aload X111.here hx rfl (hb hby d2_20) rfl rfl k) ?_
  show G (T111.setTop (mkF m 22 #[.val (.ref a), .val .null, .val .null, .val (.int (-2 : Int32)), .val (.ref r)] [(.ref r), (.ref a)]))
  obtain ⟨T120, h120, X120, e120, W120, st120⟩ := putF X111 hx hZ hown (host := "") (Or.inl (hw _ (List.mem_of_getElem? (i := 23) rfl))) Via.refl e111 f116 f113 (Or.inr ⟨(hw _ (List.mem_of_getElem? (i := 24) rfl)), rfl, hnm⟩) (hw _ (List.mem_of_getElem? (i := 5) rfl)) (ty := (.object "java/lang/Object")) (by decide) rfl rfl (g := (mkF m 22 #[.val (.ref a), .val .null, .val .null, .val (.int (-2 : Int32)), .val (.ref r)] [(.ref r), (.ref a)])) rfl rfl (hb hby d2_22)
  refine gv st120 ?_
  have f122 : Exa Z h120 a "com/example/pufferfish/pufferfish/pipeline/Envelope" := f113.wr W120
  have f123 : Fld Z h120 a "com/example/pufferfish/pufferfish/pipeline/Envelope" "origin" "Lcom/example/pufferfish/pufferfish/pipeline/Origin;" .null := f114.other W120 (Or.inr (slot_ne (Or.inr (hw _ (List.mem_of_getElem? (i := 18) rfl))) (Or.inr (hw _ (List.mem_of_getElem? (i := 24) rfl))) (by decide) (t := (.object "com/example/pufferfish/pufferfish/pipeline/Origin")) (t' := (.object "java/lang/Object")) (by decide) (by decide)))
  have f124 : Fld Z h120 a "com/example/pufferfish/pufferfish/pipeline/Envelope" "key" "Ljava/lang/Object;" .null := f115.other W120 (Or.inr (slot_ne (Or.inr (hw _ (List.mem_of_getElem? (i := 20) rfl))) (Or.inr (hw _ (List.mem_of_getElem? (i := 24) rfl))) (by decide) (t := (.object "java/lang/Object")) (t' := (.object "java/lang/Object")) (by decide) (by decide)))
  have f125 : Fld Z h120 a "com/example/pufferfish/pufferfish/pipeline/Envelope" "shard" "I" (.int (-2 : Int32)) := f112.other W120 (Or.inr (slot_ne (Or.inr (hw _ (List.mem_of_getElem? (i := 22) rfl))) (Or.inr (hw _ (List.mem_of_getElem? (i := 24) rfl))) (by decide) (t := .int) (t' := (.object "java/lang/Object")) (by decide) (by decide)))
  have O126 := O117.wr W120 u5
  have K127 := K118.wr W120 (Or.inl (List.mem_of_getElem? (i := 0) rfl))
  have N128 := Fr.snoc X120 N119 u5
  have f121 : Fld Z h120 a "com/example/pufferfish/pufferfish/pipeline/Envelope" "record" "Ljava/lang/Object;" (.ref r) := f116.same W120
  show G (T120.setTop (mkF m 25 #[.val (.ref a), .val .null, .val .null, .val (.int (-2 : Int32)), .val (.ref r)] []))
  refine gf _ (own_ret X120 Bd.notSynchronized (v := none) (fun _ => rfl) ?_ (by decide) (by decide) (fun fs hr => X120.returnOut hx Bd.returns (hb hby d2_25) hr))
  show Q_eiR Z a r h0 n0 _ T120.heap _
  rw [e120]
  exact ⟨rfl, N128, K127, f122, f123, f124, f125, f121⟩
def Q_sigR (Z : State) (r : Addr) (h0 : Heap) (n0 : Nat) (v : Option Value) (h : Heap) (L : List Loc) : Prop := ∃ (b : Addr), v = some (.ref b) ∧ Fr n0 L ∧ Keep h0 h [] ∧ h0.size ≤ b ∧ (Exa Z h b "com/example/pufferfish/pufferfish/pipeline/Envelope") ∧ (Fld Z h b "com/example/pufferfish/pufferfish/pipeline/Envelope" "origin" "Lcom/example/pufferfish/pufferfish/pipeline/Origin;" .null) ∧ (Fld Z h b "com/example/pufferfish/pufferfish/pipeline/Envelope" "key" "Ljava/lang/Object;" .null) ∧ (Fld Z h b "com/example/pufferfish/pufferfish/pipeline/Envelope" "shard" "I" (.int (-2 : Int32))) ∧ (Fld Z h b "com/example/pufferfish/pufferfish/pipeline/Envelope" "record" "Ljava/lang/Object;" (.ref r))
set_option maxRecDepth 65536 in
set_option maxHeartbeats 40000000 in
theorem rm_sigR (l : Launch) (Z : State) (a0 : Array Value) (hw : ∀ d ∈ tables_1, d.before a0 Z = true) (ws : List Jvm.Cond) (r : Addr) (h0 : Heap) (n0 : Nat) (O0 : Old Z n0 h0)  :
    MetFree l (⟨"com/example/pufferfish/pufferfish/pipeline/Envelope", "signal", "(Ljava/lang/Object;)Lcom/example/pufferfish/pufferfish/pipeline/Envelope;"⟩ : MethodName) (head1 (Jvm.Cond.code (⟨"com/example/pufferfish/pufferfish/pipeline/Envelope", "signal", "(Ljava/lang/Object;)Lcom/example/pufferfish/pufferfish/pipeline/Envelope;"⟩ : MethodName) prog_31_method_3_code 1 (some (.object "com/example/pufferfish/pufferfish/pipeline/Envelope")) :: ws) ({ frames := 3, cells := 1, slots := 4, locals := 41 } : Room)) (fun aV U => aV = #[(.ref r)] ∧ Z.Warmed39 U.vm ∧ U.heap = h0) (fun _ _ _ _ _ => True) (fun _ U o U' => ∃ v L, o = .returned v ∧ Q_sigR Z r h0 n0 v U'.heap L ∧ FrameEnd U o U' L ({ frames := 3, cells := 1, slots := 4, locals := 41 } : Room).cells ({ frames := 3, cells := 1, slots := 4, locals := 41 } : Room).slots) := by
  refine MetFree.of_bodySF (plainFor_of_name pn_3) hisR ?_
  intro p e s m args below meth c s₁ Bd hml0 hP hK
  obtain ⟨rfl, hZ, hh⟩ := hP
  have hx := Bd.exec
  have hby := Bd.bytes
  have hml : c.maxLocals = 1 := hml0
  have hown : s.vm.findClass "com/example/pufferfish/pufferfish/pipeline/Envelope" = some m.cls := findClass_of_methodNamed Bd.named
  have hnm := (name_of_methodNamed Bd.named Bd.method).1
  have X0 : Stand p l e ({ frames := 3, cells := 1, slots := 4, locals := 41 } : Room) s m #[(.ref r)] below meth c s₁ [] 0 0 := Stand.of_body Bd
  have e0 : s₁.heap = h0 := by rw [← hh, Bd.state]; rfl
  have N0 := Fr.nil n0
  have K0 := Keep.refl h0 []
  obtain ⟨G, gv, gf, gb⟩ := own_G p.tables e below s (Q_sigR Z r h0 n0) ({ frames := 3, cells := 1, slots := 4, locals := 41 } : Room).cells ({ frames := 3, cells := 1, slots := 4, locals := 41 } : Room).slots
  show own_Fin p.tables e below s (Q_sigR Z r h0 n0) ({ frames := 3, cells := 1, slots := 4, locals := 41 } : Room).cells ({ frames := 3, cells := 1, slots := 4, locals := 41 } : Room).slots (s₁.setTop (entryFrame m #[(.ref r)] 1))
  refine gb _ (gv (fun t k => castTop (ef_0 m r) k) ?_)
  show G (s₁.setTop (mkF m 0 #[.val (.ref r)] []))
  obtain ⟨T129, h129, X129, e129, E129, A129, D129, -, st129⟩ := newO X0 hx hZ hown (hw _ (List.mem_of_getElem? (i := 4) rfl)) (hw _ (List.mem_of_getElem? (i := 5) rfl)) (hw _ (List.mem_of_getElem? (i := 2) rfl)) e0 (g := (mkF m 0 #[.val (.ref r)] [])) rfl (hb hby d1_0) (by decide) (by decide)
  obtain ⟨b129, g129⟩ : ∃ z, z = h0.size := ⟨_, rfl⟩
  rw [← g129] at A129 D129 st129
  refine gv st129 ?_
  have g130 : n0 ≤ b129 := Nat.le_trans (own_old O0) (Nat.le_of_eq g129.symm)
  have z131 : h0.size ≤ b129 := Nat.le_trans K0.1 (Nat.le_of_eq g129.symm)
  have O132 := O0.ext E129
  have K133 := K0.ext E129
  have f134 : Fld Z h129 b129 "com/example/pufferfish/pufferfish/pipeline/Envelope" "origin" "Lcom/example/pufferfish/pufferfish/pipeline/Origin;" .null := D129 (Or.inr (hw _ (List.mem_of_getElem? (i := 18) rfl))) (ty := (.object "com/example/pufferfish/pufferfish/pipeline/Origin")) (by decide)
  have f135 : Fld Z h129 b129 "com/example/pufferfish/pufferfish/pipeline/Envelope" "key" "Ljava/lang/Object;" .null := D129 (Or.inr (hw _ (List.mem_of_getElem? (i := 20) rfl))) (ty := (.object "java/lang/Object")) (by decide)
  have f136 : Fld Z h129 b129 "com/example/pufferfish/pufferfish/pipeline/Envelope" "shard" "I" (.int (0 : Int32)) := D129 (Or.inr (hw _ (List.mem_of_getElem? (i := 22) rfl))) (ty := .int) (by decide)
  have f137 : Fld Z h129 b129 "com/example/pufferfish/pufferfish/pipeline/Envelope" "record" "Ljava/lang/Object;" .null := D129 (Or.inr (hw _ (List.mem_of_getElem? (i := 24) rfl))) (ty := (.object "java/lang/Object")) (by decide)
  show G (T129.setTop (mkF m 3 #[.val (.ref r)] [(.ref b129)]))
  refine gv (fun t k => XS.dup X129.here hx rfl (hb hby d1_3) rfl rfl k) ?_
  show G (T129.setTop (mkF m 4 #[.val (.ref r)] [(.ref b129), (.ref b129)]))
  refine gv (fun t k => XS.aconstNull X129.here hx rfl (hb hby d1_4) k) ?_
  show G (T129.setTop (mkF m 5 #[.val (.ref r)] [.null, (.ref b129), (.ref b129)]))
  refine gv (fun t k => XS.aconstNull X129.here hx rfl (hb hby d1_5) k) ?_
  show G (T129.setTop (mkF m 6 #[.val (.ref r)] [.null, .null, (.ref b129), (.ref b129)]))
  refine gv (fun t k => XS.bipush X129.here hx rfl (hb hby d1_6) k) ?_
  show G (T129.setTop (mkF m 8 #[.val (.ref r)] [(.int (-2 : Int32)), .null, .null, (.ref b129), (.ref b129)]))
  refine gv (fun t k => XS.aloadN X129.here hx rfl (hb hby d1_8) rfl rfl k) ?_
  show G (T129.setTop (mkF m 9 #[.val (.ref r)] [(.ref r), (.int (-2 : Int32)), .null, .null, (.ref b129), (.ref b129)]))
  obtain ⟨_, _, ⟨T138, L138, k138, n138⟩, -, X138, ⟨Lc138, hQ138, l138, y138, z138⟩, st138⟩ := X129.specialBack hx (y := (⟨"com/example/pufferfish/pufferfish/pipeline/Envelope", "<init>", "(Lcom/example/pufferfish/pufferfish/pipeline/Origin;Ljava/lang/Object;ILjava/lang/Object;)V"⟩ : MethodName)) rfl hown (mvT hZ (hw _ (List.mem_of_getElem? (i := 6) rfl))) (mvT hZ (hw _ (List.mem_of_getElem? (i := 7) rfl))) (mvT hZ (hw _ (List.mem_of_getElem? (i := 8) rfl))) (by decide) (backOf (W := 1) (rm_eiR l Z a0 hw [] b129 r h129 n0 O132 A129 f134 f135 f136 f137 g130) hZ (hw _ (List.mem_of_getElem? (i := 8) rfl)) (hw _ (List.mem_of_getElem? (i := 2) rfl)) (by decide) (by decide)) (g := (mkF m 9 #[.val (.ref r)] [(.ref r), (.int (-2 : Int32)), .null, .null, (.ref b129), (.ref b129)])) rfl (by rw [hml]; rfl) (Steps.refl _) (a := b129) (argsL := [.null, .null, (.int (-2 : Int32)), (.ref r)]) (rest := [(.ref b129)]) (lenOf pd_2 rfl) rfl (by show 2 * 0 + _ ≤ _; exact Nat.le_of_eq rfl) (hb hby d1_9) (fun _ _ => ⟨rfl, e129, (by decide : 1 + 0 ≤ _), (by decide : 4 + 0 ≤ _)⟩)
  dsimp only [Pt.U, Pt.locs, Pt.cells, Pt.slots] at X138 l138 y138 z138 st138 hQ138
  subst l138 y138 z138
  obtain ⟨rfl, Nq138, Kq138, w138_0, w138_1, w138_2, w138_3, w138_4⟩ := hQ138
  have N139 := Fr.app N0 Nq138
  obtain ⟨h138, e138⟩ : ∃ z, T138.heap = z := ⟨_, rfl⟩
  rw [e138] at Kq138 w138_0 w138_1 w138_2 w138_3 w138_4
  have f140 : Exa Z h138 b129 "com/example/pufferfish/pufferfish/pipeline/Envelope" := A129.keep Kq138
  have O141 := O132.keep Kq138 (allS g130 all0)
  have K142 := K133.trans Kq138 (allS (Or.inr z131) all0)
  refine gv (fun t k => st138.trans k) ?_
  show G (T138.setTop (mkF m 12 #[.val (.ref r)] [(.ref b129)]))
  refine gf _ (own_ret X138 Bd.notSynchronized (v := some (.ref b129)) (fun h => by rw [Bd.returns] at h; cases h) ?_ (by decide) (by decide) (fun fs hr => retOut X138 hx (t := (.object "com/example/pufferfish/pufferfish/pipeline/Envelope")) Bd.returns rfl (Or.inr (Or.inr (Or.inr (Or.inr ⟨rfl, rfl, rfl⟩)))) (hb hby d1_12) hr))
  show Q_sigR Z r h0 n0 _ T138.heap _
  rw [e138]
  exact ⟨b129, rfl, N139, K142, z131, w138_0, w138_1, w138_2, w138_3, w138_4⟩
def Q_getR (Z : State) (a : Addr) (r : Addr) (h0 : Heap) (n0 : Nat) (v : Option Value) (h : Heap) (L : List Loc) : Prop := v = some (.ref r) ∧ Fr n0 L ∧ h = h0
set_option maxRecDepth 65536 in
set_option maxHeartbeats 40000000 in
theorem rm_getR (l : Launch) (Z : State) (a0 : Array Value) (hw : ∀ d ∈ tables_1, d.before a0 Z = true) (ws : List Jvm.Cond) (a : Addr) (r : Addr) (h0 : Heap) (n0 : Nat) (O0 : Old Z n0 h0) (u0 : Fld Z h0 a "com/example/pufferfish/pufferfish/pipeline/Envelope" "record" "Ljava/lang/Object;" (.ref r)) :
    MetFree l (⟨"com/example/pufferfish/pufferfish/pipeline/Envelope", "record", "()Ljava/lang/Object;"⟩ : MethodName) (head1 (Jvm.Cond.code (⟨"com/example/pufferfish/pufferfish/pipeline/Envelope", "record", "()Ljava/lang/Object;"⟩ : MethodName) prog_31_method_10_code 1 (some (.object "java/lang/Object")) :: ws) ({ frames := 0, cells := 0, slots := 0, locals := 0 } : Room)) (fun aV U => aV = #[(.ref a)] ∧ Z.Warmed39 U.vm ∧ U.heap = h0) (fun _ _ _ _ _ => True) (fun _ U o U' => ∃ v L, o = .returned v ∧ Q_getR Z a r h0 n0 v U'.heap L ∧ FrameEnd U o U' L ({ frames := 0, cells := 0, slots := 0, locals := 0 } : Room).cells ({ frames := 0, cells := 0, slots := 0, locals := 0 } : Room).slots) := by
  refine MetFree.of_bodySF (plainFor_of_name pn_3) hisR ?_
  intro p e s m args below meth c s₁ Bd hml0 hP hK
  obtain ⟨rfl, hZ, hh⟩ := hP
  have hx := Bd.exec
  have hby := Bd.bytes
  have hml : c.maxLocals = 1 := hml0
  have hown : s.vm.findClass "com/example/pufferfish/pufferfish/pipeline/Envelope" = some m.cls := findClass_of_methodNamed Bd.named
  have hnm := (name_of_methodNamed Bd.named Bd.method).1
  have X0 : Stand p l e ({ frames := 0, cells := 0, slots := 0, locals := 0 } : Room) s m #[(.ref a)] below meth c s₁ [] 0 0 := Stand.of_body Bd
  have e0 : s₁.heap = h0 := by rw [← hh, Bd.state]; rfl
  have N0 := Fr.nil n0
  have K0 := Keep.refl h0 []
  obtain ⟨G, gv, gf, gb⟩ := own_G p.tables e below s (Q_getR Z a r h0 n0) ({ frames := 0, cells := 0, slots := 0, locals := 0 } : Room).cells ({ frames := 0, cells := 0, slots := 0, locals := 0 } : Room).slots
  show own_Fin p.tables e below s (Q_getR Z a r h0 n0) ({ frames := 0, cells := 0, slots := 0, locals := 0 } : Room).cells ({ frames := 0, cells := 0, slots := 0, locals := 0 } : Room).slots (s₁.setTop (entryFrame m #[(.ref a)] 1))
  refine gb _ (gv (fun t k => castTop (ef_0 m a) k) ?_)
  show G (s₁.setTop (mkF m 0 #[.val (.ref a)] []))
  refine gv (fun t k => XS.aloadN X0.here hx rfl (hb hby d8_0) rfl rfl k) ?_
  show G (s₁.setTop (mkF m 1 #[.val (.ref a)] [(.ref a)]))
  obtain ⟨T143, X143, e143, st143⟩ := getF X0 hx hZ hown (host := "") (Or.inl (hw _ (List.mem_of_getElem? (i := 23) rfl))) Via.refl e0 u0 (g := (mkF m 1 #[.val (.ref a)] [(.ref a)])) rfl rfl (hb hby d8_1)
  refine gv st143 ?_
  show G (T143.setTop (mkF m 4 #[.val (.ref a)] [(.ref r)]))
  refine gf _ (own_ret X143 Bd.notSynchronized (v := some (.ref r)) (fun h => by rw [Bd.returns] at h; cases h) ?_ (by decide) (by decide) (fun fs hr => retOut X143 hx (t := (.object "java/lang/Object")) Bd.returns rfl (Or.inr (Or.inr (Or.inr (Or.inr ⟨rfl, rfl, rfl⟩)))) (hb hby d8_4) hr))
  show Q_getR Z a r h0 n0 _ T143.heap _
  rw [e143]
  exact ⟨rfl, N0, rfl⟩
theorem d5_0 : decode prog_31_method_7_code 0 = .ok (.aload_n 0, 1) := by decide +kernel
theorem d5_1 : decode prog_31_method_7_code 1 = .ok (.getfield 7, 3) := by decide +kernel
theorem d5_4 : decode prog_31_method_7_code 4 = .ok (.areturn, 1) := by decide +kernel
def Q_org (Z : State) (a : Addr) (h0 : Heap) (n0 : Nat) (v : Option Value) (h : Heap) (L : List Loc) : Prop := v = some .null ∧ Fr n0 L ∧ h = h0
set_option maxRecDepth 65536 in
set_option maxHeartbeats 40000000 in
theorem rm_org (l : Launch) (Z : State) (a0 : Array Value) (hw : ∀ d ∈ tables_1, d.before a0 Z = true) (ws : List Jvm.Cond) (a : Addr) (h0 : Heap) (n0 : Nat) (O0 : Old Z n0 h0) (u0 : Fld Z h0 a "com/example/pufferfish/pufferfish/pipeline/Envelope" "origin" "Lcom/example/pufferfish/pufferfish/pipeline/Origin;" .null) :
    MetFree l (⟨"com/example/pufferfish/pufferfish/pipeline/Envelope", "origin", "()Lcom/example/pufferfish/pufferfish/pipeline/Origin;"⟩ : MethodName) (head1 (Jvm.Cond.code (⟨"com/example/pufferfish/pufferfish/pipeline/Envelope", "origin", "()Lcom/example/pufferfish/pufferfish/pipeline/Origin;"⟩ : MethodName) prog_31_method_7_code 1 (some (.object "com/example/pufferfish/pufferfish/pipeline/Origin")) :: ws) ({ frames := 0, cells := 0, slots := 0, locals := 0 } : Room)) (fun aV U => aV = #[(.ref a)] ∧ Z.Warmed39 U.vm ∧ U.heap = h0) (fun _ _ _ _ _ => True) (fun _ U o U' => ∃ v L, o = .returned v ∧ Q_org Z a h0 n0 v U'.heap L ∧ FrameEnd U o U' L ({ frames := 0, cells := 0, slots := 0, locals := 0 } : Room).cells ({ frames := 0, cells := 0, slots := 0, locals := 0 } : Room).slots) := by
  refine MetFree.of_bodySF (plainFor_of_name pn_3) hisR ?_
  intro p e s m args below meth c s₁ Bd hml0 hP hK
  obtain ⟨rfl, hZ, hh⟩ := hP
  have hx := Bd.exec
  have hby := Bd.bytes
  have hml : c.maxLocals = 1 := hml0
  have hown : s.vm.findClass "com/example/pufferfish/pufferfish/pipeline/Envelope" = some m.cls := findClass_of_methodNamed Bd.named
  have hnm := (name_of_methodNamed Bd.named Bd.method).1
  have X0 : Stand p l e ({ frames := 0, cells := 0, slots := 0, locals := 0 } : Room) s m #[(.ref a)] below meth c s₁ [] 0 0 := Stand.of_body Bd
  have e0 : s₁.heap = h0 := by rw [← hh, Bd.state]; rfl
  have N0 := Fr.nil n0
  have K0 := Keep.refl h0 []
  obtain ⟨G, gv, gf, gb⟩ := own_G p.tables e below s (Q_org Z a h0 n0) ({ frames := 0, cells := 0, slots := 0, locals := 0 } : Room).cells ({ frames := 0, cells := 0, slots := 0, locals := 0 } : Room).slots
  show own_Fin p.tables e below s (Q_org Z a h0 n0) ({ frames := 0, cells := 0, slots := 0, locals := 0 } : Room).cells ({ frames := 0, cells := 0, slots := 0, locals := 0 } : Room).slots (s₁.setTop (entryFrame m #[(.ref a)] 1))
  refine gb _ (gv (fun t k => castTop (ef_0 m a) k) ?_)
  show G (s₁.setTop (mkF m 0 #[.val (.ref a)] []))
  refine gv (fun t k => XS.aloadN X0.here hx rfl (hb hby d5_0) rfl rfl k) ?_
  show G (s₁.setTop (mkF m 1 #[.val (.ref a)] [(.ref a)]))
  obtain ⟨T144, X144, e144, st144⟩ := getF X0 hx hZ hown (host := "") (Or.inl (hw _ (List.mem_of_getElem? (i := 17) rfl))) Via.refl e0 u0 (g := (mkF m 1 #[.val (.ref a)] [(.ref a)])) rfl rfl (hb hby d5_1)
  refine gv st144 ?_
  show G (T144.setTop (mkF m 4 #[.val (.ref a)] [.null]))
  refine gf _ (own_ret X144 Bd.notSynchronized (v := some .null) (fun h => by rw [Bd.returns] at h; cases h) ?_ (by decide) (by decide) (fun fs hr => retOut X144 hx (t := (.object "com/example/pufferfish/pufferfish/pipeline/Origin")) Bd.returns rfl (Or.inr (Or.inr (Or.inr (Or.inr ⟨rfl, rfl, rfl⟩)))) (hb hby d5_4) hr))
  show Q_org Z a h0 n0 _ T144.heap _
  rw [e144]
  exact ⟨rfl, N0, rfl⟩
theorem d6_0 : decode prog_31_method_8_code 0 = .ok (.aload_n 0, 1) := by decide +kernel
theorem d6_1 : decode prog_31_method_8_code 1 = .ok (.getfield 13, 3) := by decide +kernel
theorem d6_4 : decode prog_31_method_8_code 4 = .ok (.areturn, 1) := by decide +kernel
def Q_key (Z : State) (a : Addr) (h0 : Heap) (n0 : Nat) (v : Option Value) (h : Heap) (L : List Loc) : Prop := v = some .null ∧ Fr n0 L ∧ h = h0
set_option maxRecDepth 65536 in
set_option maxHeartbeats 40000000 in
theorem rm_key (l : Launch) (Z : State) (a0 : Array Value) (hw : ∀ d ∈ tables_1, d.before a0 Z = true) (ws : List Jvm.Cond) (a : Addr) (h0 : Heap) (n0 : Nat) (O0 : Old Z n0 h0) (u0 : Fld Z h0 a "com/example/pufferfish/pufferfish/pipeline/Envelope" "key" "Ljava/lang/Object;" .null) :
    MetFree l (⟨"com/example/pufferfish/pufferfish/pipeline/Envelope", "key", "()Ljava/lang/Object;"⟩ : MethodName) (head1 (Jvm.Cond.code (⟨"com/example/pufferfish/pufferfish/pipeline/Envelope", "key", "()Ljava/lang/Object;"⟩ : MethodName) prog_31_method_8_code 1 (some (.object "java/lang/Object")) :: ws) ({ frames := 0, cells := 0, slots := 0, locals := 0 } : Room)) (fun aV U => aV = #[(.ref a)] ∧ Z.Warmed39 U.vm ∧ U.heap = h0) (fun _ _ _ _ _ => True) (fun _ U o U' => ∃ v L, o = .returned v ∧ Q_key Z a h0 n0 v U'.heap L ∧ FrameEnd U o U' L ({ frames := 0, cells := 0, slots := 0, locals := 0 } : Room).cells ({ frames := 0, cells := 0, slots := 0, locals := 0 } : Room).slots) := by
  refine MetFree.of_bodySF (plainFor_of_name pn_3) hisR ?_
  intro p e s m args below meth c s₁ Bd hml0 hP hK
  obtain ⟨rfl, hZ, hh⟩ := hP
  have hx := Bd.exec
  have hby := Bd.bytes
  have hml : c.maxLocals = 1 := hml0
  have hown : s.vm.findClass "com/example/pufferfish/pufferfish/pipeline/Envelope" = some m.cls := findClass_of_methodNamed Bd.named
  have hnm := (name_of_methodNamed Bd.named Bd.method).1
  have X0 : Stand p l e ({ frames := 0, cells := 0, slots := 0, locals := 0 } : Room) s m #[(.ref a)] below meth c s₁ [] 0 0 := Stand.of_body Bd
  have e0 : s₁.heap = h0 := by rw [← hh, Bd.state]; rfl
  have N0 := Fr.nil n0
  have K0 := Keep.refl h0 []
  obtain ⟨G, gv, gf, gb⟩ := own_G p.tables e below s (Q_key Z a h0 n0) ({ frames := 0, cells := 0, slots := 0, locals := 0 } : Room).cells ({ frames := 0, cells := 0, slots := 0, locals := 0 } : Room).slots
  show own_Fin p.tables e below s (Q_key Z a h0 n0) ({ frames := 0, cells := 0, slots := 0, locals := 0 } : Room).cells ({ frames := 0, cells := 0, slots := 0, locals := 0 } : Room).slots (s₁.setTop (entryFrame m #[(.ref a)] 1))
  refine gb _ (gv (fun t k => castTop (ef_0 m a) k) ?_)
  show G (s₁.setTop (mkF m 0 #[.val (.ref a)] []))
  refine gv (fun t k => XS.aloadN X0.here hx rfl (hb hby d6_0) rfl rfl k) ?_
  show G (s₁.setTop (mkF m 1 #[.val (.ref a)] [(.ref a)]))
  obtain ⟨T145, X145, e145, st145⟩ := getF X0 hx hZ hown (host := "") (Or.inl (hw _ (List.mem_of_getElem? (i := 19) rfl))) Via.refl e0 u0 (g := (mkF m 1 #[.val (.ref a)] [(.ref a)])) rfl rfl (hb hby d6_1)
  refine gv st145 ?_
  show G (T145.setTop (mkF m 4 #[.val (.ref a)] [.null]))
  refine gf _ (own_ret X145 Bd.notSynchronized (v := some .null) (fun h => by rw [Bd.returns] at h; cases h) ?_ (by decide) (by decide) (fun fs hr => retOut X145 hx (t := (.object "java/lang/Object")) Bd.returns rfl (Or.inr (Or.inr (Or.inr (Or.inr ⟨rfl, rfl, rfl⟩)))) (hb hby d6_4) hr))
  show Q_key Z a h0 n0 _ T145.heap _
  rw [e145]
  exact ⟨rfl, N0, rfl⟩
theorem d7_0 : decode prog_31_method_9_code 0 = .ok (.aload_n 0, 1) := by decide +kernel
theorem d7_1 : decode prog_31_method_9_code 1 = .ok (.getfield 17, 3) := by decide +kernel
theorem d7_4 : decode prog_31_method_9_code 4 = .ok (.ireturn, 1) := by decide +kernel
def Q_shd (Z : State) (a : Addr) (h0 : Heap) (n0 : Nat) (v : Option Value) (h : Heap) (L : List Loc) : Prop := v = some (.int (-2 : Int32)) ∧ Fr n0 L ∧ h = h0
set_option maxRecDepth 65536 in
set_option maxHeartbeats 40000000 in
theorem rm_shd (l : Launch) (Z : State) (a0 : Array Value) (hw : ∀ d ∈ tables_1, d.before a0 Z = true) (ws : List Jvm.Cond) (a : Addr) (h0 : Heap) (n0 : Nat) (O0 : Old Z n0 h0) (u0 : Fld Z h0 a "com/example/pufferfish/pufferfish/pipeline/Envelope" "shard" "I" (.int (-2 : Int32))) :
    MetFree l (⟨"com/example/pufferfish/pufferfish/pipeline/Envelope", "shard", "()I"⟩ : MethodName) (head1 (Jvm.Cond.code (⟨"com/example/pufferfish/pufferfish/pipeline/Envelope", "shard", "()I"⟩ : MethodName) prog_31_method_9_code 1 (some .int) :: ws) ({ frames := 0, cells := 0, slots := 0, locals := 0 } : Room)) (fun aV U => aV = #[(.ref a)] ∧ Z.Warmed39 U.vm ∧ U.heap = h0) (fun _ _ _ _ _ => True) (fun _ U o U' => ∃ v L, o = .returned v ∧ Q_shd Z a h0 n0 v U'.heap L ∧ FrameEnd U o U' L ({ frames := 0, cells := 0, slots := 0, locals := 0 } : Room).cells ({ frames := 0, cells := 0, slots := 0, locals := 0 } : Room).slots) := by
  refine MetFree.of_bodySF (plainFor_of_name pn_3) hisR ?_
  intro p e s m args below meth c s₁ Bd hml0 hP hK
  obtain ⟨rfl, hZ, hh⟩ := hP
  have hx := Bd.exec
  have hby := Bd.bytes
  have hml : c.maxLocals = 1 := hml0
  have hown : s.vm.findClass "com/example/pufferfish/pufferfish/pipeline/Envelope" = some m.cls := findClass_of_methodNamed Bd.named
  have hnm := (name_of_methodNamed Bd.named Bd.method).1
  have X0 : Stand p l e ({ frames := 0, cells := 0, slots := 0, locals := 0 } : Room) s m #[(.ref a)] below meth c s₁ [] 0 0 := Stand.of_body Bd
  have e0 : s₁.heap = h0 := by rw [← hh, Bd.state]; rfl
  have N0 := Fr.nil n0
  have K0 := Keep.refl h0 []
  obtain ⟨G, gv, gf, gb⟩ := own_G p.tables e below s (Q_shd Z a h0 n0) ({ frames := 0, cells := 0, slots := 0, locals := 0 } : Room).cells ({ frames := 0, cells := 0, slots := 0, locals := 0 } : Room).slots
  show own_Fin p.tables e below s (Q_shd Z a h0 n0) ({ frames := 0, cells := 0, slots := 0, locals := 0 } : Room).cells ({ frames := 0, cells := 0, slots := 0, locals := 0 } : Room).slots (s₁.setTop (entryFrame m #[(.ref a)] 1))
  refine gb _ (gv (fun t k => castTop (ef_0 m a) k) ?_)
  show G (s₁.setTop (mkF m 0 #[.val (.ref a)] []))
  refine gv (fun t k => XS.aloadN X0.here hx rfl (hb hby d7_0) rfl rfl k) ?_
  show G (s₁.setTop (mkF m 1 #[.val (.ref a)] [(.ref a)]))
  obtain ⟨T146, X146, e146, st146⟩ := getF X0 hx hZ hown (host := "") (Or.inl (hw _ (List.mem_of_getElem? (i := 21) rfl))) Via.refl e0 u0 (g := (mkF m 1 #[.val (.ref a)] [(.ref a)])) rfl rfl (hb hby d7_1)
  refine gv st146 ?_
  show G (T146.setTop (mkF m 4 #[.val (.ref a)] [(.int (-2 : Int32))]))
  refine gf _ (own_ret X146 Bd.notSynchronized (v := some (.int (-2 : Int32))) (fun h => by rw [Bd.returns] at h; cases h) ?_ (by decide) (by decide) (fun fs hr => retOut X146 hx (t := .int) Bd.returns rfl (Or.inl ⟨rfl, Or.inl rfl, _, rfl⟩) (hb hby d7_4) hr))
  show Q_shd Z a h0 n0 _ T146.heap _
  rw [e146]
  exact ⟨rfl, N0, rfl⟩
theorem ef_6 (m : MethodId) (x0 : Int32) (x1 : Int32)  : entryFrame m #[(.int x0), (.int x1)] maxLocals = mkF m 0 #[.val (.int x0), .val (.int x1), .unset, .unset, .unset, .unset] [] := by first | (simp [entryFrame, mkF, argsToLocals, Value.category, maxLocals]; done) | rfl
theorem pn_4 : plainName "com/example/pufferfish/pufferfish/pipeline/EnvelopeSignalPinLaw" = true := by first | (simp [plainName, overriddenIn]; done) | decide +kernel
theorem pd_3 : parseMethodDescriptor "(I)Ljava/lang/Integer;" = some ⟨[.int], some (.object "java/lang/Integer")⟩ := by decide +kernel
theorem pd_4 : parseMethodDescriptor "(Ljava/lang/Object;)Lcom/example/pufferfish/pufferfish/pipeline/Envelope;" = some ⟨[(.object "java/lang/Object")], some (.object "com/example/pufferfish/pufferfish/pipeline/Envelope")⟩ := by decide +kernel
theorem pd_5 : parseMethodDescriptor "()Lcom/example/pufferfish/pufferfish/pipeline/Origin;" = some ⟨[], some (.object "com/example/pufferfish/pufferfish/pipeline/Origin")⟩ := by decide +kernel
theorem pd_6 : parseMethodDescriptor "()Ljava/lang/Object;" = some ⟨[], some (.object "java/lang/Object")⟩ := by decide +kernel
theorem pd_7 : parseMethodDescriptor "()I" = some ⟨[], some .int⟩ := by decide +kernel
def Q0 (Z : State) (p0 : Int32) (p1 : Int32) (A_END : Addr) (cA : Addr) (bxc : Cell) (h0 : Heap) (n0 : Nat) (v : Option Value) (h : Heap) (L : List Loc) : Prop := v = some (.int (1 : Int32)) ∧ Fr n0 L
set_option maxRecDepth 65536 in
set_option maxHeartbeats 40000000 in
theorem rm0 (l : Launch) (Z : State) (a0 : Array Value) (hw : ∀ d ∈ tables_1, d.before a0 Z = true) (ws : List Jvm.Cond) (p0 : Int32) (p1 : Int32) (A_END : Addr) (cA : Addr) (bxc : Cell) (h0 : Heap) (n0 : Nat) (O0 : Old Z n0 h0) (u0 : Sta Z Z.heap "com/example/pufferfish/pufferfish/pipeline/Envelope" "END" "Lcom/example/pufferfish/pufferfish/pipeline/Envelope;" (.ref A_END)) (u1 : Exa Z Z.heap A_END "com/example/pufferfish/pufferfish/pipeline/Envelope") (u2 : Sta Z Z.heap "java/lang/Integer$IntegerCache" "high" "I" (.int (127 : Int32))) (u3 : Sta Z Z.heap "java/lang/Integer$IntegerCache" "cache" "[Ljava/lang/Integer;" (.ref cA)) (u4 : (Bxs Z cA bxc "java/lang/Integer" "I" (256 : Int32) (fun j => Value.int (j - (128 : Int32))))) :
    MetFree l x (head1 (Jvm.Cond.code x code maxLocals ret :: ws) room_1) (fun aV U => aV = #[(.int p0), (.int p1)] ∧ Z.Warmed39 U.vm ∧ U.heap = h0) (fun _ _ _ _ _ => True) (fun _ U o U' => ∃ v L, o = .returned v ∧ Q0 Z p0 p1 A_END cA bxc h0 n0 v U'.heap L ∧ FrameEnd U o U' L room_1.cells room_1.slots) := by
  refine MetFree.of_bodySF (plainFor_of_name pn_4) hisR ?_
  intro p e s m args below meth c s₁ Bd hml0 hP hK
  obtain ⟨rfl, hZ, hh⟩ := hP
  have hx := Bd.exec
  have hby := Bd.bytes
  have hml : c.maxLocals = 6 := hml0
  have hown : s.vm.findClass "com/example/pufferfish/pufferfish/pipeline/EnvelopeSignalPinLaw" = some m.cls := findClass_of_methodNamed Bd.named
  have hnm := (name_of_methodNamed Bd.named Bd.method).1
  have X0 : Stand p l e room_1 s m #[(.int p0), (.int p1)] below meth c s₁ [] 0 0 := Stand.of_body Bd
  have e0 : s₁.heap = h0 := by rw [← hh, Bd.state]; rfl
  have N0 := Fr.nil n0
  have K0 := Keep.refl h0 []
  obtain ⟨G, gv, gf, gb⟩ := own_G p.tables e below s (Q0 Z p0 p1 A_END cA bxc h0 n0) room_1.cells room_1.slots
  show own_Fin p.tables e below s (Q0 Z p0 p1 A_END cA bxc h0 n0) room_1.cells room_1.slots (s₁.setTop (entryFrame m #[(.int p0), (.int p1)] maxLocals))
  refine gb _ (gv (fun t k => castTop (ef_6 m p0 p1) k) ?_)
  show G (s₁.setTop (mkF m 0 #[.val (.int p0), .val (.int p1), .unset, .unset, .unset, .unset] []))
  refine gv (fun t k => XS.iloadN X0.here hx rfl (hb hby at_0) rfl k) ?_
  show G (s₁.setTop (mkF m 1 #[.val (.int p0), .val (.int p1), .unset, .unset, .unset, .unset] [(.int p1)]))
  refine gv (fun t k => XS.iconst X0.here hx rfl (hb hby at_1) k) ?_
  show G (s₁.setTop (mkF m 2 #[.val (.int p0), .val (.int p1), .unset, .unset, .unset, .unset] [(.int (1 : Int32)), (.int p1)]))
  refine gv (fun t k => XS.iand X0.here hx rfl (hb hby at_2) rfl k) ?_
  show G (s₁.setTop (mkF m 3 #[.val (.int p0), .val (.int p1), .unset, .unset, .unset, .unset] [(.int (p1 &&& (1 : Int32)))]))
  by_cases hc147 : (p1 &&& (1 : Int32)) = (0 : Int32)
  · refine gv (fun t k => XS.ifYes X0.here hx rfl (pc0 := 3) (pc' := 10) rfl (hb hby at_3) rfl ((if0 _ _).trans (teq hc147).1) (by decide) (by decide) k) ?_
    show G (s₁.setTop (mkF m 10 #[.val (.int p0), .val (.int p1), .unset, .unset, .unset, .unset] []))
    refine gv (fun t k => XS.iconst X0.here hx rfl (hb hby at_10) k) ?_
    show G (s₁.setTop (mkF m 11 #[.val (.int p0), .val (.int p1), .unset, .unset, .unset, .unset] [(.int (0 : Int32))]))
    refine gv (fun t k => XS.istoreN X0.here hx rfl (hb hby at_11) rfl (l' := #[.val (.int p0), .val (.int p1), .val (.int (0 : Int32)), .unset, .unset, .unset]) rfl k) ?_
    show G (s₁.setTop (mkF m 12 #[.val (.int p0), .val (.int p1), .val (.int (0 : Int32)), .unset, .unset, .unset] []))
    refine gv (fun t k => XS.iloadN X0.here hx rfl (hb hby at_12) rfl k) ?_
    show G (s₁.setTop (mkF m 13 #[.val (.int p0), .val (.int p1), .val (.int (0 : Int32)), .unset, .unset, .unset] [(.int (0 : Int32))]))
    refine gv (fun t k => XS.ifYes X0.here hx rfl (pc0 := 13) (pc' := 20) rfl (hb hby at_13) rfl ((if0 _ _).trans (teq (by decide : (0 : Int32) = (0 : Int32))).1) (by decide) (by decide) k) ?_
    show G (s₁.setTop (mkF m 20 #[.val (.int p0), .val (.int p1), .val (.int (0 : Int32)), .unset, .unset, .unset] []))
    refine gv (fun t k => XS.iloadN X0.here hx rfl (hb hby at_20) rfl k) ?_
    show G (s₁.setTop (mkF m 21 #[.val (.int p0), .val (.int p1), .val (.int (0 : Int32)), .unset, .unset, .unset] [(.int p0)]))
    obtain ⟨_, _, ⟨T148, L148, k148, n148⟩, -, X148, ⟨Lc148, hQ148, l148, y148, z148⟩, st148⟩ := Jvm.LawKit.callS X0 hx (y := (⟨"java/lang/Integer", "valueOf", "(I)Ljava/lang/Integer;"⟩ : MethodName)) hown (mvT hZ (hw _ (List.mem_of_getElem? (i := 47) rfl))) (mvT hZ (hw _ (List.mem_of_getElem? (i := 48) rfl))) (mvT hZ (hw _ (List.mem_of_getElem? (i := 49) rfl))) (mvT hZ (hw _ (List.mem_of_getElem? (i := 50) rfl))) (by decide) (backOf (W := 0) (rm_vo l Z a0 hw [] p0 cA bxc h0 n0 O0 u2 u3 u4) hZ (hw _ (List.mem_of_getElem? (i := 50) rfl)) (hw _ (List.mem_of_getElem? (i := 49) rfl)) (by decide) (by decide)) (g := (mkF m 21 #[.val (.int p0), .val (.int p1), .val (.int (0 : Int32)), .unset, .unset, .unset] [(.int p0)])) rfl (by rw [hml]; rfl) (argsL := [(.int p0)]) (rest := []) (lenOf pd_3 rfl) rfl (by show 2 * 0 + _ ≤ _; exact Nat.le_of_eq rfl) (hb hby at_21) (fun _ _ => ⟨rfl, e0, (by decide : 0 + 1 ≤ _), (by decide : 0 + 1 ≤ _)⟩)
    dsimp only [Pt.U, Pt.locs, Pt.cells, Pt.slots] at X148 l148 y148 z148 st148 hQ148
    subst l148 y148 z148
    obtain ⟨r_148, rfl, Nq148, Kq148, w148_0⟩ := hQ148
    have N149 := Fr.app N0 Nq148
    obtain ⟨h148, e148⟩ : ∃ z, T148.heap = z := ⟨_, rfl⟩
    rw [e148] at Kq148 w148_0
    have O150 := O0.keep Kq148 all0
    refine gv st148 ?_
    show G (T148.setTop (mkF m 24 #[.val (.int p0), .val (.int p1), .val (.int (0 : Int32)), .unset, .unset, .unset] [(.ref r_148)]))
    refine gv (fun t k => XS.astoreN X148.here hx rfl (hb hby at_24) rfl rfl (l' := #[.val (.int p0), .val (.int p1), .val (.int (0 : Int32)), .val (.ref r_148), .unset, .unset]) rfl k) ?_
    show G (T148.setTop (mkF m 25 #[.val (.int p0), .val (.int p1), .val (.int (0 : Int32)), .val (.ref r_148), .unset, .unset] []))
    refine gv (fun t k => XS.aloadN X148.here hx rfl (hb hby at_25) rfl rfl k) ?_
    show G (T148.setTop (mkF m 26 #[.val (.int p0), .val (.int p1), .val (.int (0 : Int32)), .val (.ref r_148), .unset, .unset] [(.ref r_148)]))
    obtain ⟨_, _, ⟨T151, L151, k151, n151⟩, -, X151, ⟨Lc151, hQ151, l151, y151, z151⟩, st151⟩ := Jvm.LawKit.callS X148 hx (y := (⟨"com/example/pufferfish/pufferfish/pipeline/Envelope", "signal", "(Ljava/lang/Object;)Lcom/example/pufferfish/pufferfish/pipeline/Envelope;"⟩ : MethodName)) hown (mvT hZ (hw _ (List.mem_of_getElem? (i := 0) rfl))) (mvT hZ (hw _ (List.mem_of_getElem? (i := 1) rfl))) (mvT hZ (hw _ (List.mem_of_getElem? (i := 2) rfl))) (mvT hZ (hw _ (List.mem_of_getElem? (i := 3) rfl))) (by decide) (backOf (W := 0) (rm_sigR l Z a0 hw [] r_148 h148 n0 O150 ) hZ (hw _ (List.mem_of_getElem? (i := 3) rfl)) (hw _ (List.mem_of_getElem? (i := 2) rfl)) (by decide) (by decide)) (g := (mkF m 26 #[.val (.int p0), .val (.int p1), .val (.int (0 : Int32)), .val (.ref r_148), .unset, .unset] [(.ref r_148)])) rfl (by rw [hml]; rfl) (argsL := [(.ref r_148)]) (rest := []) (lenOf pd_4 rfl) rfl (by show 2 * 0 + _ ≤ _; exact Nat.le_of_eq rfl) (hb hby at_26) (fun _ _ => ⟨rfl, e148, (by decide : 1 + 1 ≤ _), (by decide : 1 + 4 ≤ _)⟩)
    dsimp only [Pt.U, Pt.locs, Pt.cells, Pt.slots] at X151 l151 y151 z151 st151 hQ151
    subst l151 y151 z151
    obtain ⟨b_151, rfl, Nq151, Kq151, w151_0, w151_1, w151_2, w151_3, w151_4, w151_5⟩ := hQ151
    have N152 := Fr.app N149 Nq151
    obtain ⟨h151, e151⟩ : ∃ z, T151.heap = z := ⟨_, rfl⟩
    rw [e151] at Kq151 w151_1 w151_2 w151_3 w151_4 w151_5
    have ne153 : A_END ≠ b_151 := Nat.ne_of_lt (Nat.lt_of_lt_of_le (u1.ext O150.2).lt w151_0)
    have ne154 : r_148 ≠ b_151 := Nat.ne_of_lt (Nat.lt_of_lt_of_le w148_0.lt w151_0)
    have g155 : n0 ≤ b_151 := Nat.le_trans (own_old O150) w151_0
    have f157 : Exa Z h151 r_148 "java/lang/Integer" := w148_0.keep Kq151
    have O158 := O150.keep Kq151 all0
    refine gv st151 ?_
    show G (T151.setTop (mkF m 29 #[.val (.int p0), .val (.int p1), .val (.int (0 : Int32)), .val (.ref r_148), .unset, .unset] [(.ref b_151)]))
    refine gv (fun t k => XS.astore X151.here hx rfl (hb hby at_29) rfl rfl (l' := #[.val (.int p0), .val (.int p1), .val (.int (0 : Int32)), .val (.ref r_148), .val (.ref b_151), .unset]) rfl k) ?_
    show G (T151.setTop (mkF m 31 #[.val (.int p0), .val (.int p1), .val (.int (0 : Int32)), .val (.ref r_148), .val (.ref b_151), .unset] []))
    refine gv (fun t k => XS.aload X151.here hx rfl (hb hby at_31) rfl rfl k) ?_
    show G (T151.setTop (mkF m 33 #[.val (.int p0), .val (.int p1), .val (.int (0 : Int32)), .val (.ref r_148), .val (.ref b_151), .unset] [(.ref b_151)]))
    refine gv (fun t k => XS.ifnonnullYes X151.here hx rfl (pc0 := 33) (pc' := 38) rfl (hb hby at_33) rfl (by decide) (by decide) k) ?_
    show G (T151.setTop (mkF m 38 #[.val (.int p0), .val (.int p1), .val (.int (0 : Int32)), .val (.ref r_148), .val (.ref b_151), .unset] []))
    refine gv (fun t k => XS.aload X151.here hx rfl (hb hby at_38) rfl rfl k) ?_
    show G (T151.setTop (mkF m 40 #[.val (.int p0), .val (.int p1), .val (.int (0 : Int32)), .val (.ref r_148), .val (.ref b_151), .unset] [(.ref b_151)]))
    obtain ⟨T159, X159, e159, st159⟩ := getS2 X151 hx hZ hown (host := "") (Or.inl (hw _ (List.mem_of_getElem? (i := 25) rfl))) Via.refl e151 (u0.ext O158.2) (g := (mkF m 40 #[.val (.int p0), .val (.int p1), .val (.int (0 : Int32)), .val (.ref r_148), .val (.ref b_151), .unset] [(.ref b_151)])) rfl (hb hby at_40)
    refine gv st159 ?_
    show G (T159.setTop (mkF m 43 #[.val (.int p0), .val (.int p1), .val (.int (0 : Int32)), .val (.ref r_148), .val (.ref b_151), .unset] [(.ref A_END), (.ref b_151)]))
    refine gv (fun t k => Jvm.RoadKit.acmp (g := (mkF m 43 #[.val (.int p0), .val (.int p1), .val (.int (0 : Int32)), .val (.ref r_148), .val (.ref b_151), .unset] [(.ref A_END), (.ref b_151)])) X159 hx rfl rfl rfl (pc0 := 43) (pc' := 48) (same := false) rfl (hb hby at_43) rfl (decide_eq_false fun q => (Ne.symm ne153) (Value.ref.inj q)) (by decide) (by decide) k) ?_
    show G (T159.setTop (mkF m 48 #[.val (.int p0), .val (.int p1), .val (.int (0 : Int32)), .val (.ref r_148), .val (.ref b_151), .unset] []))
    refine gv (fun t k => XS.aload X159.here hx rfl (hb hby at_48) rfl rfl k) ?_
    show G (T159.setTop (mkF m 50 #[.val (.int p0), .val (.int p1), .val (.int (0 : Int32)), .val (.ref r_148), .val (.ref b_151), .unset] [(.ref b_151)]))
    obtain ⟨cq160, kq160, q160a, q160b, q160c⟩ := isOf hZ e159 w151_1
    obtain ⟨_, _, ⟨T160, L160, k160, n160⟩, -, X160, ⟨Lc160, hQ160, l160, y160, z160⟩, st160⟩ := X159.virtualBack hx (y := (⟨"com/example/pufferfish/pufferfish/pipeline/Envelope", "origin", "()Lcom/example/pufferfish/pufferfish/pipeline/Origin;"⟩ : MethodName)) (z := (⟨"com/example/pufferfish/pufferfish/pipeline/Envelope", "origin", "()Lcom/example/pufferfish/pufferfish/pipeline/Origin;"⟩ : MethodName)) hown (mvT hZ (hw _ (List.mem_of_getElem? (i := 27) rfl))) (mvT hZ (hw _ (List.mem_of_getElem? (i := 28) rfl))) (notFace_of_selects (args := #[]) (mvT hZ (hw _ (List.mem_of_getElem? (i := 30) rfl)))) (mvT hZ (hw _ (List.mem_of_getElem? (i := 30) rfl))) (mvT hZ (hw _ (List.mem_of_getElem? (i := 29) rfl))) (by decide) (backOf (W := 0) (rm_org l Z a0 hw [] b_151 h151 n0 O158 w151_2) hZ (hw _ (List.mem_of_getElem? (i := 31) rfl)) (hw _ (List.mem_of_getElem? (i := 2) rfl)) (by decide) (by decide)) q160a q160c (g := (mkF m 50 #[.val (.int p0), .val (.int p1), .val (.int (0 : Int32)), .val (.ref r_148), .val (.ref b_151), .unset] [(.ref b_151)])) rfl (by rw [hml]; rfl) (Steps.refl _) (argsL := []) (rest := []) (lenOf pd_5 rfl) rfl (by show 2 * 0 + _ ≤ _; exact Nat.le_of_eq rfl) (hb hby at_50) (fun _ _ => ⟨rfl, e159, (by decide : 2 + 0 ≤ _), (by decide : 5 + 0 ≤ _)⟩)
    dsimp only [Pt.U, Pt.locs, Pt.cells, Pt.slots] at X160 l160 y160 z160 st160 hQ160
    subst l160 y160 z160
    obtain ⟨rfl, Nq160, eq160⟩ := hQ160
    have N161 := Fr.app N152 Nq160
    refine gv (fun t k => st160.trans k) ?_
    show G (T160.setTop (mkF m 53 #[.val (.int p0), .val (.int p1), .val (.int (0 : Int32)), .val (.ref r_148), .val (.ref b_151), .unset] [.null]))
    refine gv (fun t k => XS.ifnullYes X160.here hx rfl (pc0 := 53) (pc' := 58) rfl (hb hby at_53) rfl (by decide) (by decide) k) ?_
    show G (T160.setTop (mkF m 58 #[.val (.int p0), .val (.int p1), .val (.int (0 : Int32)), .val (.ref r_148), .val (.ref b_151), .unset] []))
    refine gv (fun t k => XS.aload X160.here hx rfl (hb hby at_58) rfl rfl k) ?_
    show G (T160.setTop (mkF m 60 #[.val (.int p0), .val (.int p1), .val (.int (0 : Int32)), .val (.ref r_148), .val (.ref b_151), .unset] [(.ref b_151)]))
    obtain ⟨cq162, kq162, q162a, q162b, q162c⟩ := isOf hZ eq160 w151_1
    obtain ⟨_, _, ⟨T162, L162, k162, n162⟩, -, X162, ⟨Lc162, hQ162, l162, y162, z162⟩, st162⟩ := X160.virtualBack hx (y := (⟨"com/example/pufferfish/pufferfish/pipeline/Envelope", "key", "()Ljava/lang/Object;"⟩ : MethodName)) (z := (⟨"com/example/pufferfish/pufferfish/pipeline/Envelope", "key", "()Ljava/lang/Object;"⟩ : MethodName)) hown (mvT hZ (hw _ (List.mem_of_getElem? (i := 32) rfl))) (mvT hZ (hw _ (List.mem_of_getElem? (i := 33) rfl))) (notFace_of_selects (args := #[]) (mvT hZ (hw _ (List.mem_of_getElem? (i := 35) rfl)))) (mvT hZ (hw _ (List.mem_of_getElem? (i := 35) rfl))) (mvT hZ (hw _ (List.mem_of_getElem? (i := 34) rfl))) (by decide) (backOf (W := 0) (rm_key l Z a0 hw [] b_151 h151 n0 O158 w151_3) hZ (hw _ (List.mem_of_getElem? (i := 36) rfl)) (hw _ (List.mem_of_getElem? (i := 2) rfl)) (by decide) (by decide)) q162a q162c (g := (mkF m 60 #[.val (.int p0), .val (.int p1), .val (.int (0 : Int32)), .val (.ref r_148), .val (.ref b_151), .unset] [(.ref b_151)])) rfl (by rw [hml]; rfl) (Steps.refl _) (argsL := []) (rest := []) (lenOf pd_6 rfl) rfl (by show 2 * 0 + _ ≤ _; exact Nat.le_of_eq rfl) (hb hby at_60) (fun _ _ => ⟨rfl, eq160, (by decide : 2 + 0 ≤ _), (by decide : 5 + 0 ≤ _)⟩)
    dsimp only [Pt.U, Pt.locs, Pt.cells, Pt.slots] at X162 l162 y162 z162 st162 hQ162
    subst l162 y162 z162
    obtain ⟨rfl, Nq162, eq162⟩ := hQ162
    have N163 := Fr.app N161 Nq162
    refine gv (fun t k => st162.trans k) ?_
    show G (T162.setTop (mkF m 63 #[.val (.int p0), .val (.int p1), .val (.int (0 : Int32)), .val (.ref r_148), .val (.ref b_151), .unset] [.null]))
    refine gv (fun t k => XS.ifnullYes X162.here hx rfl (pc0 := 63) (pc' := 68) rfl (hb hby at_63) rfl (by decide) (by decide) k) ?_
    show G (T162.setTop (mkF m 68 #[.val (.int p0), .val (.int p1), .val (.int (0 : Int32)), .val (.ref r_148), .val (.ref b_151), .unset] []))
    refine gv (fun t k => XS.aload X162.here hx rfl (hb hby at_68) rfl rfl k) ?_
    show G (T162.setTop (mkF m 70 #[.val (.int p0), .val (.int p1), .val (.int (0 : Int32)), .val (.ref r_148), .val (.ref b_151), .unset] [(.ref b_151)]))
    obtain ⟨cq164, kq164, q164a, q164b, q164c⟩ := isOf hZ eq162 w151_1
    obtain ⟨_, _, ⟨T164, L164, k164, n164⟩, -, X164, ⟨Lc164, hQ164, l164, y164, z164⟩, st164⟩ := X162.virtualBack hx (y := (⟨"com/example/pufferfish/pufferfish/pipeline/Envelope", "shard", "()I"⟩ : MethodName)) (z := (⟨"com/example/pufferfish/pufferfish/pipeline/Envelope", "shard", "()I"⟩ : MethodName)) hown (mvT hZ (hw _ (List.mem_of_getElem? (i := 37) rfl))) (mvT hZ (hw _ (List.mem_of_getElem? (i := 38) rfl))) (notFace_of_selects (args := #[]) (mvT hZ (hw _ (List.mem_of_getElem? (i := 40) rfl)))) (mvT hZ (hw _ (List.mem_of_getElem? (i := 40) rfl))) (mvT hZ (hw _ (List.mem_of_getElem? (i := 39) rfl))) (by decide) (backOf (W := 0) (rm_shd l Z a0 hw [] b_151 h151 n0 O158 w151_4) hZ (hw _ (List.mem_of_getElem? (i := 41) rfl)) (hw _ (List.mem_of_getElem? (i := 2) rfl)) (by decide) (by decide)) q164a q164c (g := (mkF m 70 #[.val (.int p0), .val (.int p1), .val (.int (0 : Int32)), .val (.ref r_148), .val (.ref b_151), .unset] [(.ref b_151)])) rfl (by rw [hml]; rfl) (Steps.refl _) (argsL := []) (rest := []) (lenOf pd_7 rfl) rfl (by show 2 * 0 + _ ≤ _; exact Nat.le_of_eq rfl) (hb hby at_70) (fun _ _ => ⟨rfl, eq162, (by decide : 2 + 0 ≤ _), (by decide : 5 + 0 ≤ _)⟩)
    dsimp only [Pt.U, Pt.locs, Pt.cells, Pt.slots] at X164 l164 y164 z164 st164 hQ164
    subst l164 y164 z164
    obtain ⟨rfl, Nq164, eq164⟩ := hQ164
    have N165 := Fr.app N163 Nq164
    refine gv (fun t k => st164.trans k) ?_
    show G (T164.setTop (mkF m 73 #[.val (.int p0), .val (.int p1), .val (.int (0 : Int32)), .val (.ref r_148), .val (.ref b_151), .unset] [(.int (-2 : Int32))]))
    refine gv (fun t k => XS.istore X164.here hx rfl (hb hby at_73) rfl (l' := #[.val (.int p0), .val (.int p1), .val (.int (0 : Int32)), .val (.ref r_148), .val (.ref b_151), .val (.int (-2 : Int32))]) rfl k) ?_
    show G (T164.setTop (mkF m 75 #[.val (.int p0), .val (.int p1), .val (.int (0 : Int32)), .val (.ref r_148), .val (.ref b_151), .val (.int (-2 : Int32))] []))
    refine gv (fun t k => XS.iload X164.here hx rfl (hb hby at_75) rfl k) ?_
    show G (T164.setTop (mkF m 77 #[.val (.int p0), .val (.int p1), .val (.int (0 : Int32)), .val (.ref r_148), .val (.ref b_151), .val (.int (-2 : Int32))] [(.int (-2 : Int32))]))
    refine gv (fun t k => XS.bipush X164.here hx rfl (hb hby at_77) k) ?_
    show G (T164.setTop (mkF m 79 #[.val (.int p0), .val (.int p1), .val (.int (0 : Int32)), .val (.ref r_148), .val (.ref b_151), .val (.int (-2 : Int32))] [(.int (-2 : Int32)), (.int (-2 : Int32))]))
    refine gv (fun t k => XS.icmpNo X164.here hx rfl (hb hby at_79) rfl (teq (by decide : (-2 : Int32) = (-2 : Int32))).2 k) ?_
    show G (T164.setTop (mkF m 82 #[.val (.int p0), .val (.int p1), .val (.int (0 : Int32)), .val (.ref r_148), .val (.ref b_151), .val (.int (-2 : Int32))] []))
    refine gv (fun t k => XS.iload X164.here hx rfl (hb hby at_82) rfl k) ?_
    show G (T164.setTop (mkF m 84 #[.val (.int p0), .val (.int p1), .val (.int (0 : Int32)), .val (.ref r_148), .val (.ref b_151), .val (.int (-2 : Int32))] [(.int (-2 : Int32))]))
    refine gv (fun t k => XS.iconst X164.here hx rfl (hb hby at_84) k) ?_
    show G (T164.setTop (mkF m 85 #[.val (.int p0), .val (.int p1), .val (.int (0 : Int32)), .val (.ref r_148), .val (.ref b_151), .val (.int (-2 : Int32))] [(.int (-1 : Int32)), (.int (-2 : Int32))]))
    refine gv (fun t k => XS.icmpNo X164.here hx rfl (hb hby at_85) rfl (feq (by decide : ¬ ((-2 : Int32) = (-1 : Int32)))).1 k) ?_
    show G (T164.setTop (mkF m 88 #[.val (.int p0), .val (.int p1), .val (.int (0 : Int32)), .val (.ref r_148), .val (.ref b_151), .val (.int (-2 : Int32))] []))
    refine gv (fun t k => XS.iload X164.here hx rfl (hb hby at_88) rfl k) ?_
    show G (T164.setTop (mkF m 90 #[.val (.int p0), .val (.int p1), .val (.int (0 : Int32)), .val (.ref r_148), .val (.ref b_151), .val (.int (-2 : Int32))] [(.int (-2 : Int32))]))
    refine gv (fun t k => XS.bipush X164.here hx rfl (hb hby at_90) k) ?_
    show G (T164.setTop (mkF m 92 #[.val (.int p0), .val (.int p1), .val (.int (0 : Int32)), .val (.ref r_148), .val (.ref b_151), .val (.int (-2 : Int32))] [(.int (-2 : Int32)), (.int (-2 : Int32))]))
    refine gv (fun t k => XS.icmpYes X164.here hx rfl (pc0 := 92) (pc' := 97) rfl (hb hby at_92) rfl (teq (by decide : (-2 : Int32) = (-2 : Int32))).1 (by decide) (by decide) k) ?_
    show G (T164.setTop (mkF m 97 #[.val (.int p0), .val (.int p1), .val (.int (0 : Int32)), .val (.ref r_148), .val (.ref b_151), .val (.int (-2 : Int32))] []))
    refine gv (fun t k => XS.aload X164.here hx rfl (hb hby at_97) rfl rfl k) ?_
    show G (T164.setTop (mkF m 99 #[.val (.int p0), .val (.int p1), .val (.int (0 : Int32)), .val (.ref r_148), .val (.ref b_151), .val (.int (-2 : Int32))] [(.ref b_151)]))
    obtain ⟨cq166, kq166, q166a, q166b, q166c⟩ := isOf hZ eq164 w151_1
    obtain ⟨_, _, ⟨T166, L166, k166, n166⟩, -, X166, ⟨Lc166, hQ166, l166, y166, z166⟩, st166⟩ := X164.virtualBack hx (y := (⟨"com/example/pufferfish/pufferfish/pipeline/Envelope", "record", "()Ljava/lang/Object;"⟩ : MethodName)) (z := (⟨"com/example/pufferfish/pufferfish/pipeline/Envelope", "record", "()Ljava/lang/Object;"⟩ : MethodName)) hown (mvT hZ (hw _ (List.mem_of_getElem? (i := 42) rfl))) (mvT hZ (hw _ (List.mem_of_getElem? (i := 43) rfl))) (notFace_of_selects (args := #[]) (mvT hZ (hw _ (List.mem_of_getElem? (i := 45) rfl)))) (mvT hZ (hw _ (List.mem_of_getElem? (i := 45) rfl))) (mvT hZ (hw _ (List.mem_of_getElem? (i := 44) rfl))) (by decide) (backOf (W := 0) (rm_getR l Z a0 hw [] b_151 r_148 h151 n0 O158 w151_5) hZ (hw _ (List.mem_of_getElem? (i := 46) rfl)) (hw _ (List.mem_of_getElem? (i := 2) rfl)) (by decide) (by decide)) q166a q166c (g := (mkF m 99 #[.val (.int p0), .val (.int p1), .val (.int (0 : Int32)), .val (.ref r_148), .val (.ref b_151), .val (.int (-2 : Int32))] [(.ref b_151)])) rfl (by rw [hml]; rfl) (Steps.refl _) (argsL := []) (rest := []) (lenOf pd_6 rfl) rfl (by show 2 * 0 + _ ≤ _; exact Nat.le_of_eq rfl) (hb hby at_99) (fun _ _ => ⟨rfl, eq164, (by decide : 2 + 0 ≤ _), (by decide : 5 + 0 ≤ _)⟩)
    dsimp only [Pt.U, Pt.locs, Pt.cells, Pt.slots] at X166 l166 y166 z166 st166 hQ166
    subst l166 y166 z166
    obtain ⟨rfl, Nq166, eq166⟩ := hQ166
    have N167 := Fr.app N165 Nq166
    refine gv (fun t k => st166.trans k) ?_
    show G (T166.setTop (mkF m 102 #[.val (.int p0), .val (.int p1), .val (.int (0 : Int32)), .val (.ref r_148), .val (.ref b_151), .val (.int (-2 : Int32))] [(.ref r_148)]))
    refine gv (fun t k => XS.aloadN X166.here hx rfl (hb hby at_102) rfl rfl k) ?_
    show G (T166.setTop (mkF m 103 #[.val (.int p0), .val (.int p1), .val (.int (0 : Int32)), .val (.ref r_148), .val (.ref b_151), .val (.int (-2 : Int32))] [(.ref r_148), (.ref r_148)]))
    refine gv (fun t k => Jvm.RoadKit.acmp (g := (mkF m 103 #[.val (.int p0), .val (.int p1), .val (.int (0 : Int32)), .val (.ref r_148), .val (.ref b_151), .val (.int (-2 : Int32))] [(.ref r_148), (.ref r_148)])) X166 hx rfl rfl rfl (pc0 := 103) (pc' := 106) (same := true) rfl (hb hby at_103) rfl (decide_eq_true rfl) (by decide) (by decide) k) ?_
    show G (T166.setTop (mkF m 106 #[.val (.int p0), .val (.int p1), .val (.int (0 : Int32)), .val (.ref r_148), .val (.ref b_151), .val (.int (-2 : Int32))] []))
    refine gv (fun t k => XS.iconst X166.here hx rfl (hb hby at_106) k) ?_
    show G (T166.setTop (mkF m 107 #[.val (.int p0), .val (.int p1), .val (.int (0 : Int32)), .val (.ref r_148), .val (.ref b_151), .val (.int (-2 : Int32))] [(.int (1 : Int32))]))
    refine gv (fun t k => XS.goto X166.here hx rfl (pc0 := 107) (pc' := 111) rfl (hb hby at_107) (by decide) (by decide) k) ?_
    show G (T166.setTop (mkF m 111 #[.val (.int p0), .val (.int p1), .val (.int (0 : Int32)), .val (.ref r_148), .val (.ref b_151), .val (.int (-2 : Int32))] [(.int (1 : Int32))]))
    refine gf _ (own_ret X166 Bd.notSynchronized (v := some (.int (1 : Int32))) (fun h => by rw [Bd.returns] at h; cases h) ?_ (by decide) (by decide) (fun fs hr => retN X166 hx (t := .boolean) Bd.returns (by simp) (hb hby at_111) hr))
    show Q0 Z p0 p1 A_END cA bxc h0 n0 _ T166.heap _
    rw [eq166]
    exact ⟨rfl, N167⟩
  · refine gv (fun t k => XS.ifNo X0.here hx rfl (hb hby at_3) rfl ((if0 _ _).trans (feq hc147).1) k) ?_
    show G (s₁.setTop (mkF m 6 #[.val (.int p0), .val (.int p1), .unset, .unset, .unset, .unset] []))
    refine gv (fun t k => XS.iconst X0.here hx rfl (hb hby at_6) k) ?_
    show G (s₁.setTop (mkF m 7 #[.val (.int p0), .val (.int p1), .unset, .unset, .unset, .unset] [(.int (1 : Int32))]))
    refine gv (fun t k => XS.goto X0.here hx rfl (pc0 := 7) (pc' := 11) rfl (hb hby at_7) (by decide) (by decide) k) ?_
    show G (s₁.setTop (mkF m 11 #[.val (.int p0), .val (.int p1), .unset, .unset, .unset, .unset] [(.int (1 : Int32))]))
    refine gv (fun t k => XS.istoreN X0.here hx rfl (hb hby at_11) rfl (l' := #[.val (.int p0), .val (.int p1), .val (.int (1 : Int32)), .unset, .unset, .unset]) rfl k) ?_
    show G (s₁.setTop (mkF m 12 #[.val (.int p0), .val (.int p1), .val (.int (1 : Int32)), .unset, .unset, .unset] []))
    refine gv (fun t k => XS.iloadN X0.here hx rfl (hb hby at_12) rfl k) ?_
    show G (s₁.setTop (mkF m 13 #[.val (.int p0), .val (.int p1), .val (.int (1 : Int32)), .unset, .unset, .unset] [(.int (1 : Int32))]))
    refine gv (fun t k => XS.ifNo X0.here hx rfl (hb hby at_13) rfl ((if0 _ _).trans (feq (by decide : ¬ ((1 : Int32) = (0 : Int32)))).1) k) ?_
    show G (s₁.setTop (mkF m 16 #[.val (.int p0), .val (.int p1), .val (.int (1 : Int32)), .unset, .unset, .unset] []))
    refine gv (fun t k => XS.aconstNull X0.here hx rfl (hb hby at_16) k) ?_
    show G (s₁.setTop (mkF m 17 #[.val (.int p0), .val (.int p1), .val (.int (1 : Int32)), .unset, .unset, .unset] [.null]))
    refine gv (fun t k => XS.goto X0.here hx rfl (pc0 := 17) (pc' := 24) rfl (hb hby at_17) (by decide) (by decide) k) ?_
    show G (s₁.setTop (mkF m 24 #[.val (.int p0), .val (.int p1), .val (.int (1 : Int32)), .unset, .unset, .unset] [.null]))
    refine gv (fun t k => XS.astoreN X0.here hx rfl (hb hby at_24) rfl rfl (l' := #[.val (.int p0), .val (.int p1), .val (.int (1 : Int32)), .val .null, .unset, .unset]) rfl k) ?_
    show G (s₁.setTop (mkF m 25 #[.val (.int p0), .val (.int p1), .val (.int (1 : Int32)), .val .null, .unset, .unset] []))
    refine gv (fun t k => XS.aloadN X0.here hx rfl (hb hby at_25) rfl rfl k) ?_
    show G (s₁.setTop (mkF m 26 #[.val (.int p0), .val (.int p1), .val (.int (1 : Int32)), .val .null, .unset, .unset] [.null]))
    obtain ⟨_, _, ⟨T168, L168, k168, n168⟩, -, X168, ⟨Lc168, hQ168, l168, y168, z168⟩, st168⟩ := Jvm.LawKit.callS X0 hx (y := (⟨"com/example/pufferfish/pufferfish/pipeline/Envelope", "signal", "(Ljava/lang/Object;)Lcom/example/pufferfish/pufferfish/pipeline/Envelope;"⟩ : MethodName)) hown (mvT hZ (hw _ (List.mem_of_getElem? (i := 0) rfl))) (mvT hZ (hw _ (List.mem_of_getElem? (i := 1) rfl))) (mvT hZ (hw _ (List.mem_of_getElem? (i := 2) rfl))) (mvT hZ (hw _ (List.mem_of_getElem? (i := 3) rfl))) (by decide) (backOf (W := 0) (rm_sigN l Z a0 hw []  h0 n0 O0 ) hZ (hw _ (List.mem_of_getElem? (i := 3) rfl)) (hw _ (List.mem_of_getElem? (i := 2) rfl)) (by decide) (by decide)) (g := (mkF m 26 #[.val (.int p0), .val (.int p1), .val (.int (1 : Int32)), .val .null, .unset, .unset] [.null])) rfl (by rw [hml]; rfl) (argsL := [.null]) (rest := []) (lenOf pd_4 rfl) rfl (by show 2 * 0 + _ ≤ _; exact Nat.le_of_eq rfl) (hb hby at_26) (fun _ _ => ⟨rfl, e0, (by decide : 0 + 1 ≤ _), (by decide : 0 + 4 ≤ _)⟩)
    dsimp only [Pt.U, Pt.locs, Pt.cells, Pt.slots] at X168 l168 y168 z168 st168 hQ168
    subst l168 y168 z168
    obtain ⟨b_168, rfl, Nq168, Kq168, w168_0, w168_1, w168_2, w168_3, w168_4, w168_5⟩ := hQ168
    have N169 := Fr.app N0 Nq168
    obtain ⟨h168, e168⟩ : ∃ z, T168.heap = z := ⟨_, rfl⟩
    rw [e168] at Kq168 w168_1 w168_2 w168_3 w168_4 w168_5
    have ne170 : A_END ≠ b_168 := Nat.ne_of_lt (Nat.lt_of_lt_of_le (u1.ext O0.2).lt w168_0)
    have g171 : n0 ≤ b_168 := Nat.le_trans (own_old O0) w168_0
    have O173 := O0.keep Kq168 all0
    refine gv st168 ?_
    show G (T168.setTop (mkF m 29 #[.val (.int p0), .val (.int p1), .val (.int (1 : Int32)), .val .null, .unset, .unset] [(.ref b_168)]))
    refine gv (fun t k => XS.astore X168.here hx rfl (hb hby at_29) rfl rfl (l' := #[.val (.int p0), .val (.int p1), .val (.int (1 : Int32)), .val .null, .val (.ref b_168), .unset]) rfl k) ?_
    show G (T168.setTop (mkF m 31 #[.val (.int p0), .val (.int p1), .val (.int (1 : Int32)), .val .null, .val (.ref b_168), .unset] []))
    refine gv (fun t k => XS.aload X168.here hx rfl (hb hby at_31) rfl rfl k) ?_
    show G (T168.setTop (mkF m 33 #[.val (.int p0), .val (.int p1), .val (.int (1 : Int32)), .val .null, .val (.ref b_168), .unset] [(.ref b_168)]))
    refine gv (fun t k => XS.ifnonnullYes X168.here hx rfl (pc0 := 33) (pc' := 38) rfl (hb hby at_33) rfl (by decide) (by decide) k) ?_
    show G (T168.setTop (mkF m 38 #[.val (.int p0), .val (.int p1), .val (.int (1 : Int32)), .val .null, .val (.ref b_168), .unset] []))
    refine gv (fun t k => XS.aload X168.here hx rfl (hb hby at_38) rfl rfl k) ?_
    show G (T168.setTop (mkF m 40 #[.val (.int p0), .val (.int p1), .val (.int (1 : Int32)), .val .null, .val (.ref b_168), .unset] [(.ref b_168)]))
    obtain ⟨T174, X174, e174, st174⟩ := getS2 X168 hx hZ hown (host := "") (Or.inl (hw _ (List.mem_of_getElem? (i := 25) rfl))) Via.refl e168 (u0.ext O173.2) (g := (mkF m 40 #[.val (.int p0), .val (.int p1), .val (.int (1 : Int32)), .val .null, .val (.ref b_168), .unset] [(.ref b_168)])) rfl (hb hby at_40)
    refine gv st174 ?_
    show G (T174.setTop (mkF m 43 #[.val (.int p0), .val (.int p1), .val (.int (1 : Int32)), .val .null, .val (.ref b_168), .unset] [(.ref A_END), (.ref b_168)]))
    refine gv (fun t k => Jvm.RoadKit.acmp (g := (mkF m 43 #[.val (.int p0), .val (.int p1), .val (.int (1 : Int32)), .val .null, .val (.ref b_168), .unset] [(.ref A_END), (.ref b_168)])) X174 hx rfl rfl rfl (pc0 := 43) (pc' := 48) (same := false) rfl (hb hby at_43) rfl (decide_eq_false fun q => (Ne.symm ne170) (Value.ref.inj q)) (by decide) (by decide) k) ?_
    show G (T174.setTop (mkF m 48 #[.val (.int p0), .val (.int p1), .val (.int (1 : Int32)), .val .null, .val (.ref b_168), .unset] []))
    refine gv (fun t k => XS.aload X174.here hx rfl (hb hby at_48) rfl rfl k) ?_
    show G (T174.setTop (mkF m 50 #[.val (.int p0), .val (.int p1), .val (.int (1 : Int32)), .val .null, .val (.ref b_168), .unset] [(.ref b_168)]))
    obtain ⟨cq175, kq175, q175a, q175b, q175c⟩ := isOf hZ e174 w168_1
    obtain ⟨_, _, ⟨T175, L175, k175, n175⟩, -, X175, ⟨Lc175, hQ175, l175, y175, z175⟩, st175⟩ := X174.virtualBack hx (y := (⟨"com/example/pufferfish/pufferfish/pipeline/Envelope", "origin", "()Lcom/example/pufferfish/pufferfish/pipeline/Origin;"⟩ : MethodName)) (z := (⟨"com/example/pufferfish/pufferfish/pipeline/Envelope", "origin", "()Lcom/example/pufferfish/pufferfish/pipeline/Origin;"⟩ : MethodName)) hown (mvT hZ (hw _ (List.mem_of_getElem? (i := 27) rfl))) (mvT hZ (hw _ (List.mem_of_getElem? (i := 28) rfl))) (notFace_of_selects (args := #[]) (mvT hZ (hw _ (List.mem_of_getElem? (i := 30) rfl)))) (mvT hZ (hw _ (List.mem_of_getElem? (i := 30) rfl))) (mvT hZ (hw _ (List.mem_of_getElem? (i := 29) rfl))) (by decide) (backOf (W := 0) (rm_org l Z a0 hw [] b_168 h168 n0 O173 w168_2) hZ (hw _ (List.mem_of_getElem? (i := 31) rfl)) (hw _ (List.mem_of_getElem? (i := 2) rfl)) (by decide) (by decide)) q175a q175c (g := (mkF m 50 #[.val (.int p0), .val (.int p1), .val (.int (1 : Int32)), .val .null, .val (.ref b_168), .unset] [(.ref b_168)])) rfl (by rw [hml]; rfl) (Steps.refl _) (argsL := []) (rest := []) (lenOf pd_5 rfl) rfl (by show 2 * 0 + _ ≤ _; exact Nat.le_of_eq rfl) (hb hby at_50) (fun _ _ => ⟨rfl, e174, (by decide : 1 + 0 ≤ _), (by decide : 4 + 0 ≤ _)⟩)
    dsimp only [Pt.U, Pt.locs, Pt.cells, Pt.slots] at X175 l175 y175 z175 st175 hQ175
    subst l175 y175 z175
    obtain ⟨rfl, Nq175, eq175⟩ := hQ175
    have N176 := Fr.app N169 Nq175
    refine gv (fun t k => st175.trans k) ?_
    show G (T175.setTop (mkF m 53 #[.val (.int p0), .val (.int p1), .val (.int (1 : Int32)), .val .null, .val (.ref b_168), .unset] [.null]))
    refine gv (fun t k => XS.ifnullYes X175.here hx rfl (pc0 := 53) (pc' := 58) rfl (hb hby at_53) rfl (by decide) (by decide) k) ?_
    show G (T175.setTop (mkF m 58 #[.val (.int p0), .val (.int p1), .val (.int (1 : Int32)), .val .null, .val (.ref b_168), .unset] []))
    refine gv (fun t k => XS.aload X175.here hx rfl (hb hby at_58) rfl rfl k) ?_
    show G (T175.setTop (mkF m 60 #[.val (.int p0), .val (.int p1), .val (.int (1 : Int32)), .val .null, .val (.ref b_168), .unset] [(.ref b_168)]))
    obtain ⟨cq177, kq177, q177a, q177b, q177c⟩ := isOf hZ eq175 w168_1
    obtain ⟨_, _, ⟨T177, L177, k177, n177⟩, -, X177, ⟨Lc177, hQ177, l177, y177, z177⟩, st177⟩ := X175.virtualBack hx (y := (⟨"com/example/pufferfish/pufferfish/pipeline/Envelope", "key", "()Ljava/lang/Object;"⟩ : MethodName)) (z := (⟨"com/example/pufferfish/pufferfish/pipeline/Envelope", "key", "()Ljava/lang/Object;"⟩ : MethodName)) hown (mvT hZ (hw _ (List.mem_of_getElem? (i := 32) rfl))) (mvT hZ (hw _ (List.mem_of_getElem? (i := 33) rfl))) (notFace_of_selects (args := #[]) (mvT hZ (hw _ (List.mem_of_getElem? (i := 35) rfl)))) (mvT hZ (hw _ (List.mem_of_getElem? (i := 35) rfl))) (mvT hZ (hw _ (List.mem_of_getElem? (i := 34) rfl))) (by decide) (backOf (W := 0) (rm_key l Z a0 hw [] b_168 h168 n0 O173 w168_3) hZ (hw _ (List.mem_of_getElem? (i := 36) rfl)) (hw _ (List.mem_of_getElem? (i := 2) rfl)) (by decide) (by decide)) q177a q177c (g := (mkF m 60 #[.val (.int p0), .val (.int p1), .val (.int (1 : Int32)), .val .null, .val (.ref b_168), .unset] [(.ref b_168)])) rfl (by rw [hml]; rfl) (Steps.refl _) (argsL := []) (rest := []) (lenOf pd_6 rfl) rfl (by show 2 * 0 + _ ≤ _; exact Nat.le_of_eq rfl) (hb hby at_60) (fun _ _ => ⟨rfl, eq175, (by decide : 1 + 0 ≤ _), (by decide : 4 + 0 ≤ _)⟩)
    dsimp only [Pt.U, Pt.locs, Pt.cells, Pt.slots] at X177 l177 y177 z177 st177 hQ177
    subst l177 y177 z177
    obtain ⟨rfl, Nq177, eq177⟩ := hQ177
    have N178 := Fr.app N176 Nq177
    refine gv (fun t k => st177.trans k) ?_
    show G (T177.setTop (mkF m 63 #[.val (.int p0), .val (.int p1), .val (.int (1 : Int32)), .val .null, .val (.ref b_168), .unset] [.null]))
    refine gv (fun t k => XS.ifnullYes X177.here hx rfl (pc0 := 63) (pc' := 68) rfl (hb hby at_63) rfl (by decide) (by decide) k) ?_
    show G (T177.setTop (mkF m 68 #[.val (.int p0), .val (.int p1), .val (.int (1 : Int32)), .val .null, .val (.ref b_168), .unset] []))
    refine gv (fun t k => XS.aload X177.here hx rfl (hb hby at_68) rfl rfl k) ?_
    show G (T177.setTop (mkF m 70 #[.val (.int p0), .val (.int p1), .val (.int (1 : Int32)), .val .null, .val (.ref b_168), .unset] [(.ref b_168)]))
    obtain ⟨cq179, kq179, q179a, q179b, q179c⟩ := isOf hZ eq177 w168_1
    obtain ⟨_, _, ⟨T179, L179, k179, n179⟩, -, X179, ⟨Lc179, hQ179, l179, y179, z179⟩, st179⟩ := X177.virtualBack hx (y := (⟨"com/example/pufferfish/pufferfish/pipeline/Envelope", "shard", "()I"⟩ : MethodName)) (z := (⟨"com/example/pufferfish/pufferfish/pipeline/Envelope", "shard", "()I"⟩ : MethodName)) hown (mvT hZ (hw _ (List.mem_of_getElem? (i := 37) rfl))) (mvT hZ (hw _ (List.mem_of_getElem? (i := 38) rfl))) (notFace_of_selects (args := #[]) (mvT hZ (hw _ (List.mem_of_getElem? (i := 40) rfl)))) (mvT hZ (hw _ (List.mem_of_getElem? (i := 40) rfl))) (mvT hZ (hw _ (List.mem_of_getElem? (i := 39) rfl))) (by decide) (backOf (W := 0) (rm_shd l Z a0 hw [] b_168 h168 n0 O173 w168_4) hZ (hw _ (List.mem_of_getElem? (i := 41) rfl)) (hw _ (List.mem_of_getElem? (i := 2) rfl)) (by decide) (by decide)) q179a q179c (g := (mkF m 70 #[.val (.int p0), .val (.int p1), .val (.int (1 : Int32)), .val .null, .val (.ref b_168), .unset] [(.ref b_168)])) rfl (by rw [hml]; rfl) (Steps.refl _) (argsL := []) (rest := []) (lenOf pd_7 rfl) rfl (by show 2 * 0 + _ ≤ _; exact Nat.le_of_eq rfl) (hb hby at_70) (fun _ _ => ⟨rfl, eq177, (by decide : 1 + 0 ≤ _), (by decide : 4 + 0 ≤ _)⟩)
    dsimp only [Pt.U, Pt.locs, Pt.cells, Pt.slots] at X179 l179 y179 z179 st179 hQ179
    subst l179 y179 z179
    obtain ⟨rfl, Nq179, eq179⟩ := hQ179
    have N180 := Fr.app N178 Nq179
    refine gv (fun t k => st179.trans k) ?_
    show G (T179.setTop (mkF m 73 #[.val (.int p0), .val (.int p1), .val (.int (1 : Int32)), .val .null, .val (.ref b_168), .unset] [(.int (-2 : Int32))]))
    refine gv (fun t k => XS.istore X179.here hx rfl (hb hby at_73) rfl (l' := #[.val (.int p0), .val (.int p1), .val (.int (1 : Int32)), .val .null, .val (.ref b_168), .val (.int (-2 : Int32))]) rfl k) ?_
    show G (T179.setTop (mkF m 75 #[.val (.int p0), .val (.int p1), .val (.int (1 : Int32)), .val .null, .val (.ref b_168), .val (.int (-2 : Int32))] []))
    refine gv (fun t k => XS.iload X179.here hx rfl (hb hby at_75) rfl k) ?_
    show G (T179.setTop (mkF m 77 #[.val (.int p0), .val (.int p1), .val (.int (1 : Int32)), .val .null, .val (.ref b_168), .val (.int (-2 : Int32))] [(.int (-2 : Int32))]))
    refine gv (fun t k => XS.bipush X179.here hx rfl (hb hby at_77) k) ?_
    show G (T179.setTop (mkF m 79 #[.val (.int p0), .val (.int p1), .val (.int (1 : Int32)), .val .null, .val (.ref b_168), .val (.int (-2 : Int32))] [(.int (-2 : Int32)), (.int (-2 : Int32))]))
    refine gv (fun t k => XS.icmpNo X179.here hx rfl (hb hby at_79) rfl (teq (by decide : (-2 : Int32) = (-2 : Int32))).2 k) ?_
    show G (T179.setTop (mkF m 82 #[.val (.int p0), .val (.int p1), .val (.int (1 : Int32)), .val .null, .val (.ref b_168), .val (.int (-2 : Int32))] []))
    refine gv (fun t k => XS.iload X179.here hx rfl (hb hby at_82) rfl k) ?_
    show G (T179.setTop (mkF m 84 #[.val (.int p0), .val (.int p1), .val (.int (1 : Int32)), .val .null, .val (.ref b_168), .val (.int (-2 : Int32))] [(.int (-2 : Int32))]))
    refine gv (fun t k => XS.iconst X179.here hx rfl (hb hby at_84) k) ?_
    show G (T179.setTop (mkF m 85 #[.val (.int p0), .val (.int p1), .val (.int (1 : Int32)), .val .null, .val (.ref b_168), .val (.int (-2 : Int32))] [(.int (-1 : Int32)), (.int (-2 : Int32))]))
    refine gv (fun t k => XS.icmpNo X179.here hx rfl (hb hby at_85) rfl (feq (by decide : ¬ ((-2 : Int32) = (-1 : Int32)))).1 k) ?_
    show G (T179.setTop (mkF m 88 #[.val (.int p0), .val (.int p1), .val (.int (1 : Int32)), .val .null, .val (.ref b_168), .val (.int (-2 : Int32))] []))
    refine gv (fun t k => XS.iload X179.here hx rfl (hb hby at_88) rfl k) ?_
    show G (T179.setTop (mkF m 90 #[.val (.int p0), .val (.int p1), .val (.int (1 : Int32)), .val .null, .val (.ref b_168), .val (.int (-2 : Int32))] [(.int (-2 : Int32))]))
    refine gv (fun t k => XS.bipush X179.here hx rfl (hb hby at_90) k) ?_
    show G (T179.setTop (mkF m 92 #[.val (.int p0), .val (.int p1), .val (.int (1 : Int32)), .val .null, .val (.ref b_168), .val (.int (-2 : Int32))] [(.int (-2 : Int32)), (.int (-2 : Int32))]))
    refine gv (fun t k => XS.icmpYes X179.here hx rfl (pc0 := 92) (pc' := 97) rfl (hb hby at_92) rfl (teq (by decide : (-2 : Int32) = (-2 : Int32))).1 (by decide) (by decide) k) ?_
    show G (T179.setTop (mkF m 97 #[.val (.int p0), .val (.int p1), .val (.int (1 : Int32)), .val .null, .val (.ref b_168), .val (.int (-2 : Int32))] []))
    refine gv (fun t k => XS.aload X179.here hx rfl (hb hby at_97) rfl rfl k) ?_
    show G (T179.setTop (mkF m 99 #[.val (.int p0), .val (.int p1), .val (.int (1 : Int32)), .val .null, .val (.ref b_168), .val (.int (-2 : Int32))] [(.ref b_168)]))
    obtain ⟨cq181, kq181, q181a, q181b, q181c⟩ := isOf hZ eq179 w168_1
    obtain ⟨_, _, ⟨T181, L181, k181, n181⟩, -, X181, ⟨Lc181, hQ181, l181, y181, z181⟩, st181⟩ := X179.virtualBack hx (y := (⟨"com/example/pufferfish/pufferfish/pipeline/Envelope", "record", "()Ljava/lang/Object;"⟩ : MethodName)) (z := (⟨"com/example/pufferfish/pufferfish/pipeline/Envelope", "record", "()Ljava/lang/Object;"⟩ : MethodName)) hown (mvT hZ (hw _ (List.mem_of_getElem? (i := 42) rfl))) (mvT hZ (hw _ (List.mem_of_getElem? (i := 43) rfl))) (notFace_of_selects (args := #[]) (mvT hZ (hw _ (List.mem_of_getElem? (i := 45) rfl)))) (mvT hZ (hw _ (List.mem_of_getElem? (i := 45) rfl))) (mvT hZ (hw _ (List.mem_of_getElem? (i := 44) rfl))) (by decide) (backOf (W := 0) (rm_getN l Z a0 hw [] b_168 h168 n0 O173 w168_5) hZ (hw _ (List.mem_of_getElem? (i := 46) rfl)) (hw _ (List.mem_of_getElem? (i := 2) rfl)) (by decide) (by decide)) q181a q181c (g := (mkF m 99 #[.val (.int p0), .val (.int p1), .val (.int (1 : Int32)), .val .null, .val (.ref b_168), .val (.int (-2 : Int32))] [(.ref b_168)])) rfl (by rw [hml]; rfl) (Steps.refl _) (argsL := []) (rest := []) (lenOf pd_6 rfl) rfl (by show 2 * 0 + _ ≤ _; exact Nat.le_of_eq rfl) (hb hby at_99) (fun _ _ => ⟨rfl, eq179, (by decide : 1 + 0 ≤ _), (by decide : 4 + 0 ≤ _)⟩)
    dsimp only [Pt.U, Pt.locs, Pt.cells, Pt.slots] at X181 l181 y181 z181 st181 hQ181
    subst l181 y181 z181
    obtain ⟨rfl, Nq181, eq181⟩ := hQ181
    have N182 := Fr.app N180 Nq181
    refine gv (fun t k => st181.trans k) ?_
    show G (T181.setTop (mkF m 102 #[.val (.int p0), .val (.int p1), .val (.int (1 : Int32)), .val .null, .val (.ref b_168), .val (.int (-2 : Int32))] [.null]))
    refine gv (fun t k => XS.aloadN X181.here hx rfl (hb hby at_102) rfl rfl k) ?_
    show G (T181.setTop (mkF m 103 #[.val (.int p0), .val (.int p1), .val (.int (1 : Int32)), .val .null, .val (.ref b_168), .val (.int (-2 : Int32))] [.null, .null]))
    refine gv (fun t k => Jvm.RoadKit.acmp (g := (mkF m 103 #[.val (.int p0), .val (.int p1), .val (.int (1 : Int32)), .val .null, .val (.ref b_168), .val (.int (-2 : Int32))] [.null, .null])) X181 hx rfl rfl rfl (pc0 := 103) (pc' := 106) (same := true) rfl (hb hby at_103) rfl (decide_eq_true rfl) (by decide) (by decide) k) ?_
    show G (T181.setTop (mkF m 106 #[.val (.int p0), .val (.int p1), .val (.int (1 : Int32)), .val .null, .val (.ref b_168), .val (.int (-2 : Int32))] []))
    refine gv (fun t k => XS.iconst X181.here hx rfl (hb hby at_106) k) ?_
    show G (T181.setTop (mkF m 107 #[.val (.int p0), .val (.int p1), .val (.int (1 : Int32)), .val .null, .val (.ref b_168), .val (.int (-2 : Int32))] [(.int (1 : Int32))]))
    refine gv (fun t k => XS.goto X181.here hx rfl (pc0 := 107) (pc' := 111) rfl (hb hby at_107) (by decide) (by decide) k) ?_
    show G (T181.setTop (mkF m 111 #[.val (.int p0), .val (.int p1), .val (.int (1 : Int32)), .val .null, .val (.ref b_168), .val (.int (-2 : Int32))] [(.int (1 : Int32))]))
    refine gf _ (own_ret X181 Bd.notSynchronized (v := some (.int (1 : Int32))) (fun h => by rw [Bd.returns] at h; cases h) ?_ (by decide) (by decide) (fun fs hr => retN X181 hx (t := .boolean) Bd.returns (by simp) (hb hby at_111) hr))
    show Q0 Z p0 p1 A_END cA bxc h0 n0 _ T181.heap _
    rw [eq181]
    exact ⟨rfl, N182⟩
set_option maxRecDepth 65536 in
set_option maxHeartbeats 40000000 in
theorem comes_1 {Post : Tables → Env → Array Value → State → Outcome → State → Prop} (hpost : ∀ tb e args s v u, (limb_1_1.after args s (.returned v) u = true ∧ limb_1_2.after args s (.returned v) u = true ∧ True) → FrameEnd s (.returned v) u (Jvm.fieldLocs frame_1_writes args s ++ Jvm.arrayLocs frame_1_arrays args s ++ Jvm.staticLocs frame_1_statics s) 16 128 → Post tb e args s (.returned v) u) :
    ArmFor flags0 classFile x code maxLocals ret World_1 tables_1 room_1 Calls_1 rest_1 Pre_1 Post := by
  intro l hfl _ _ p e ha hc hk s m args below hf hA hF happ hP
  obtain ⟨hcalls, hrest, hpre⟩ := hP
  obtain ⟨-, -, -, hnamed, -, -, -, hat⟩ := (Spec.applies_iff hf).mp happ
  obtain ⟨hg, hn⟩ := and_e (Cond.before_iff.mp (show (Jvm.Cond.and given_1 narrow_1).before args s = true from hpre))
  obtain ⟨g1, g2⟩ := and_e hg
  obtain ⟨g3, g4⟩ := and_e g2
  obtain ⟨w0, w1, rfl⟩ : ∃ w0 w1 : Value, args = #[w0, w1] := by
    have hs : args.size = 2 := by simpa [Cond.value, given_1] using g1
    obtain ⟨L⟩ := args
    match L, hs with
    | [w0, w1], _ => exact ⟨w0, w1, rfl⟩
  have hw := fun d (hd : d ∈ tables_1) => atoms_spec (ws := Jvm.Cond.code x code maxLocals ret :: tables_1) hat d (List.mem_cons_of_mem _ hd)
  have hfit : Fit s := fun {y c} hc i hi => by
    obtain ⟨ha, rfl⟩ := Array.getElem?_eq_some_iff.mp hc
    have q := List.all_eq_true.mp ((Array.all_eq_true_iff_forall_mem.mp hF) _ (Array.getElem_mem ha)) i (List.mem_range.mpr hi)
    simpa [Array.getElem?_eq_getElem hi] using q
  obtain ⟨hsets, hown0⟩ := atoms_of _ (rest_1_c_eq ▸ (show rest_1_c.before _ s = true from hrest))
  obtain ⟨i0, ei0⟩ := is_v g3
  obtain rfl : w0 = (.int i0) := Option.some.inj ei0
  obtain ⟨i1, ei1⟩ := is_v g4
  obtain rfl : w1 = (.int i1) := Option.some.inj ei1
  obtain ⟨A_END, ev_END, E_END⟩ := own_exa hn
  have S_END : Sta s s.heap "com/example/pufferfish/pufferfish/pipeline/Envelope" "END" "Lcom/example/pufferfish/pufferfish/pipeline/Envelope;" (.ref A_END) := Sta.start ev_END (Or.inr ⟨(hw _ (List.mem_of_getElem? (i := 2) rfl)), (hw _ (List.mem_of_getElem? (i := 26) rfl))⟩)
  have S_high : Sta s s.heap "java/lang/Integer$IntegerCache" "high" "I" (.int 127) := Sta.start (eqv_i (Term.int_eval 127) (Cond.before_iff.mp (hsets _ (List.mem_of_getElem? (i := 3) rfl)))) (Or.inl (hsets _ (List.mem_of_getElem? (i := 1) rfl)))
  obtain ⟨cA, bxc, evc, hbx⟩ := own_cache (t := .static "java/lang/Integer$IntegerCache" "cache" "[Ljava/lang/Integer;") (fun _ _ => rfl) (Cond.before_iff.mp (hsets _ (List.mem_of_getElem? (i := 4) rfl))) (Cond.before_iff.mp (hsets _ (List.mem_of_getElem? (i := 6) rfl))) (Cond.before_iff.mp (hsets _ (List.mem_of_getElem? (i := 7) rfl)))
  have S_cache : Sta s s.heap "java/lang/Integer$IntegerCache" "cache" "[Ljava/lang/Integer;" (.ref cA) := Sta.start evc (Or.inr ⟨(hw _ (List.mem_of_getElem? (i := 67) rfl)), hsets _ (List.mem_of_getElem? (i := 2) rfl)⟩)
  obtain ⟨n, o, h1, h2, h3, _, L, rfl, ⟨rfl, N⟩, hq⟩ := rm0 l s _ hw tables_1 i0 i1 A_END cA bxc s.heap s.heap.size (Old.start s) S_END E_END S_high S_cache hbx p e ha hc hk s m _ below hf ((Spec.applies_iff_loose hf).mp happ).1 ⟨rfl, State.Warmed39.refl s, rfl⟩ trivial
  refine ⟨n, _, h1, h2, h3, hpost _ _ _ _ _ _ ⟨Cond.after_iff.mpr rfl, Cond.after_iff.mpr (eq_i res_at (Term.int_eval (1)) rfl), trivial⟩ ⟨hq.1, hq.2.1, (hq.2.2.sift fun y hy => Or.inr (N y hy)).mono (by decide) (by decide)⟩⟩
theorem main_1_1 : Claimed_1_1 := comes_1 fun _ _ _ _ _ _ h hF => ⟨h.1, hF⟩
theorem main_1_2 : Claimed_1_2 := comes_1 fun _ _ _ _ _ _ h hF => ⟨h.2.1, hF⟩
end Jvm.Pilot.@@N@@
namespace Jvm.Pilot.@@N@@
open Jvm Jvm.ClassFile Sem Op Lib Jvm.Free Jvm.Stand Jvm.Pilot.@@N@@.Jvm.D
/-! MADE BY PROGRAM (witnessworld.py) out of the Statement's table words and the real class files: 17 classes; the members and pool entries that the words name. The judged class is class 1, her method 1. -/
namespace start1
open Jvm.ClassFile
def u (s : String) : CpInfo := .utf8 (stringToUtf16 s)
/-- a pool by its gaps: so many unusable entries, then the entry; so many at the end -/
def gap : Nat → List CpInfo → List CpInfo
  | 0, r => r
  | n + 1, r => .unusable :: gap n r
def poolList (es : List (Nat × CpInfo)) (last : Nat) : List CpInfo := es.foldr (fun e r => gap e.1 (e.2 :: r)) (gap last [])
def pool (es : List (Nat × CpInfo)) (last : Nat) : Array CpInfo := ⟨poolList es last⟩
def fileOf (pool : Array CpInfo) (this : Nat) (attrs : Array Attribute := #[]) (ms : Array MethodInfo := #[]) (fl : Nat := 33) (sup : Nat := 0) (ifs : Array Nat := #[]) (fds : Array FieldInfo := #[]) : ClassFile where
  minorVersion := 0
  majorVersion := 65
  constantPool := pool
  accessFlags := fl
  thisClass := this
  superClass := sup
  interfaces := ifs
  fields := fds
  methods := ms
  attributes := attrs
def plain (name : String) (sup : Option ClassId) : Class where
  name := name
  kind := .ordinary
  loader := none
  accessFlags := 33
  super := sup
  interfaces := #[]
  cf := none
  fields := #[]
  methods := #[]
  instanceTypes := #[]
  staticTypes := #[]
  resolved := #[]
  callSites := []
  init := .initialized
  statics := none
  mirror := none

def pool0 : Array CpInfo := pool [(5, u "<init>"), (0, u "()V"), (1, .class_ 10), (1, u "java/lang/Object")] 113

def k0c0 : Code := { maxStack := 0, maxLocals := 1, code := object_method_1_code, exceptionTable := #[], attributes := #[] }
def k0m0 : Method := { name := "<init>", desc := "()V", sig := { parameters := [], returnType := none }, accessFlags := 1, code := some k0c0 }
/-- java/lang/Object -/
def k0 : Class := { plain "java/lang/Object" none with
  accessFlags := 33
  interfaces := #[]
  cf := some (fileOf pool0 8 #[] #[{ accessFlags := 1, nameIndex := 5, descriptorIndex := 6, attributes := #[] }] 33 0 #[] #[])
  fields := #[]
  methods := #[k0m0]
  instanceTypes := #[]
  staticTypes := #[]
  resolved := Array.replicate 124 none
  statics := none }

def pool1 : Array CpInfo := pool [(2, .class_ 4), (1, u "java/lang/Object"), (0, u "<init>"), (0, u "()V"), (0, .methodref 8 9), (0, .class_ 10), (0, .nameAndType 11 12), (0, u "java/lang/Integer"), (0, u "valueOf"), (0, u "(I)Ljava/lang/Integer;"), (0, .methodref 14 15), (0, .class_ 16), (0, .nameAndType 17 18), (0, u "com/example/pufferfish/pufferfish/pipeline/Envelope"), (0, u "signal"), (0, u "(Ljava/lang/Object;)Lcom/example/pufferfish/pufferfish/pipeline/Envelope;"), (0, .fieldref 14 20), (0, .nameAndType 21 22), (0, u "END"), (0, u "Lcom/example/pufferfish/pufferfish/pipeline/Envelope;"), (0, .methodref 14 24), (0, .nameAndType 25 26), (0, u "origin"), (0, u "()Lcom/example/pufferfish/pufferfish/pipeline/Origin;"), (0, .methodref 14 28), (0, .nameAndType 29 30), (0, u "key"), (0, u "()Ljava/lang/Object;"), (0, .methodref 14 32), (0, .nameAndType 33 34), (0, u "shard"), (0, u "()I"), (0, .methodref 14 36), (0, .nameAndType 37 30), (0, u "record"), (0, .class_ 39), (0, u "com/example/pufferfish/pufferfish/pipeline/EnvelopeSignalPinLaw"), (2, u "law"), (0, u "(II)Z")] 3

def k1m0 : Method := { name := "<init>", desc := "()V", sig := { parameters := [], returnType := none }, accessFlags := 1, code := none }
def k1c1 : Code := { maxStack := 2, maxLocals := 6, code := code, exceptionTable := #[], attributes := #[] }
def k1m1 : Method := { name := "law", desc := "(II)Z", sig := { parameters := [.int, .int], returnType := some .boolean }, accessFlags := 9, code := some k1c1 }
/-- com/example/pufferfish/pufferfish/pipeline/EnvelopeSignalPinLaw -/
def k1 : Class := { plain "com/example/pufferfish/pufferfish/pipeline/EnvelopeSignalPinLaw" (some 0) with
  accessFlags := 49
  interfaces := #[]
  cf := some (fileOf pool1 38 #[] #[{ accessFlags := 1, nameIndex := 5, descriptorIndex := 6, attributes := #[] }, { accessFlags := 9, nameIndex := 42, descriptorIndex := 43, attributes := #[] }] 49 2 #[] #[])
  fields := #[]
  methods := #[k1m0, k1m1]
  instanceTypes := #[]
  staticTypes := #[]
  resolved := Array.replicate 47 none
  statics := none }

def pool2 : Array CpInfo := pool [(1, .methodref 2 3), (0, .class_ 4), (0, .nameAndType 5 6), (0, u "java/lang/Object"), (0, u "<init>"), (0, u "()V"), (0, .class_ 8), (0, u "java/lang/Record")] 13

def k2c0 : Code := { maxStack := 1, maxLocals := 1, code := jdk_30_method_1_code, exceptionTable := #[], attributes := #[] }
def k2m0 : Method := { name := "<init>", desc := "()V", sig := { parameters := [], returnType := none }, accessFlags := 4, code := some k2c0 }
/-- java/lang/Record -/
def k2 : Class := { plain "java/lang/Record" (some 0) with
  accessFlags := 1057
  interfaces := #[]
  cf := some (fileOf pool2 7 #[] #[{ accessFlags := 4, nameIndex := 5, descriptorIndex := 6, attributes := #[] }] 1057 2 #[] #[])
  fields := #[]
  methods := #[k2m0]
  instanceTypes := #[]
  staticTypes := #[]
  resolved := Array.replicate 22 none
  statics := none }

def pool3 : Array CpInfo := pool [(1, .methodref 2 3), (0, .class_ 4), (0, .nameAndType 5 6), (0, u "java/lang/Record"), (0, u "<init>"), (0, u "()V"), (0, .fieldref 8 9), (0, .class_ 10), (0, .nameAndType 11 12), (0, u "com/example/pufferfish/pufferfish/pipeline/Envelope"), (0, u "origin"), (0, u "Lcom/example/pufferfish/pufferfish/pipeline/Origin;"), (0, .fieldref 8 14), (0, .nameAndType 15 16), (0, u "key"), (0, u "Ljava/lang/Object;"), (0, .fieldref 8 18), (0, .nameAndType 19 20), (0, u "shard"), (0, u "I"), (0, .fieldref 8 22), (0, .nameAndType 23 16), (0, u "record"), (0, .methodref 8 25), (0, .nameAndType 5 26), (0, u "(Lcom/example/pufferfish/pufferfish/pipeline/Origin;Ljava/lang/Object;ILjava/lang/Object;)V"), (14, u "END"), (0, u "Lcom/example/pufferfish/pufferfish/pipeline/Envelope;"), (0, u "SIGNAL"), (2, u "UNKEYED"), (5, u "signal"), (0, u "(Ljava/lang/Object;)Lcom/example/pufferfish/pufferfish/pipeline/Envelope;"), (1, u "()I"), (1, u "()Lcom/example/pufferfish/pufferfish/pipeline/Origin;"), (0, u "()Ljava/lang/Object;")] 24

def k3c0 : Code := { maxStack := 2, maxLocals := 5, code := prog_31_method_2_code, exceptionTable := #[], attributes := #[] }
def k3m0 : Method := { name := "<init>", desc := "(Lcom/example/pufferfish/pufferfish/pipeline/Origin;Ljava/lang/Object;ILjava/lang/Object;)V", sig := { parameters := [(.object "com/example/pufferfish/pufferfish/pipeline/Origin"), (.object "java/lang/Object"), .int, (.object "java/lang/Object")], returnType := none }, accessFlags := 0, code := some k3c0 }
def k3c1 : Code := { maxStack := 6, maxLocals := 1, code := prog_31_method_3_code, exceptionTable := #[], attributes := #[] }
def k3m1 : Method := { name := "signal", desc := "(Ljava/lang/Object;)Lcom/example/pufferfish/pufferfish/pipeline/Envelope;", sig := { parameters := [(.object "java/lang/Object")], returnType := some (.object "com/example/pufferfish/pufferfish/pipeline/Envelope") }, accessFlags := 8, code := some k3c1 }
def k3c2 : Code := { maxStack := 1, maxLocals := 1, code := prog_31_method_7_code, exceptionTable := #[], attributes := #[] }
def k3m2 : Method := { name := "origin", desc := "()Lcom/example/pufferfish/pufferfish/pipeline/Origin;", sig := { parameters := [], returnType := some (.object "com/example/pufferfish/pufferfish/pipeline/Origin") }, accessFlags := 1, code := some k3c2 }
def k3c3 : Code := { maxStack := 1, maxLocals := 1, code := prog_31_method_8_code, exceptionTable := #[], attributes := #[] }
def k3m3 : Method := { name := "key", desc := "()Ljava/lang/Object;", sig := { parameters := [], returnType := some (.object "java/lang/Object") }, accessFlags := 1, code := some k3c3 }
def k3c4 : Code := { maxStack := 1, maxLocals := 1, code := prog_31_method_9_code, exceptionTable := #[], attributes := #[] }
def k3m4 : Method := { name := "shard", desc := "()I", sig := { parameters := [], returnType := some .int }, accessFlags := 1, code := some k3c4 }
def k3c5 : Code := { maxStack := 1, maxLocals := 1, code := prog_31_method_10_code, exceptionTable := #[], attributes := #[] }
def k3m5 : Method := { name := "record", desc := "()Ljava/lang/Object;", sig := { parameters := [], returnType := some (.object "java/lang/Object") }, accessFlags := 1, code := some k3c5 }
/-- com/example/pufferfish/pufferfish/pipeline/Envelope -/
def k3 : Class := { plain "com/example/pufferfish/pufferfish/pipeline/Envelope" (some 2) with
  accessFlags := 48
  interfaces := #[]
  cf := some (fileOf pool3 8 #[] #[{ accessFlags := 0, nameIndex := 5, descriptorIndex := 26, attributes := #[] }, { accessFlags := 8, nameIndex := 52, descriptorIndex := 53, attributes := #[] }, { accessFlags := 1, nameIndex := 11, descriptorIndex := 57, attributes := #[] }, { accessFlags := 1, nameIndex := 15, descriptorIndex := 58, attributes := #[] }, { accessFlags := 1, nameIndex := 19, descriptorIndex := 55, attributes := #[] }, { accessFlags := 1, nameIndex := 23, descriptorIndex := 58, attributes := #[] }] 48 2 #[] #[{ accessFlags := 18, nameIndex := 11, descriptorIndex := 12, attributes := #[] }, { accessFlags := 18, nameIndex := 15, descriptorIndex := 16, attributes := #[] }, { accessFlags := 18, nameIndex := 19, descriptorIndex := 20, attributes := #[] }, { accessFlags := 18, nameIndex := 23, descriptorIndex := 16, attributes := #[] }, { accessFlags := 24, nameIndex := 43, descriptorIndex := 20, attributes := #[] }, { accessFlags := 24, nameIndex := 46, descriptorIndex := 20, attributes := #[] }, { accessFlags := 24, nameIndex := 41, descriptorIndex := 42, attributes := #[] }])
  fields := #[{ name := "origin", type := (.object "com/example/pufferfish/pufferfish/pipeline/Origin"), accessFlags := 18, slot := 0, constantValue := 0 }, { name := "key", type := (.object "java/lang/Object"), accessFlags := 18, slot := 1, constantValue := 0 }, { name := "shard", type := .int, accessFlags := 18, slot := 2, constantValue := 0 }, { name := "record", type := (.object "java/lang/Object"), accessFlags := 18, slot := 3, constantValue := 0 }, { name := "SIGNAL", type := .int, accessFlags := 24, slot := 0, constantValue := 0 }, { name := "UNKEYED", type := .int, accessFlags := 24, slot := 1, constantValue := 0 }, { name := "END", type := (.object "com/example/pufferfish/pufferfish/pipeline/Envelope"), accessFlags := 24, slot := 2, constantValue := 0 }]
  methods := #[k3m0, k3m1, k3m2, k3m3, k3m4, k3m5]
  instanceTypes := #[(.object "com/example/pufferfish/pufferfish/pipeline/Origin"), (.object "java/lang/Object"), .int, (.object "java/lang/Object")]
  staticTypes := #[.int, .int, (.object "com/example/pufferfish/pufferfish/pipeline/Envelope")]
  resolved := Array.replicate 83 none
  statics := some 0 }

def pool4 : Array CpInfo := pool [(1, .class_ 2), (0, u "java/io/Serializable"), (0, .class_ 4), (0, u "java/lang/Object")] 2

/-- java/io/Serializable -/
def k4 : Class := { plain "java/io/Serializable" (some 0) with
  accessFlags := 1537
  interfaces := #[]
  cf := some (fileOf pool4 1 #[] #[] 1537 3 #[] #[])
  fields := #[]
  methods := #[]
  instanceTypes := #[]
  staticTypes := #[]
  resolved := Array.replicate 7 none
  statics := none }

def pool5 : Array CpInfo := pool [(1, .methodref 2 3), (0, .class_ 4), (0, .nameAndType 5 6), (0, u "java/lang/Object"), (0, u "<init>"), (0, u "()V"), (1, .class_ 10), (1, u "java/lang/Number"), (2, .class_ 14), (0, u "java/io/Serializable"), (0, u "serialVersionUID"), (0, u "J")] 20

def k5c0 : Code := { maxStack := 1, maxLocals := 1, code := jdk_18_method_1_code, exceptionTable := #[], attributes := #[] }
def k5m0 : Method := { name := "<init>", desc := "()V", sig := { parameters := [], returnType := none }, accessFlags := 1, code := some k5c0 }
/-- java/lang/Number -/
def k5 : Class := { plain "java/lang/Number" (some 0) with
  accessFlags := 1057
  interfaces := #[4]
  cf := some (fileOf pool5 8 #[] #[{ accessFlags := 1, nameIndex := 5, descriptorIndex := 6, attributes := #[] }] 1057 2 #[13] #[{ accessFlags := 26, nameIndex := 15, descriptorIndex := 16, attributes := #[] }])
  fields := #[{ name := "serialVersionUID", type := .long, accessFlags := 26, slot := 0, constantValue := 0 }]
  methods := #[k5m0]
  instanceTypes := #[]
  staticTypes := #[.long]
  resolved := Array.replicate 37 none
  statics := none }

def pool6 : Array CpInfo := pool [(1, .class_ 2), (0, u "java/lang/Comparable"), (0, .class_ 4), (0, u "java/lang/Object")] 7

/-- java/lang/Comparable -/
def k6 : Class := { plain "java/lang/Comparable" (some 0) with
  accessFlags := 1537
  interfaces := #[]
  cf := some (fileOf pool6 1 #[] #[] 1537 3 #[] #[])
  fields := #[]
  methods := #[]
  instanceTypes := #[]
  staticTypes := #[]
  resolved := Array.replicate 12 none
  statics := none }

def pool7 : Array CpInfo := pool [(1, .class_ 2), (0, u "java/lang/constant/Constable"), (0, .class_ 4), (0, u "java/lang/Object")] 6

/-- java/lang/constant/Constable -/
def k7 : Class := { plain "java/lang/constant/Constable" (some 0) with
  accessFlags := 1537
  interfaces := #[]
  cf := some (fileOf pool7 1 #[] #[] 1537 3 #[] #[])
  fields := #[]
  methods := #[]
  instanceTypes := #[]
  staticTypes := #[]
  resolved := Array.replicate 11 none
  statics := none }

def pool8 : Array CpInfo := pool [(1, .class_ 2), (0, u "java/lang/constant/ConstantDesc"), (0, .class_ 4), (0, u "java/lang/Object")] 32

/-- java/lang/constant/ConstantDesc -/
def k8 : Class := { plain "java/lang/constant/ConstantDesc" (some 0) with
  accessFlags := 1537
  interfaces := #[]
  cf := some (fileOf pool8 1 #[] #[] 1537 3 #[] #[])
  fields := #[]
  methods := #[]
  instanceTypes := #[]
  staticTypes := #[]
  resolved := Array.replicate 37 none
  statics := none }

def pool9 : Array CpInfo := pool [(1, .class_ 2), (0, u "java/lang/Integer"), (16, u "digits"), (0, u "[C"), (46, u "<init>"), (17, u "DigitOnes"), (0, u "[B"), (2, u "DigitTens"), (10, .nameAndType 67 101), (0, u "()V"), (85, u "valueOf"), (0, u "(I)Ljava/lang/Integer;"), (0, .class_ 190), (0, u "java/lang/Integer$IntegerCache"), (0, .fieldref 189 192), (0, .nameAndType 193 194), (0, u "high"), (0, u "I"), (0, .fieldref 189 196), (0, .nameAndType 197 198), (0, u "cache"), (0, u "[Ljava/lang/Integer;"), (0, .methodref 1 200), (0, .nameAndType 67 201), (0, u "(I)V"), (0, .methodref 203 100), (0, .class_ 204), (0, u "java/lang/Number"), (0, .fieldref 1 206), (0, .nameAndType 207 194), (0, u "value"), (94, u "TYPE"), (0, u "Ljava/lang/Class;"), (0, .class_ 305), (0, u "java/lang/Comparable"), (0, .class_ 307), (0, u "java/lang/constant/Constable"), (0, .class_ 309), (0, u "java/lang/constant/ConstantDesc"), (0, u "MIN_VALUE"), (1, u "MAX_VALUE"), (3, u "SIZE"), (1, u "BYTES"), (1, u "serialVersionUID"), (0, u "J")] 131

def k9c0 : Code := { maxStack := 3, maxLocals := 1, code := jdk_33_method_22_code, exceptionTable := #[], attributes := #[] }
def k9m0 : Method := { name := "valueOf", desc := "(I)Ljava/lang/Integer;", sig := { parameters := [.int], returnType := some (.object "java/lang/Integer") }, accessFlags := 9, code := some k9c0 }
def k9c1 : Code := { maxStack := 2, maxLocals := 2, code := jdk_33_method_23_code, exceptionTable := #[], attributes := #[] }
def k9m1 : Method := { name := "<init>", desc := "(I)V", sig := { parameters := [.int], returnType := none }, accessFlags := 1, code := some k9c1 }
/-- java/lang/Integer -/
def k9 : Class := { plain "java/lang/Integer" (some 5) with
  accessFlags := 49
  interfaces := #[6, 7, 8]
  cf := some (fileOf pool9 1 #[.nestMembers #[189]] #[{ accessFlags := 9, nameIndex := 187, descriptorIndex := 188, attributes := #[] }, { accessFlags := 1, nameIndex := 67, descriptorIndex := 201, attributes := #[] }] 49 203 #[304, 306, 308] #[{ accessFlags := 25, nameIndex := 310, descriptorIndex := 194, attributes := #[] }, { accessFlags := 25, nameIndex := 312, descriptorIndex := 194, attributes := #[] }, { accessFlags := 25, nameIndex := 302, descriptorIndex := 303, attributes := #[] }, { accessFlags := 24, nameIndex := 19, descriptorIndex := 20, attributes := #[] }, { accessFlags := 24, nameIndex := 89, descriptorIndex := 86, attributes := #[] }, { accessFlags := 24, nameIndex := 85, descriptorIndex := 86, attributes := #[] }, { accessFlags := 18, nameIndex := 207, descriptorIndex := 194, attributes := #[] }, { accessFlags := 25, nameIndex := 316, descriptorIndex := 194, attributes := #[] }, { accessFlags := 25, nameIndex := 318, descriptorIndex := 194, attributes := #[] }, { accessFlags := 26, nameIndex := 320, descriptorIndex := 321, attributes := #[] }])
  fields := #[{ name := "MIN_VALUE", type := .int, accessFlags := 25, slot := 0, constantValue := 0 }, { name := "MAX_VALUE", type := .int, accessFlags := 25, slot := 1, constantValue := 0 }, { name := "TYPE", type := (.object "java/lang/Class"), accessFlags := 25, slot := 2, constantValue := 0 }, { name := "digits", type := (.array .char), accessFlags := 24, slot := 3, constantValue := 0 }, { name := "DigitTens", type := (.array .byte), accessFlags := 24, slot := 4, constantValue := 0 }, { name := "DigitOnes", type := (.array .byte), accessFlags := 24, slot := 5, constantValue := 0 }, { name := "value", type := .int, accessFlags := 18, slot := 0, constantValue := 0 }, { name := "SIZE", type := .int, accessFlags := 25, slot := 6, constantValue := 0 }, { name := "BYTES", type := .int, accessFlags := 25, slot := 7, constantValue := 0 }, { name := "serialVersionUID", type := .long, accessFlags := 26, slot := 8, constantValue := 0 }]
  methods := #[k9m0, k9m1]
  instanceTypes := #[.int]
  staticTypes := #[.int, .int, (.object "java/lang/Class"), (.array .char), (.array .byte), (.array .byte), .int, .int, .long]
  resolved := Array.replicate 453 none
  statics := none }

def pool10 : Array CpInfo := pool [(2, .class_ 4), (1, u "java/lang/Object"), (0, u "<init>"), (0, u "()V"), (0, .class_ 8), (0, u "java/lang/Integer"), (7, .class_ 18), (1, u "java/lang/Integer$IntegerCache"), (0, u "$assertionsDisabled"), (0, u "Z"), (26, u "high"), (0, u "I"), (8, u "archivedCache"), (0, u "[Ljava/lang/Integer;"), (12, u "cache"), (0, u "low")] 27

def k10m0 : Method := { name := "<init>", desc := "()V", sig := { parameters := [], returnType := none }, accessFlags := 2, code := none }
/-- java/lang/Integer$IntegerCache -/
def k10 : Class := { plain "java/lang/Integer$IntegerCache" (some 0) with
  accessFlags := 48
  interfaces := #[]
  cf := some (fileOf pool10 16 #[.nestHost 7] #[{ accessFlags := 2, nameIndex := 5, descriptorIndex := 6, attributes := #[] }] 48 2 #[] #[{ accessFlags := 24, nameIndex := 72, descriptorIndex := 48, attributes := #[] }, { accessFlags := 24, nameIndex := 47, descriptorIndex := 48, attributes := #[] }, { accessFlags := 24, nameIndex := 71, descriptorIndex := 58, attributes := #[] }, { accessFlags := 8, nameIndex := 57, descriptorIndex := 58, attributes := #[] }, { accessFlags := 4120, nameIndex := 19, descriptorIndex := 20, attributes := #[] }])
  fields := #[{ name := "low", type := .int, accessFlags := 24, slot := 0, constantValue := 0 }, { name := "high", type := .int, accessFlags := 24, slot := 1, constantValue := 0 }, { name := "cache", type := (.array (.object "java/lang/Integer")), accessFlags := 24, slot := 2, constantValue := 0 }, { name := "archivedCache", type := (.array (.object "java/lang/Integer")), accessFlags := 8, slot := 3, constantValue := 0 }, { name := "$assertionsDisabled", type := .boolean, accessFlags := 4120, slot := 4, constantValue := 0 }]
  methods := #[k10m0]
  instanceTypes := #[]
  staticTypes := #[.int, .int, (.array (.object "java/lang/Integer")), (.array (.object "java/lang/Integer")), .boolean]
  resolved := Array.replicate 100 none
  statics := some 1 }

def pool11 : Array CpInfo := pool [(1, u "java/lang/Cloneable"), (0, .class_ 1), (0, u "java/lang/Object"), (0, .class_ 3)] 3

/-- java/lang/Cloneable -/
def k11 : Class := { plain "java/lang/Cloneable" (some 0) with
  accessFlags := 1537
  interfaces := #[]
  cf := some (fileOf pool11 2 #[] #[] 1537 4 #[] #[])
  fields := #[]
  methods := #[]
  instanceTypes := #[]
  staticTypes := #[]
  resolved := Array.replicate 8 none
  statics := none }

/-- the primitive byte -/
def k12 : Class := { plain "byte" none with kind := .primitive 'B', accessFlags := 0x411 }
/-- [B -/
def k13 : Class := { plain "[B" (some 0) with kind := .array 12 .byte, interfaces := #[11, 4], accessFlags := 1041 }

/-- the primitive int -/
def k14 : Class := { plain "int" none with kind := .primitive 'I', accessFlags := 0x411 }
/-- [I -/
def k15 : Class := { plain "[I" (some 0) with kind := .array 14 .int, interfaces := #[11, 4], accessFlags := 1041 }

/-- [Ljava/lang/Integer; -/
def k16 : Class := { plain "[Ljava/lang/Integer;" (some 0) with kind := .array 9 (.object "java/lang/Integer"), interfaces := #[11, 4], accessFlags := 1041 }

def heap : Heap := #[{ cls := 3, slots := #[.int 0, .int 0, .ref 3], vm := .statics 3 },
  { cls := 10, slots := #[.int 0, .int 127, .ref 2, .null, .int 0], vm := .statics 10 },
  { cls := 16, slots := #[.ref 4, .ref 5, .ref 6, .ref 7, .ref 8, .ref 9, .ref 10, .ref 11, .ref 12, .ref 13, .ref 14, .ref 15, .ref 16, .ref 17, .ref 18, .ref 19, .ref 20, .ref 21, .ref 22, .ref 23, .ref 24, .ref 25, .ref 26, .ref 27, .ref 28, .ref 29, .ref 30, .ref 31, .ref 32, .ref 33, .ref 34, .ref 35, .ref 36, .ref 37, .ref 38, .ref 39, .ref 40, .ref 41, .ref 42, .ref 43, .ref 44, .ref 45, .ref 46, .ref 47, .ref 48, .ref 49, .ref 50, .ref 51, .ref 52, .ref 53, .ref 54, .ref 55, .ref 56, .ref 57, .ref 58, .ref 59, .ref 60, .ref 61, .ref 62, .ref 63, .ref 64, .ref 65, .ref 66, .ref 67, .ref 68, .ref 69, .ref 70, .ref 71, .ref 72, .ref 73, .ref 74, .ref 75, .ref 76, .ref 77, .ref 78, .ref 79, .ref 80, .ref 81, .ref 82, .ref 83, .ref 84, .ref 85, .ref 86, .ref 87, .ref 88, .ref 89, .ref 90, .ref 91, .ref 92, .ref 93, .ref 94, .ref 95, .ref 96, .ref 97, .ref 98, .ref 99, .ref 100, .ref 101, .ref 102, .ref 103, .ref 104, .ref 105, .ref 106, .ref 107, .ref 108, .ref 109, .ref 110, .ref 111, .ref 112, .ref 113, .ref 114, .ref 115, .ref 116, .ref 117, .ref 118, .ref 119, .ref 120, .ref 121, .ref 122, .ref 123, .ref 124, .ref 125, .ref 126, .ref 127, .ref 128, .ref 129, .ref 130, .ref 131, .ref 132, .ref 133, .ref 134, .ref 135, .ref 136, .ref 137, .ref 138, .ref 139, .ref 140, .ref 141, .ref 142, .ref 143, .ref 144, .ref 145, .ref 146, .ref 147, .ref 148, .ref 149, .ref 150, .ref 151, .ref 152, .ref 153, .ref 154, .ref 155, .ref 156, .ref 157, .ref 158, .ref 159, .ref 160, .ref 161, .ref 162, .ref 163, .ref 164, .ref 165, .ref 166, .ref 167, .ref 168, .ref 169, .ref 170, .ref 171, .ref 172, .ref 173, .ref 174, .ref 175, .ref 176, .ref 177, .ref 178, .ref 179, .ref 180, .ref 181, .ref 182, .ref 183, .ref 184, .ref 185, .ref 186, .ref 187, .ref 188, .ref 189, .ref 190, .ref 191, .ref 192, .ref 193, .ref 194, .ref 195, .ref 196, .ref 197, .ref 198, .ref 199, .ref 200, .ref 201, .ref 202, .ref 203, .ref 204, .ref 205, .ref 206, .ref 207, .ref 208, .ref 209, .ref 210, .ref 211, .ref 212, .ref 213, .ref 214, .ref 215, .ref 216, .ref 217, .ref 218, .ref 219, .ref 220, .ref 221, .ref 222, .ref 223, .ref 224, .ref 225, .ref 226, .ref 227, .ref 228, .ref 229, .ref 230, .ref 231, .ref 232, .ref 233, .ref 234, .ref 235, .ref 236, .ref 237, .ref 238, .ref 239, .ref 240, .ref 241, .ref 242, .ref 243, .ref 244, .ref 245, .ref 246, .ref 247, .ref 248, .ref 249, .ref 250, .ref 251, .ref 252, .ref 253, .ref 254, .ref 255, .ref 256, .ref 257, .ref 258, .ref 259], vm := .none },
  { cls := 3, slots := #[.null, .null, .int 0, .null], vm := .none },
  { cls := 9, slots := #[.int (-128)], vm := .none },
  { cls := 9, slots := #[.int (-127)], vm := .none },
  { cls := 9, slots := #[.int (-126)], vm := .none },
  { cls := 9, slots := #[.int (-125)], vm := .none },
  { cls := 9, slots := #[.int (-124)], vm := .none },
  { cls := 9, slots := #[.int (-123)], vm := .none },
  { cls := 9, slots := #[.int (-122)], vm := .none },
  { cls := 9, slots := #[.int (-121)], vm := .none },
  { cls := 9, slots := #[.int (-120)], vm := .none },
  { cls := 9, slots := #[.int (-119)], vm := .none },
  { cls := 9, slots := #[.int (-118)], vm := .none },
  { cls := 9, slots := #[.int (-117)], vm := .none },
  { cls := 9, slots := #[.int (-116)], vm := .none },
  { cls := 9, slots := #[.int (-115)], vm := .none },
  { cls := 9, slots := #[.int (-114)], vm := .none },
  { cls := 9, slots := #[.int (-113)], vm := .none },
  { cls := 9, slots := #[.int (-112)], vm := .none },
  { cls := 9, slots := #[.int (-111)], vm := .none },
  { cls := 9, slots := #[.int (-110)], vm := .none },
  { cls := 9, slots := #[.int (-109)], vm := .none },
  { cls := 9, slots := #[.int (-108)], vm := .none },
  { cls := 9, slots := #[.int (-107)], vm := .none },
  { cls := 9, slots := #[.int (-106)], vm := .none },
  { cls := 9, slots := #[.int (-105)], vm := .none },
  { cls := 9, slots := #[.int (-104)], vm := .none },
  { cls := 9, slots := #[.int (-103)], vm := .none },
  { cls := 9, slots := #[.int (-102)], vm := .none },
  { cls := 9, slots := #[.int (-101)], vm := .none },
  { cls := 9, slots := #[.int (-100)], vm := .none },
  { cls := 9, slots := #[.int (-99)], vm := .none },
  { cls := 9, slots := #[.int (-98)], vm := .none },
  { cls := 9, slots := #[.int (-97)], vm := .none },
  { cls := 9, slots := #[.int (-96)], vm := .none },
  { cls := 9, slots := #[.int (-95)], vm := .none },
  { cls := 9, slots := #[.int (-94)], vm := .none },
  { cls := 9, slots := #[.int (-93)], vm := .none },
  { cls := 9, slots := #[.int (-92)], vm := .none },
  { cls := 9, slots := #[.int (-91)], vm := .none },
  { cls := 9, slots := #[.int (-90)], vm := .none },
  { cls := 9, slots := #[.int (-89)], vm := .none },
  { cls := 9, slots := #[.int (-88)], vm := .none },
  { cls := 9, slots := #[.int (-87)], vm := .none },
  { cls := 9, slots := #[.int (-86)], vm := .none },
  { cls := 9, slots := #[.int (-85)], vm := .none },
  { cls := 9, slots := #[.int (-84)], vm := .none },
  { cls := 9, slots := #[.int (-83)], vm := .none },
  { cls := 9, slots := #[.int (-82)], vm := .none },
  { cls := 9, slots := #[.int (-81)], vm := .none },
  { cls := 9, slots := #[.int (-80)], vm := .none },
  { cls := 9, slots := #[.int (-79)], vm := .none },
  { cls := 9, slots := #[.int (-78)], vm := .none },
  { cls := 9, slots := #[.int (-77)], vm := .none },
  { cls := 9, slots := #[.int (-76)], vm := .none },
  { cls := 9, slots := #[.int (-75)], vm := .none },
  { cls := 9, slots := #[.int (-74)], vm := .none },
  { cls := 9, slots := #[.int (-73)], vm := .none },
  { cls := 9, slots := #[.int (-72)], vm := .none },
  { cls := 9, slots := #[.int (-71)], vm := .none },
  { cls := 9, slots := #[.int (-70)], vm := .none },
  { cls := 9, slots := #[.int (-69)], vm := .none },
  { cls := 9, slots := #[.int (-68)], vm := .none },
  { cls := 9, slots := #[.int (-67)], vm := .none },
  { cls := 9, slots := #[.int (-66)], vm := .none },
  { cls := 9, slots := #[.int (-65)], vm := .none },
  { cls := 9, slots := #[.int (-64)], vm := .none },
  { cls := 9, slots := #[.int (-63)], vm := .none },
  { cls := 9, slots := #[.int (-62)], vm := .none },
  { cls := 9, slots := #[.int (-61)], vm := .none },
  { cls := 9, slots := #[.int (-60)], vm := .none },
  { cls := 9, slots := #[.int (-59)], vm := .none },
  { cls := 9, slots := #[.int (-58)], vm := .none },
  { cls := 9, slots := #[.int (-57)], vm := .none },
  { cls := 9, slots := #[.int (-56)], vm := .none },
  { cls := 9, slots := #[.int (-55)], vm := .none },
  { cls := 9, slots := #[.int (-54)], vm := .none },
  { cls := 9, slots := #[.int (-53)], vm := .none },
  { cls := 9, slots := #[.int (-52)], vm := .none },
  { cls := 9, slots := #[.int (-51)], vm := .none },
  { cls := 9, slots := #[.int (-50)], vm := .none },
  { cls := 9, slots := #[.int (-49)], vm := .none },
  { cls := 9, slots := #[.int (-48)], vm := .none },
  { cls := 9, slots := #[.int (-47)], vm := .none },
  { cls := 9, slots := #[.int (-46)], vm := .none },
  { cls := 9, slots := #[.int (-45)], vm := .none },
  { cls := 9, slots := #[.int (-44)], vm := .none },
  { cls := 9, slots := #[.int (-43)], vm := .none },
  { cls := 9, slots := #[.int (-42)], vm := .none },
  { cls := 9, slots := #[.int (-41)], vm := .none },
  { cls := 9, slots := #[.int (-40)], vm := .none },
  { cls := 9, slots := #[.int (-39)], vm := .none },
  { cls := 9, slots := #[.int (-38)], vm := .none },
  { cls := 9, slots := #[.int (-37)], vm := .none },
  { cls := 9, slots := #[.int (-36)], vm := .none },
  { cls := 9, slots := #[.int (-35)], vm := .none },
  { cls := 9, slots := #[.int (-34)], vm := .none },
  { cls := 9, slots := #[.int (-33)], vm := .none },
  { cls := 9, slots := #[.int (-32)], vm := .none },
  { cls := 9, slots := #[.int (-31)], vm := .none },
  { cls := 9, slots := #[.int (-30)], vm := .none },
  { cls := 9, slots := #[.int (-29)], vm := .none },
  { cls := 9, slots := #[.int (-28)], vm := .none },
  { cls := 9, slots := #[.int (-27)], vm := .none },
  { cls := 9, slots := #[.int (-26)], vm := .none },
  { cls := 9, slots := #[.int (-25)], vm := .none },
  { cls := 9, slots := #[.int (-24)], vm := .none },
  { cls := 9, slots := #[.int (-23)], vm := .none },
  { cls := 9, slots := #[.int (-22)], vm := .none },
  { cls := 9, slots := #[.int (-21)], vm := .none },
  { cls := 9, slots := #[.int (-20)], vm := .none },
  { cls := 9, slots := #[.int (-19)], vm := .none },
  { cls := 9, slots := #[.int (-18)], vm := .none },
  { cls := 9, slots := #[.int (-17)], vm := .none },
  { cls := 9, slots := #[.int (-16)], vm := .none },
  { cls := 9, slots := #[.int (-15)], vm := .none },
  { cls := 9, slots := #[.int (-14)], vm := .none },
  { cls := 9, slots := #[.int (-13)], vm := .none },
  { cls := 9, slots := #[.int (-12)], vm := .none },
  { cls := 9, slots := #[.int (-11)], vm := .none },
  { cls := 9, slots := #[.int (-10)], vm := .none },
  { cls := 9, slots := #[.int (-9)], vm := .none },
  { cls := 9, slots := #[.int (-8)], vm := .none },
  { cls := 9, slots := #[.int (-7)], vm := .none },
  { cls := 9, slots := #[.int (-6)], vm := .none },
  { cls := 9, slots := #[.int (-5)], vm := .none },
  { cls := 9, slots := #[.int (-4)], vm := .none },
  { cls := 9, slots := #[.int (-3)], vm := .none },
  { cls := 9, slots := #[.int (-2)], vm := .none },
  { cls := 9, slots := #[.int (-1)], vm := .none },
  { cls := 9, slots := #[.int 0], vm := .none },
  { cls := 9, slots := #[.int 1], vm := .none },
  { cls := 9, slots := #[.int 2], vm := .none },
  { cls := 9, slots := #[.int 3], vm := .none },
  { cls := 9, slots := #[.int 4], vm := .none },
  { cls := 9, slots := #[.int 5], vm := .none },
  { cls := 9, slots := #[.int 6], vm := .none },
  { cls := 9, slots := #[.int 7], vm := .none },
  { cls := 9, slots := #[.int 8], vm := .none },
  { cls := 9, slots := #[.int 9], vm := .none },
  { cls := 9, slots := #[.int 10], vm := .none },
  { cls := 9, slots := #[.int 11], vm := .none },
  { cls := 9, slots := #[.int 12], vm := .none },
  { cls := 9, slots := #[.int 13], vm := .none },
  { cls := 9, slots := #[.int 14], vm := .none },
  { cls := 9, slots := #[.int 15], vm := .none },
  { cls := 9, slots := #[.int 16], vm := .none },
  { cls := 9, slots := #[.int 17], vm := .none },
  { cls := 9, slots := #[.int 18], vm := .none },
  { cls := 9, slots := #[.int 19], vm := .none },
  { cls := 9, slots := #[.int 20], vm := .none },
  { cls := 9, slots := #[.int 21], vm := .none },
  { cls := 9, slots := #[.int 22], vm := .none },
  { cls := 9, slots := #[.int 23], vm := .none },
  { cls := 9, slots := #[.int 24], vm := .none },
  { cls := 9, slots := #[.int 25], vm := .none },
  { cls := 9, slots := #[.int 26], vm := .none },
  { cls := 9, slots := #[.int 27], vm := .none },
  { cls := 9, slots := #[.int 28], vm := .none },
  { cls := 9, slots := #[.int 29], vm := .none },
  { cls := 9, slots := #[.int 30], vm := .none },
  { cls := 9, slots := #[.int 31], vm := .none },
  { cls := 9, slots := #[.int 32], vm := .none },
  { cls := 9, slots := #[.int 33], vm := .none },
  { cls := 9, slots := #[.int 34], vm := .none },
  { cls := 9, slots := #[.int 35], vm := .none },
  { cls := 9, slots := #[.int 36], vm := .none },
  { cls := 9, slots := #[.int 37], vm := .none },
  { cls := 9, slots := #[.int 38], vm := .none },
  { cls := 9, slots := #[.int 39], vm := .none },
  { cls := 9, slots := #[.int 40], vm := .none },
  { cls := 9, slots := #[.int 41], vm := .none },
  { cls := 9, slots := #[.int 42], vm := .none },
  { cls := 9, slots := #[.int 43], vm := .none },
  { cls := 9, slots := #[.int 44], vm := .none },
  { cls := 9, slots := #[.int 45], vm := .none },
  { cls := 9, slots := #[.int 46], vm := .none },
  { cls := 9, slots := #[.int 47], vm := .none },
  { cls := 9, slots := #[.int 48], vm := .none },
  { cls := 9, slots := #[.int 49], vm := .none },
  { cls := 9, slots := #[.int 50], vm := .none },
  { cls := 9, slots := #[.int 51], vm := .none },
  { cls := 9, slots := #[.int 52], vm := .none },
  { cls := 9, slots := #[.int 53], vm := .none },
  { cls := 9, slots := #[.int 54], vm := .none },
  { cls := 9, slots := #[.int 55], vm := .none },
  { cls := 9, slots := #[.int 56], vm := .none },
  { cls := 9, slots := #[.int 57], vm := .none },
  { cls := 9, slots := #[.int 58], vm := .none },
  { cls := 9, slots := #[.int 59], vm := .none },
  { cls := 9, slots := #[.int 60], vm := .none },
  { cls := 9, slots := #[.int 61], vm := .none },
  { cls := 9, slots := #[.int 62], vm := .none },
  { cls := 9, slots := #[.int 63], vm := .none },
  { cls := 9, slots := #[.int 64], vm := .none },
  { cls := 9, slots := #[.int 65], vm := .none },
  { cls := 9, slots := #[.int 66], vm := .none },
  { cls := 9, slots := #[.int 67], vm := .none },
  { cls := 9, slots := #[.int 68], vm := .none },
  { cls := 9, slots := #[.int 69], vm := .none },
  { cls := 9, slots := #[.int 70], vm := .none },
  { cls := 9, slots := #[.int 71], vm := .none },
  { cls := 9, slots := #[.int 72], vm := .none },
  { cls := 9, slots := #[.int 73], vm := .none },
  { cls := 9, slots := #[.int 74], vm := .none },
  { cls := 9, slots := #[.int 75], vm := .none },
  { cls := 9, slots := #[.int 76], vm := .none },
  { cls := 9, slots := #[.int 77], vm := .none },
  { cls := 9, slots := #[.int 78], vm := .none },
  { cls := 9, slots := #[.int 79], vm := .none },
  { cls := 9, slots := #[.int 80], vm := .none },
  { cls := 9, slots := #[.int 81], vm := .none },
  { cls := 9, slots := #[.int 82], vm := .none },
  { cls := 9, slots := #[.int 83], vm := .none },
  { cls := 9, slots := #[.int 84], vm := .none },
  { cls := 9, slots := #[.int 85], vm := .none },
  { cls := 9, slots := #[.int 86], vm := .none },
  { cls := 9, slots := #[.int 87], vm := .none },
  { cls := 9, slots := #[.int 88], vm := .none },
  { cls := 9, slots := #[.int 89], vm := .none },
  { cls := 9, slots := #[.int 90], vm := .none },
  { cls := 9, slots := #[.int 91], vm := .none },
  { cls := 9, slots := #[.int 92], vm := .none },
  { cls := 9, slots := #[.int 93], vm := .none },
  { cls := 9, slots := #[.int 94], vm := .none },
  { cls := 9, slots := #[.int 95], vm := .none },
  { cls := 9, slots := #[.int 96], vm := .none },
  { cls := 9, slots := #[.int 97], vm := .none },
  { cls := 9, slots := #[.int 98], vm := .none },
  { cls := 9, slots := #[.int 99], vm := .none },
  { cls := 9, slots := #[.int 100], vm := .none },
  { cls := 9, slots := #[.int 101], vm := .none },
  { cls := 9, slots := #[.int 102], vm := .none },
  { cls := 9, slots := #[.int 103], vm := .none },
  { cls := 9, slots := #[.int 104], vm := .none },
  { cls := 9, slots := #[.int 105], vm := .none },
  { cls := 9, slots := #[.int 106], vm := .none },
  { cls := 9, slots := #[.int 107], vm := .none },
  { cls := 9, slots := #[.int 108], vm := .none },
  { cls := 9, slots := #[.int 109], vm := .none },
  { cls := 9, slots := #[.int 110], vm := .none },
  { cls := 9, slots := #[.int 111], vm := .none },
  { cls := 9, slots := #[.int 112], vm := .none },
  { cls := 9, slots := #[.int 113], vm := .none },
  { cls := 9, slots := #[.int 114], vm := .none },
  { cls := 9, slots := #[.int 115], vm := .none },
  { cls := 9, slots := #[.int 116], vm := .none },
  { cls := 9, slots := #[.int 117], vm := .none },
  { cls := 9, slots := #[.int 118], vm := .none },
  { cls := 9, slots := #[.int 119], vm := .none },
  { cls := 9, slots := #[.int 120], vm := .none },
  { cls := 9, slots := #[.int 121], vm := .none },
  { cls := 9, slots := #[.int 122], vm := .none },
  { cls := 9, slots := #[.int 123], vm := .none },
  { cls := 9, slots := #[.int 124], vm := .none },
  { cls := 9, slots := #[.int 125], vm := .none },
  { cls := 9, slots := #[.int 126], vm := .none },
  { cls := 9, slots := #[.int 127], vm := .none }]
def classes : Array Class := #[k0, k1, k2, k3, k4, k5, k6, k7, k8, k9, k10, k11, k12, k13, k14, k15, k16]
def interned : List (Array UInt16 × Addr) := []
def slotsUsed : Nat := 524
def theMethod : MethodId := ⟨1, 1⟩
def args0 : Array Value := #[.int 5, .int 3]
def aboutOver (below : List Frame) : State where
  vm := { classes := classes, interned := interned.toArray }
  heap := heap
  slotsUsed := slotsUsed
  threads := #[{ frames := .invoking theMethod args0 :: below }]
def below0 : List Frame := [.native { method := ⟨0, 0⟩, args := #[] }]
def about1 : State := aboutOver below0
def p0 : Program := .bare "" "" ""
def e0 : Env := launch0.env 0 0 0
theorem w_frames : about1.frames = Frame.invoking theMethod args0 :: below0 := rfl
set_option maxRecDepth 65536 in
theorem w_args : argsFit about1.vm theMethod args0 = true := by decide +kernel
set_option maxRecDepth 65536 in
theorem w_heap : heapFits about1 = true := by decide +kernel
set_option maxRecDepth 65536 in
theorem w_runnable : about1.curStatus? = some .runnable := by decide +kernel
set_option maxRecDepth 65536 in
theorem w_alone : about1.alone = true := by decide +kernel
set_option maxRecDepth 65536 in
theorem w_named : about1.methodNamed? x = some theMethod := by decide +kernel
set_option maxRecDepth 65536 in
theorem w_hears : about1.hears theMethod below0 = true := by decide +kernel
set_option maxRecDepth 65536 in
theorem w_ripe : about1.ripe theMethod args0 below0 = true := by decide +kernel
theorem w_running : about1.status = .running := rfl
set_option maxRecDepth 65536 in
theorem w_room : about1.hasRoom e0.platform room_1 = true :=
  launch0.hasRoom_least _ room_1 (by decide +kernel) (by decide +kernel) (by decide +kernel) (by decide +kernel) (by decide +kernel) (by decide +kernel)
theorem allAtoms_all (ts : List Jvm.Cond) (a : Array Jvm.Value) (st : Jvm.State) : (allAtoms ts).before a st = ts.all (fun c => c.before a st) := by
  induction ts with
  | nil => rfl
  | cons c t ih =>
    show (Jvm.Cond.and c (allAtoms t)).before a st = _
    rw [Jvm.Cond.before_and, ih, List.all_cons]
def words1 : List Jvm.Cond := Jvm.Cond.code x code maxLocals ret :: tables_1
/-- a 'code' word, met by the world's own term for the bytes: nothing is compared byte by byte -/
theorem code_word {y : MethodName} {bytes : ByteArray} {mx : Nat} {rt : Option FieldType} {a : Array Value} {s : State} {m : MethodId} {meth : Method} {c : Code} (h1 : s.methodNamed? y = some m) (h2 : s.vm.method? m = some meth) (h3 : meth.code = some c) (h4 : c.code = bytes)
    (h5 : (c.maxLocals == mx && c.exceptionTable.isEmpty && decide (c.maxStack ≤ mostOperands) && decide (meth.sig.returnType = rt) && !meth.locks && decide (parseMethodDescriptor y.desc = some meth.sig)) = true) : (Jvm.Cond.code y bytes mx rt).before a s = true := by
  simp only [Bool.and_eq_true, beq_iff_eq, Bool.not_eq_true', decide_eq_true_eq] at h5
  obtain ⟨⟨⟨⟨⟨g1, g2⟩, g3⟩, g4⟩, g5⟩, g6⟩ := h5
  simp [Cond.before, Cond.holds, Cond.value, h1, h2, h3, h4, g1, g2, g3, g4, g5, g6]
def isCode : Jvm.Cond → Bool
  | .code _ _ _ _ => true
  | _ => false
theorem all_split {L : List Jvm.Cond} {P : Jvm.Cond → Bool} (h1 : L.all (fun c => isCode c || P c) = true) (h2 : ∀ c ∈ L.filter isCode, P c = true) : L.all P = true := by
  refine List.all_eq_true.mpr fun c hc => ?_
  have h := List.all_eq_true.mp h1 c hc
  rcases Bool.eq_false_or_eq_true (isCode c) with hi | hi
  · exact h2 c (List.mem_filter.mpr ⟨hc, hi⟩)
  · simpa [hi] using h
set_option maxRecDepth 65536 in
theorem w_c0 : (Jvm.Cond.code x code maxLocals ret).before args0 about1 = true := code_word (m := ⟨1, 1⟩) (meth := k1m1) (c := k1c1) (by decide +kernel) rfl rfl rfl (by decide +kernel)
set_option maxRecDepth 65536 in
theorem w_c1 : (Jvm.Cond.code ({ cls := "com/example/pufferfish/pufferfish/pipeline/Envelope", name := "signal", desc := "(Ljava/lang/Object;)Lcom/example/pufferfish/pufferfish/pipeline/Envelope;" } : Jvm.MethodName) prog_31_method_3_code (1 : Nat) (Option.some (Jvm.ClassFile.FieldType.object "com/example/pufferfish/pufferfish/pipeline/Envelope"))).before args0 about1 = true := code_word (m := ⟨3, 1⟩) (meth := k3m1) (c := k3c1) (by decide +kernel) rfl rfl rfl (by decide +kernel)
set_option maxRecDepth 65536 in
theorem w_c2 : (Jvm.Cond.code ({ cls := "com/example/pufferfish/pufferfish/pipeline/Envelope", name := "<init>", desc := "(Lcom/example/pufferfish/pufferfish/pipeline/Origin;Ljava/lang/Object;ILjava/lang/Object;)V" } : Jvm.MethodName) prog_31_method_2_code (5 : Nat) (Option.none : Option Jvm.ClassFile.FieldType)).before args0 about1 = true := code_word (m := ⟨3, 0⟩) (meth := k3m0) (c := k3c0) (by decide +kernel) rfl rfl rfl (by decide +kernel)
set_option maxRecDepth 65536 in
theorem w_c3 : (Jvm.Cond.code ({ cls := "java/lang/Record", name := "<init>", desc := "()V" } : Jvm.MethodName) jdk_30_method_1_code (1 : Nat) (Option.none : Option Jvm.ClassFile.FieldType)).before args0 about1 = true := code_word (m := ⟨2, 0⟩) (meth := k2m0) (c := k2c0) (by decide +kernel) rfl rfl rfl (by decide +kernel)
set_option maxRecDepth 65536 in
theorem w_c4 : (Jvm.Cond.code ({ cls := "java/lang/Object", name := "<init>", desc := "()V" } : Jvm.MethodName) object_method_1_code (1 : Nat) (Option.none : Option Jvm.ClassFile.FieldType)).before args0 about1 = true := code_word (m := ⟨0, 0⟩) (meth := k0m0) (c := k0c0) (by decide +kernel) rfl rfl rfl (by decide +kernel)
set_option maxRecDepth 65536 in
theorem w_c5 : (Jvm.Cond.code ({ cls := "com/example/pufferfish/pufferfish/pipeline/Envelope", name := "origin", desc := "()Lcom/example/pufferfish/pufferfish/pipeline/Origin;" } : Jvm.MethodName) prog_31_method_7_code (1 : Nat) (Option.some (Jvm.ClassFile.FieldType.object "com/example/pufferfish/pufferfish/pipeline/Origin"))).before args0 about1 = true := code_word (m := ⟨3, 2⟩) (meth := k3m2) (c := k3c2) (by decide +kernel) rfl rfl rfl (by decide +kernel)
set_option maxRecDepth 65536 in
theorem w_c6 : (Jvm.Cond.code ({ cls := "com/example/pufferfish/pufferfish/pipeline/Envelope", name := "key", desc := "()Ljava/lang/Object;" } : Jvm.MethodName) prog_31_method_8_code (1 : Nat) (Option.some (Jvm.ClassFile.FieldType.object "java/lang/Object"))).before args0 about1 = true := code_word (m := ⟨3, 3⟩) (meth := k3m3) (c := k3c3) (by decide +kernel) rfl rfl rfl (by decide +kernel)
set_option maxRecDepth 65536 in
theorem w_c7 : (Jvm.Cond.code ({ cls := "com/example/pufferfish/pufferfish/pipeline/Envelope", name := "shard", desc := "()I" } : Jvm.MethodName) prog_31_method_9_code (1 : Nat) (Option.some Jvm.ClassFile.FieldType.int)).before args0 about1 = true := code_word (m := ⟨3, 4⟩) (meth := k3m4) (c := k3c4) (by decide +kernel) rfl rfl rfl (by decide +kernel)
set_option maxRecDepth 65536 in
theorem w_c8 : (Jvm.Cond.code ({ cls := "com/example/pufferfish/pufferfish/pipeline/Envelope", name := "record", desc := "()Ljava/lang/Object;" } : Jvm.MethodName) prog_31_method_10_code (1 : Nat) (Option.some (Jvm.ClassFile.FieldType.object "java/lang/Object"))).before args0 about1 = true := code_word (m := ⟨3, 5⟩) (meth := k3m5) (c := k3c5) (by decide +kernel) rfl rfl rfl (by decide +kernel)
set_option maxRecDepth 65536 in
theorem w_c9 : (Jvm.Cond.code ({ cls := "java/lang/Integer", name := "valueOf", desc := "(I)Ljava/lang/Integer;" } : Jvm.MethodName) jdk_33_method_22_code (1 : Nat) (Option.some (Jvm.ClassFile.FieldType.object "java/lang/Integer"))).before args0 about1 = true := code_word (m := ⟨9, 0⟩) (meth := k9m0) (c := k9c0) (by decide +kernel) rfl rfl rfl (by decide +kernel)
set_option maxRecDepth 65536 in
theorem w_c10 : (Jvm.Cond.code ({ cls := "java/lang/Integer", name := "<init>", desc := "(I)V" } : Jvm.MethodName) jdk_33_method_23_code (2 : Nat) (Option.none : Option Jvm.ClassFile.FieldType)).before args0 about1 = true := code_word (m := ⟨9, 1⟩) (meth := k9m1) (c := k9c1) (by decide +kernel) rfl rfl rfl (by decide +kernel)
set_option maxRecDepth 65536 in
theorem w_c11 : (Jvm.Cond.code ({ cls := "java/lang/Number", name := "<init>", desc := "()V" } : Jvm.MethodName) jdk_18_method_1_code (1 : Nat) (Option.none : Option Jvm.ClassFile.FieldType)).before args0 about1 = true := code_word (m := ⟨5, 0⟩) (meth := k5m0) (c := k5c0) (by decide +kernel) rfl rfl rfl (by decide +kernel)
def codes1 : List Jvm.Cond := [Jvm.Cond.code x code maxLocals ret, Jvm.Cond.code ({ cls := "com/example/pufferfish/pufferfish/pipeline/Envelope", name := "signal", desc := "(Ljava/lang/Object;)Lcom/example/pufferfish/pufferfish/pipeline/Envelope;" } : Jvm.MethodName) prog_31_method_3_code (1 : Nat) (Option.some (Jvm.ClassFile.FieldType.object "com/example/pufferfish/pufferfish/pipeline/Envelope")), Jvm.Cond.code ({ cls := "com/example/pufferfish/pufferfish/pipeline/Envelope", name := "<init>", desc := "(Lcom/example/pufferfish/pufferfish/pipeline/Origin;Ljava/lang/Object;ILjava/lang/Object;)V" } : Jvm.MethodName) prog_31_method_2_code (5 : Nat) (Option.none : Option Jvm.ClassFile.FieldType), Jvm.Cond.code ({ cls := "java/lang/Record", name := "<init>", desc := "()V" } : Jvm.MethodName) jdk_30_method_1_code (1 : Nat) (Option.none : Option Jvm.ClassFile.FieldType), Jvm.Cond.code ({ cls := "java/lang/Object", name := "<init>", desc := "()V" } : Jvm.MethodName) object_method_1_code (1 : Nat) (Option.none : Option Jvm.ClassFile.FieldType), Jvm.Cond.code ({ cls := "com/example/pufferfish/pufferfish/pipeline/Envelope", name := "origin", desc := "()Lcom/example/pufferfish/pufferfish/pipeline/Origin;" } : Jvm.MethodName) prog_31_method_7_code (1 : Nat) (Option.some (Jvm.ClassFile.FieldType.object "com/example/pufferfish/pufferfish/pipeline/Origin")), Jvm.Cond.code ({ cls := "com/example/pufferfish/pufferfish/pipeline/Envelope", name := "key", desc := "()Ljava/lang/Object;" } : Jvm.MethodName) prog_31_method_8_code (1 : Nat) (Option.some (Jvm.ClassFile.FieldType.object "java/lang/Object")), Jvm.Cond.code ({ cls := "com/example/pufferfish/pufferfish/pipeline/Envelope", name := "shard", desc := "()I" } : Jvm.MethodName) prog_31_method_9_code (1 : Nat) (Option.some Jvm.ClassFile.FieldType.int), Jvm.Cond.code ({ cls := "com/example/pufferfish/pufferfish/pipeline/Envelope", name := "record", desc := "()Ljava/lang/Object;" } : Jvm.MethodName) prog_31_method_10_code (1 : Nat) (Option.some (Jvm.ClassFile.FieldType.object "java/lang/Object")), Jvm.Cond.code ({ cls := "java/lang/Integer", name := "valueOf", desc := "(I)Ljava/lang/Integer;" } : Jvm.MethodName) jdk_33_method_22_code (1 : Nat) (Option.some (Jvm.ClassFile.FieldType.object "java/lang/Integer")), Jvm.Cond.code ({ cls := "java/lang/Integer", name := "<init>", desc := "(I)V" } : Jvm.MethodName) jdk_33_method_23_code (2 : Nat) (Option.none : Option Jvm.ClassFile.FieldType), Jvm.Cond.code ({ cls := "java/lang/Number", name := "<init>", desc := "()V" } : Jvm.MethodName) jdk_18_method_1_code (1 : Nat) (Option.none : Option Jvm.ClassFile.FieldType)]
set_option maxRecDepth 65536 in
theorem codes_eq : words1.filter isCode = codes1 := rfl
theorem w_codes : ∀ c ∈ words1.filter isCode, c.before args0 about1 = true := by
  rw [codes_eq]
  intro c hc
  simp only [codes1, List.mem_cons, List.not_mem_nil, or_false] at hc
  rcases hc with rfl | rfl | rfl | rfl | rfl | rfl | rfl | rfl | rfl | rfl | rfl | rfl
  · exact w_c0
  · exact w_c1
  · exact w_c2
  · exact w_c3
  · exact w_c4
  · exact w_c5
  · exact w_c6
  · exact w_c7
  · exact w_c8
  · exact w_c9
  · exact w_c10
  · exact w_c11
set_option maxRecDepth 65536 in
theorem w_t1 : (words1.take 24).all (fun c => isCode c || c.before args0 about1) = true := by decide +kernel
set_option maxRecDepth 65536 in
theorem w_t2 : ((words1.drop 24).take 24).all (fun c => isCode c || c.before args0 about1) = true := by decide +kernel
set_option maxRecDepth 65536 in
theorem w_t3 : ((words1.drop 24).drop 24).all (fun c => isCode c || c.before args0 about1) = true := by decide +kernel
theorem w_tables : (allAtoms (Jvm.Cond.code x code maxLocals ret :: tables_1)).before args0 about1 = true := by
  rw [allAtoms_all]
  show words1.all (fun c => c.before args0 about1) = true
  refine all_split ?_ w_codes
  rw [← List.take_append_drop 24 words1, List.all_append, w_t1, ← List.take_append_drop 24 (words1.drop 24), List.all_append, w_t2, w_t3]
  rfl
set_option maxRecDepth 65536 in
theorem w_rest : rest_1_c.before args0 about1 = true := by decide +kernel
set_option maxRecDepth 65536 in
theorem w_case : (Jvm.Cond.and given_1 narrow_1).before args0 about1 = true := by decide +kernel
theorem w_applies : (headSpec (Jvm.Cond.code x code maxLocals ret :: tables_1) room_1).applies x e0.platform about1 = true :=
  (Spec.applies_iff w_frames).mpr ⟨w_running, w_runnable, w_alone, w_named, w_hears, w_ripe, w_room, w_tables⟩
theorem atStart : AtStart classFile x code maxLocals ret World_1 tables_1 room_1 Calls_1 rest_1 Pre_1 launch0 p0 e0 about1 theMethod args0 below0 :=
  ⟨lists_1, trivial, launch0.admits_env _ _ _, launch0.least_env, fairChoices_fair.cas, fairChoices_fair.clock, w_frames, w_args, w_heap, w_applies, trivial, w_rest, w_case⟩
end start1
theorem witness_1 : WitnessClaimed_1 := ⟨start1.p0, start1.e0, start1.about1, start1.theMethod, start1.args0, start1.below0, start1.atStart⟩
end Jvm.Pilot.@@N@@
